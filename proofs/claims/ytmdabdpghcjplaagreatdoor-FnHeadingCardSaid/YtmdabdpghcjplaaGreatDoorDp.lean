/- What is printed: the buffer's contracts, and a document's blocks one behind the other. -/
import Derived.Test.YtmdabdpghcjplaaGreatDoorBu
import Derived.Test.YtmdabdpghcjplaaGreatDoorBl
import Derived.Test.YtmdabdpghcjplaaGreatDoorTop
namespace Go.Proofs.YtmdabdpghcjplaaGreatDoor
open Go.RowKit Sl

/-- A block (or an inline) v whose HTML is out, wherever T holds, behind a text that A allows. -/
structure Prt (A : List UInt8 → Prop) (T : HP) (v : Value) (out : List UInt8) : Prop where
  run : ∃ (Ty : TypeId) (a : Addr) (f : FuncId), v = .iface Ty (.pointer (some a)) ∧ (∀ w, (method 477 Ty (.pointer (some a)) "PrintHTML").run Tryz.prog w = .ok (f, .pointer (some a)) w) ∧
    (∀ w, (nilAhead 477 Ty (.pointer (some a)) "PrintHTML").run Tryz.prog w = .ok (some false) w) ∧ (∀ (args : Array Value) (w : World), (callFunc f args).run Tryz.prog w = .ok (.enter f args) w) ∧
    ∀ (W : World) (F : HP) (w : World) (b : Nat) (l : List UInt8), Sat W (T * F) → A l → Below W.heap.size W w → IsBuf W.heap.size b l w → l.length + out.length ≤ 1000000000000 →
      Calls Tryz.prog f #[.pointer (some a), .pointer (some ⟨b, 0, none⟩)] w fun e w' => e = .returned (.tuple #[]) ∧ IsBuf W.heap.size b (l ++ out) w' ∧ Below W.heap.size W w'

set_option maxRecDepth 100000 in
set_option maxHeartbeats 1000000 in
theorem docPrint_w (A : List UInt8 → Prop) (d b : Nat) (st en lk : Value) (inn : SV) (items : List Value) (outs : List (List UInt8)) (T F : HP) (W w : World) (l : List UInt8) (hi : inn.len = items.length) (h1 : items.length ≤ 1000000000)
    (hs : Sat W (row d 341 [st, en, inn.v, lk] * (arr 70 1 inn.v inn.len items * (T * F)))) (ho : outs.length = items.length)
    (hp : ∀ (i : Nat) (v : Value) (o : List UInt8), items[i]? = some v → outs[i]? = some o → Prt A T v o) (hA : ∀ k, k < items.length → A (l ++ (outs.take k).flatten)) (hb : Below W.heap.size W w) (hB : IsBuf W.heap.size b l w) (hl : l.length + outs.flatten.length ≤ 1000000000000) :
    Calls Tryz.prog 238 #[.pointer (some ⟨d, 0, none⟩), .pointer (some ⟨b, 0, none⟩)] w fun e w' => e = .returned (.tuple #[]) ∧ IsBuf W.heap.size b (l ++ outs.flatten) w' ∧ Below W.heap.size W w' := by
  have hd : w.cell? ⟨d, 2, none⟩ = some inn.v := (hb.cell (p := ⟨d, 2, none⟩) hs.row_lt).trans (hs.cell 2 rfl)
  have hT : Sat W (T * (row d 341 [st, en, inn.v, lk] * (arr 70 1 inn.v inn.len items * F))) := hs.cast (by ac_rfl)
  have hc : ∀ w' k v, Below W.heap.size W w' → items[k]? = some v → ∃ g, inn.a = some ⟨g, 0, none⟩ ∧ w'.cell? ⟨g, k, none⟩ = some v := by
    intro w' k v hb' hk
    rcases hs.swap.arr_cases with ⟨_, h, hx, _⟩ | ⟨g, cap, junk, hv, _, _, _, _, hr⟩
    · rw [hx] at hk; cases hk
    · refine ⟨g, ?_, ?_⟩
      · unfold SV.v at hv
        injection hv with h1 h2 h3
      · refine (hb'.cell (p := ⟨g, k, none⟩) hr.row_lt).trans (hr.cell k ?_)
        rw [List.getElem?_append_left (List.getElem?_eq_some_iff.1 hk).1]; exact hk
  have HC := Lib.hid hc
  clear hc hs
  unfold SV.v at hd
  rw [hi] at hd
  have hout : ∀ k v, items[k]? = some v → ∃ o, outs[k]? = some o ∧ Prt A T v o ∧ A (l ++ (outs.take k).flatten) ∧ (outs.take (k + 1)).flatten = (outs.take k).flatten ++ o ∧ (outs.take (k + 1)).flatten.length ≤ outs.flatten.length := by
    intro k v hk
    have hlt : k < outs.length := by rw [ho]; exact (List.getElem?_eq_some_iff.1 hk).1
    refine ⟨outs[k], by simp [hlt], hp k v outs[k] hk (by simp [hlt]), hA k (by omega), ?_, ?_⟩
    · rw [List.take_succ_eq_append_getElem hlt, List.flatten_append]; simp
    · have := congrArg (fun l => l.flatten.length) (List.take_append_drop (k + 1) outs)
      simp only [List.flatten_append, List.length_append] at this
      omega
  have HO := Lib.hid hout
  clear hout hp
  have hlt0 : ∀ k, k < items.length → ∃ v, items[k]? = some v := fun k hk => ⟨items[k], by simp [hk]⟩
  obtain ⟨n, hn⟩ : ∃ n, n = items.length := ⟨_, rfl⟩
  rw [← hn] at hd hlt0 h1
  have HLT := Lib.hid hlt0
  clear hlt0
  have hnil : n = 0 → outs = [] := fun h0 => List.eq_nil_of_length_eq_zero (by omega)
  clear hi
  go_enter Tryz.func238, Tryz.ntmps238
  go_wp2
  go_loopw [11] (fun i wr => ∃ k : Nat, k ≤ n ∧ i = .int .i64 k ∧ IsBuf W.heap.size b (l ++ (outs.take k).flatten) wr ∧ Below W.heap.size W wr) (fun i _ => n - (intOf i).toNat)
  case atStart => exact ⟨0, Nat.zero_le _, rfl, by simpa using hB, hb⟩
  case round =>
    obtain ⟨k, hk, rfl, hB, hb⟩ := hrel
    by_cases hlt : k < n
    · obtain ⟨v, hv⟩ := HLT.out k hlt
      obtain ⟨o, ho1, ⟨Ty, a, f, rfl, hm, hna, hen, hrun⟩, hAk, ho2, ho3⟩ := HO.out k v hv
      obtain ⟨g, hg, ck⟩ := HC.out wr k _ hb hv
      have hr := hrun W _ wr b _ hT hAk hb hB (by rw [ho2] at ho3; simp only [List.length_append] at ho3 ⊢; omega)
      have HR := Lib.hid hr
      rw [hg]
      clear hrun hr hv
      go_wp2_with fail
      refine HR.out.mono ?_
      rintro e w' ⟨rfl, hB2, hb2⟩
      go_wp2
      go_roundw
      case rel => exact ⟨k + 1, by omega, by go_num, by rw [ho2, ← List.append_assoc]; exact hB2, hb2⟩
      case measure => simp [intOf]; omega
    · obtain rfl : k = n := by omega
      go_wp2
      go_end0
      refine ⟨rfl, ?_, hb⟩
      rwa [List.take_of_length_le (by omega)] at hB

set_option maxRecDepth 100000 in
set_option maxHeartbeats 1000000 in
theorem tbPrint_w (W w : World) (a : Addr) (b : Nat) (l : List UInt8) (hb : Below W.heap.size W w) (hB : IsBuf W.heap.size b l w) (hl : l.length + 7 ≤ 1000000000000) :
    Calls Tryz.prog 327 #[.pointer (some a), .pointer (some ⟨b, 0, none⟩)] w fun e w' => e = .returned (.tuple #[]) ∧ IsBuf W.heap.size b (l ++ [60, 104, 114, 32, 47, 62, 10]) w' ∧ Below W.heap.size W w' := by
  go_enter Tryz.func327, Tryz.ntmps327
  go_wp2_with fail
  refine (bufWrite_w W b l ⟨#[60, 104, 114, 32, 47, 62, 10]⟩ w hb hB hl).mono ?_
  rintro e w' ⟨rfl, hB2, hb2⟩
  go_wp2
  go_end0
  exact ⟨rfl, hB2, hb2⟩

theorem prt_tb (A : List UInt8 → Prop) (T : HP) (a : Addr) : Prt A T (.iface 240 (.pointer (some a))) [60, 104, 114, 32, 47, 62, 10] :=
  ⟨_, a, 327, rfl, fun w => meth_ThematicBreak_PrintHTML a w, fun w => ahead_ThematicBreak_PrintHTML a w, enters_of Tryz.func327 (by kernel_rfl) rfl,
    fun W _ w b l _ _ hb hB hl => tbPrint_w W w a b l hb hB hl⟩

set_option maxRecDepth 100000 in
set_option maxHeartbeats 1000000 in
theorem toHTML_w (A : List UInt8 → Prop) (d : Nat) (st en lk : Value) (inn : SV) (items : List Value) (outs : List (List UInt8)) (T F : HP) (W : World) (hi : inn.len = items.length) (h1 : items.length ≤ 1000000000)
    (hs : Sat W (row d 341 [st, en, inn.v, lk] * (arr 70 1 inn.v inn.len items * (T * F)))) (ho : outs.length = items.length)
    (hp : ∀ (i : Nat) (v : Value) (o : List UInt8), items[i]? = some v → outs[i]? = some o → Prt A T v o) (hA : ∀ k, k < items.length → A (outs.take k).flatten) (hl : outs.flatten.length ≤ 1000000000000) :
    Calls Tryz.prog 27 #[.iface 45 (.pointer (some ⟨d, 0, none⟩))] W fun e w' => e = .returned (.string (B.bs outs.flatten)) ∧ Sat w' F := by
  have m1 := fun w => meth_Document_PrintHTML ⟨d, 0, none⟩ w
  have n1 := fun w => ahead_Document_PrintHTML ⟨d, 0, none⟩ w
  have hF : Sat W F := hs.drop1.drop1.drop1
  have hbuf : IsBuf W.heap.size W.heap.size [] (W.alloc (.cells #[.slice none 0 0, .int .i64 0, .int .i8 0] 74)) := Lib.fresh_isBuffer 74 5 W
  have hP := docPrint_w A d W.heap.size st en lk inn items outs T F W _ [] hi h1 hs ho hp (by simpa using hA) ((Below.refl _ W).alloc (Nat.le_refl _) _) hbuf (by simpa using hl)
  have HP := Lib.hid hP
  clear hP
  go_enter Tryz.func27, Tryz.ntmps27
  go_wp2_with fail
  refine HP.out.mono ?_
  rintro e w1 ⟨rfl, hB, hb⟩
  go_wp2_with fail
  refine (Sh.Buffer_String _ _ _ _ hB).mono ?_
  rintro e w2 ⟨rfl, n, rfl⟩
  go_wp2
  go_ret
  exact ⟨rfl, (hF.ext hb).drewN n⟩

end Go.Proofs.YtmdabdpghcjplaaGreatDoor
