/- What is printed: the buffer's contracts, and a document's blocks one behind the other. -/
import Derived.Test.YtbfmmikllelfeaaGreatDoorLe
import Derived.Test.YtbfmmikllelfeaaGreatDoorEs
import Derived.Test.YtbfmmikllelfeaaGreatDoorKi
import Derived.Test.YtbfmmikllelfeaaGreatDoorTop
import Derived.Test.YtbfmmikllelfeaaGreatDoorG5
import Derived.Test.YtbfmmikllelfeaaGreatDoorI5
import Derived.Test.YtbfmmikllelfeaaGreatDoorB
import Derived.Deep.RegionLaw
namespace Go.Proofs.YtbfmmikllelfeaaGreatDoor
open Go.RowKit Sl

/-- A block (or an inline) v whose HTML is out, wherever T holds, behind a text that A allows. -/
structure Prt (A : List UInt8 → Prop) (T : HP) (v : Value) (out : List UInt8) : Prop where
  run : ∃ (Ty : TypeId) (a : Addr) (f : FuncId), v = .iface Ty (.pointer (some a)) ∧ (∀ w, (method 527 Ty (.pointer (some a)) "PrintHTML").run Tryz.prog w = .ok (f, .pointer (some a)) w) ∧
    (∀ w, (nilAhead 527 Ty (.pointer (some a)) "PrintHTML").run Tryz.prog w = .ok (some false) w) ∧ (∀ (args : Array Value) (w : World), (callFunc f args).run Tryz.prog w = .ok (.enter f args) w) ∧
    ∀ (W : World) (F : HP) (w : World) (b : Nat) (l : List UInt8), Sat W (T * F) → A l → Below W.heap.size W w → IsBuf W.heap.size b l w → l.length + out.length ≤ 1000000000000 →
      Calls Tryz.prog f #[.pointer (some a), .pointer (some ⟨b, 0, none⟩)] w fun e w' => e = .returned (.tuple #[]) ∧ IsBuf W.heap.size b (l ++ out) w' ∧ Below W.heap.size W w'

set_option maxRecDepth 100000 in
set_option maxHeartbeats 1000000 in
theorem docPrint_w (A : List UInt8 → Prop) (d b : Nat) (st en lk : Value) (inn : SV) (items : List Value) (outs : List (List UInt8)) (T F : HP) (W w : World) (l : List UInt8) (hi : inn.len = items.length) (h1 : items.length ≤ 1000000000)
    (hs : Sat W (row d 117 [st, en, inn.v, lk] * (arr 97 1 inn.v inn.len items * (T * F)))) (ho : outs.length = items.length)
    (hp : ∀ (i : Nat) (v : Value) (o : List UInt8), items[i]? = some v → outs[i]? = some o → Prt A T v o) (hA : ∀ k, k < items.length → A (l ++ (outs.take k).flatten)) (hb : Below W.heap.size W w) (hB : IsBuf W.heap.size b l w) (hl : l.length + outs.flatten.length ≤ 1000000000000) :
    Calls Tryz.prog 300 #[.pointer (some ⟨d, 0, none⟩), .pointer (some ⟨b, 0, none⟩)] w fun e w' => e = .returned (.tuple #[]) ∧ IsBuf W.heap.size b (l ++ outs.flatten) w' ∧ Below W.heap.size W w' := by
  have hd : w.cell? ⟨d, 2, none⟩ = some inn.v := (hb.cell (p := ⟨d, 2, none⟩) hs.row_lt).trans (hs.cell 2 rfl)
  have hT : Sat W (T * (row d 117 [st, en, inn.v, lk] * (arr 97 1 inn.v inn.len items * F))) := hs.cast (by ac_rfl)
  have hc : ∀ w' k v, Below W.heap.size W w' → items[k]? = some v → ∃ g, inn.a = some ⟨g, 0, none⟩ ∧ w'.cell? ⟨g, k, none⟩ = some v := by
    intro w' k v hb' hk
    rcases hs.swap.arr_cases with ⟨_, h, hx, _⟩ | ⟨g, cap, junk, hv, _, _, _, _, hr⟩
    · rw [hx] at hk; cases hk
    · refine ⟨g, ?_, ?_⟩
      · unfold SV.v at hv
        injection hv with h1 h2 h3
      · refine (hb'.cell (p := ⟨g, k, none⟩) hr.row_lt).trans (hr.cell k ?_)
        rw [List.getElem?_append_left (List.getElem?_eq_some_iff.1 hk).1]; exact hk
  have HC := Lib.hid hc
  clear hc hs
  unfold SV.v at hd
  rw [hi] at hd
  have hout : ∀ k v, items[k]? = some v → ∃ o, outs[k]? = some o ∧ Prt A T v o ∧ A (l ++ (outs.take k).flatten) ∧ (outs.take (k + 1)).flatten = (outs.take k).flatten ++ o ∧ (outs.take (k + 1)).flatten.length ≤ outs.flatten.length := by
    intro k v hk
    have hlt : k < outs.length := by rw [ho]; exact (List.getElem?_eq_some_iff.1 hk).1
    refine ⟨outs[k], by simp [hlt], hp k v outs[k] hk (by simp [hlt]), hA k (by omega), ?_, ?_⟩
    · rw [List.take_succ_eq_append_getElem hlt, List.flatten_append]; simp
    · have := congrArg (fun l => l.flatten.length) (List.take_append_drop (k + 1) outs)
      simp only [List.flatten_append, List.length_append] at this
      omega
  have HO := Lib.hid hout
  clear hout hp
  have hlt0 : ∀ k, k < items.length → ∃ v, items[k]? = some v := fun k hk => ⟨items[k], by simp [hk]⟩
  obtain ⟨n, hn⟩ : ∃ n, n = items.length := ⟨_, rfl⟩
  rw [← hn] at hd hlt0 h1
  have HLT := Lib.hid hlt0
  clear hlt0
  have hnil : n = 0 → outs = [] := fun h0 => List.eq_nil_of_length_eq_zero (by omega)
  clear hi
  go_enter Tryz.func300, Tryz.ntmps300
  go_wp2
  go_loopw [11] (fun i wr => ∃ k : Nat, k ≤ n ∧ i = .int .i64 k ∧ IsBuf W.heap.size b (l ++ (outs.take k).flatten) wr ∧ Below W.heap.size W wr) (fun i _ => n - (intOf i).toNat)
  case atStart => exact ⟨0, Nat.zero_le _, rfl, by simpa using hB, hb⟩
  case round =>
    obtain ⟨k, hk, rfl, hB, hb⟩ := hrel
    by_cases hlt : k < n
    · obtain ⟨v, hv⟩ := HLT.out k hlt
      obtain ⟨o, ho1, ⟨Ty, a, f, rfl, hm, hna, hen, hrun⟩, hAk, ho2, ho3⟩ := HO.out k v hv
      obtain ⟨g, hg, ck⟩ := HC.out wr k _ hb hv
      have hr := hrun W _ wr b _ hT hAk hb hB (by rw [ho2] at ho3; simp only [List.length_append] at ho3 ⊢; omega)
      have HR := Lib.hid hr
      rw [hg]
      clear hrun hr hv
      go_wp2_with fail
      refine HR.out.mono ?_
      rintro e w' ⟨rfl, hB2, hb2⟩
      go_wp2
      go_roundw
      case rel => exact ⟨k + 1, by omega, by go_num, by rw [ho2, ← List.append_assoc]; exact hB2, hb2⟩
      case measure => simp [intOf]; omega
    · obtain rfl : k = n := by omega
      go_wp2
      go_end0
      refine ⟨rfl, ?_, hb⟩
      rwa [List.take_of_length_le (by omega)] at hB

set_option maxRecDepth 100000 in
set_option maxHeartbeats 1000000 in
theorem tbPrint_w (W w : World) (a : Addr) (b : Nat) (l : List UInt8) (hb : Below W.heap.size W w) (hB : IsBuf W.heap.size b l w) (hl : l.length + 7 ≤ 1000000000000) :
    Calls Tryz.prog 333 #[.pointer (some a), .pointer (some ⟨b, 0, none⟩)] w fun e w' => e = .returned (.tuple #[]) ∧ IsBuf W.heap.size b (l ++ [60, 104, 114, 32, 47, 62, 10]) w' ∧ Below W.heap.size W w' := by
  go_enter Tryz.func333, Tryz.ntmps333
  go_wp2_with fail
  refine (bufWrite_w W b l ⟨#[60, 104, 114, 32, 47, 62, 10]⟩ w hb hB hl).mono ?_
  rintro e w' ⟨rfl, hB2, hb2⟩
  go_wp2
  go_end0
  exact ⟨rfl, hB2, hb2⟩

theorem prt_tb (A : List UInt8 → Prop) (T : HP) (a : Addr) : Prt A T (.iface 154 (.pointer (some a))) [60, 104, 114, 32, 47, 62, 10] :=
  ⟨_, a, 333, rfl, fun w => meth_ThematicBreak_PrintHTML a w, fun w => ahead_ThematicBreak_PrintHTML a w, enters_of Tryz.func333 (by kernel_rfl) rfl,
    fun W _ w b l _ _ hb hB hl => tbPrint_w W w a b l hb hB hl⟩

set_option maxRecDepth 100000 in
set_option maxHeartbeats 1000000 in
theorem toHTML_w (A : List UInt8 → Prop) (d : Nat) (st en lk : Value) (inn : SV) (items : List Value) (outs : List (List UInt8)) (T F : HP) (W : World) (hi : inn.len = items.length) (h1 : items.length ≤ 1000000000)
    (hs : Sat W (row d 117 [st, en, inn.v, lk] * (arr 97 1 inn.v inn.len items * (T * F)))) (ho : outs.length = items.length)
    (hp : ∀ (i : Nat) (v : Value) (o : List UInt8), items[i]? = some v → outs[i]? = some o → Prt A T v o) (hA : ∀ k, k < items.length → A (outs.take k).flatten) (hl : outs.flatten.length ≤ 1000000000000) :
    Calls Tryz.prog 44 #[.iface 80 (.pointer (some ⟨d, 0, none⟩))] W fun e w' => e = .returned (.string (B.bs outs.flatten)) ∧ Sat w' F := by
  have m1 := fun w => meth_Document_PrintHTML ⟨d, 0, none⟩ w
  have n1 := fun w => ahead_Document_PrintHTML ⟨d, 0, none⟩ w
  have hF : Sat W F := hs.drop1.drop1.drop1
  have hbuf : IsBuf W.heap.size W.heap.size [] (W.alloc (.cells #[.slice none 0 0, .int .i64 0, .int .i8 0] 101)) := Lib.fresh_isBuffer 101 5 W
  have hP := docPrint_w A d W.heap.size st en lk inn items outs T F W _ [] hi h1 hs ho hp (by simpa using hA) ((Below.refl _ W).alloc (Nat.le_refl _) _) hbuf (by simpa using hl)
  have HP := Lib.hid hP
  clear hP
  go_enter Tryz.func44, Tryz.ntmps44
  go_wp2_with fail
  refine HP.out.mono ?_
  rintro e w1 ⟨rfl, hB, hb⟩
  go_wp2_with fail
  refine (Sh.Buffer_String _ _ _ _ hB).mono ?_
  rintro e w2 ⟨rfl, n, rfl⟩
  go_wp2
  go_ret
  exact ⟨rfl, (hF.ext hb).drewN n⟩

end Go.Proofs.YtbfmmikllelfeaaGreatDoor

/- What inlines are printed as: plain texts, escaped ones; a text whole. -/
namespace Go.Proofs.YtbfmmikllelfeaaGreatDoor
open Go.RowKit Sl

theorem meth_Escaped_PrintHTML (a : Addr) (w : World) : (method 527 234 (.pointer (some a)) "PrintHTML").run Tryz.prog w = .ok (344, .pointer (some a)) w := by kernel_rfl
theorem ahead_Escaped_PrintHTML (a : Addr) (w : World) : (nilAhead 527 234 (.pointer (some a)) "PrintHTML").run Tryz.prog w = .ok (some false) w := by kernel_rfl

set_option maxRecDepth 100000 in
set_option maxHeartbeats 1000000 in
theorem plainPrint_w (W w : World) (d b : Nat) (T : TypeId) (s l : List UInt8) (F : HP) (hs : Sat W (row d T [.string (B.bs s)] * F)) (hz : s.length ≤ 1000000000) (hb : Below W.heap.size W w) (hB : IsBuf W.heap.size b l w) (hl : l.length + (htmlPairs.esc s).length ≤ 1000000000000) :
    Calls Tryz.prog 344 #[.pointer (some ⟨d, 0, none⟩), .pointer (some ⟨b, 0, none⟩)] w fun e w' => e = .returned (.tuple #[]) ∧ IsBuf W.heap.size b (l ++ htmlPairs.esc s) w' ∧ Below W.heap.size W w' := by
  have c0 : w.cell? ⟨d, 0, none⟩ = some (.string (B.bs s)) := (hb.cell (p := ⟨d, 0, none⟩) hs.row_lt).trans (hs.cell 0 rfl)
  have hlt : d < w.heap.size := World.block_lt_of_cell? w _ c0
  have hbl : b < w.heap.size := Lib.IsBuffer.lt hB
  have ha := (Below.refl w.heap.size w).alloc (Nat.le_refl _) (.cells htmlPairs.cells.toArray 9)
  have hpw := pairsWrite_w htmlPairs W.heap.size b w.heap.size l s (w.alloc (.cells htmlPairs.cells.toArray 9)).drew (by decide) hz (heap_alloc_new w _) (by omega) (show IsBuf W.heap.size b l (w.alloc (.cells htmlPairs.cells.toArray 9)) from hB.below ha) hl
  have HPW := Lib.hid hpw
  have hesc := htmlEscaper_w
  have HB := Lib.hid hB
  clear hpw hs hB
  go_enter Tryz.func344, Tryz.ntmps344
  go_wp2_with fail
  go_region_law (first
    | (go_simp; go_at_call 330; refine (hesc _).mono ?_; rintro e w4 ⟨rfl, rfl⟩)
    | (go_simp; go_at_call 310; refine HPW.out.mono ?_; rintro e w5 ⟨rfl, hB5, hb5, _⟩))
  all_goals
    go_wp2
    go_end0
    exact ⟨rfl, hB5, (show Below W.heap.size W (w.alloc (.cells htmlPairs.cells.toArray 9)).drew from Below.drewN' (hb.trans (ha.mono hb.size)) 1).trans hb5⟩

set_option maxRecDepth 100000 in
set_option maxHeartbeats 1000000 in
theorem codeSpanPrint_w (W w : World) (d b : Nat) (s l : List UInt8) (F : HP) (hs : Sat W (row d 240 [.string (B.bs s)] * F)) (hz : s.length ≤ 1000000000) (hb : Below W.heap.size W w) (hB : IsBuf W.heap.size b l w) (hl : l.length + (codeOpen ++ htmlPairs.esc s ++ codeEnd).length ≤ 1000000000000) :
    Calls Tryz.prog 365 #[.pointer (some ⟨d, 0, none⟩), .pointer (some ⟨b, 0, none⟩)] w fun e w' => e = .returned (.tuple #[]) ∧ IsBuf W.heap.size b (l ++ (codeOpen ++ htmlPairs.esc s ++ codeEnd)) w' ∧ Below W.heap.size W w' := by
  have c0 : w.cell? ⟨d, 0, none⟩ = some (.string (B.bs s)) := (hb.cell (p := ⟨d, 0, none⟩) hs.row_lt).trans (hs.cell 0 rfl)
  have hlt : d < w.heap.size := World.block_lt_of_cell? w _ c0
  have ha := (Below.refl w.heap.size w).alloc (Nat.le_refl _) (.cells htmlPairs.cells.toArray 9)
  simp only [List.length_append] at hl
  have ho1 : codeOpen.length = 6 := rfl
  have ho2 : codeEnd.length = 7 := rfl
  have hrep := pairsReplace_w htmlPairs w.heap.size s (w.alloc (.cells htmlPairs.cells.toArray 9)).drew (by decide) hz (heap_alloc_new w _) (by omega)
  have a1 : ∀ w, (Op.stringOp .add (B.bs codeOpen) (B.bs (htmlPairs.esc s))).run Tryz.prog w = .ok (.string (B.bs (codeOpen ++ htmlPairs.esc s))) w := fun w => addBig _ _ w (by omega)
  have a2 : ∀ w, (Op.stringOp .add (B.bs (codeOpen ++ htmlPairs.esc s)) (B.bs codeEnd)).run Tryz.prog w = .ok (.string (B.bs (codeOpen ++ htmlPairs.esc s ++ codeEnd))) w := fun w => addBig _ _ w (by simp only [List.length_append]; omega)
  have hbw := fun w' hb' hB' => bufWrite_w W b l (B.bs (codeOpen ++ htmlPairs.esc s ++ codeEnd)) w' hb' hB' (by rw [B.bs_size]; simp only [List.length_append]; omega)
  have a1' : ∀ w, (Op.stringOp .add ⟨#[60, 99, 111, 100, 101, 62]⟩ (B.bs (htmlPairs.esc s))).run Tryz.prog w = .ok (.string (B.bs (codeOpen ++ htmlPairs.esc s))) w := a1
  have a2' : ∀ w, (Op.stringOp .add (B.bs (codeOpen ++ htmlPairs.esc s)) ⟨#[60, 47, 99, 111, 100, 101, 62]⟩).run Tryz.prog w = .ok (.string (B.bs (codeOpen ++ htmlPairs.esc s ++ codeEnd))) w := a2
  have HREP := Lib.hid hrep
  have HBW := Lib.hid hbw
  have hesc := htmlEscaper_w
  have HB := Lib.hid hB
  clear hrep hbw hs hB a1 a2 ho1 ho2
  generalize hout : codeOpen ++ htmlPairs.esc s ++ codeEnd = out at *
  generalize codeOpen ++ htmlPairs.esc s = y1 at *
  generalize htmlPairs.esc s = y0 at *
  clear hout
  go_enter Tryz.func365, Tryz.ntmps365
  go_wp2_with fail
  go_region_law (first
    | (go_simp; go_at_call 330; refine (hesc _).mono ?_; rintro e w4 ⟨rfl, rfl⟩)
    | (go_simp; go_at_call 306; refine HREP.out.mono ?_; rintro e w5 ⟨rfl, hb5⟩)
    | (go_simp; go_at_call 304; refine (HBW.out _ (((show Below W.heap.size W (w.alloc (.cells htmlPairs.cells.toArray 9)).drew from Below.drewN' (hb.trans (ha.mono hb.size)) 1)).trans (hb5.mono (by simp; have := hb.size; omega))) ((show IsBuf W.heap.size b l (w.alloc (.cells htmlPairs.cells.toArray 9)).drew from (show IsBuf W.heap.size b l (w.alloc (.cells htmlPairs.cells.toArray 9)) from HB.out.below ha)).below hb5)).mono ?_; rintro e w6 ⟨rfl, hB6, hb6⟩))
  all_goals
    go_wp2
    go_end0
    rw [B.bs_data] at hB6
    exact ⟨rfl, hB6, hb6⟩

def aOpen : List UInt8 := [60, 97, 32, 104, 114, 101, 102, 61, 34]

set_option maxRecDepth 100000 in
set_option maxHeartbeats 2000000 in
theorem linkPrint_w (W w : World) (d g i b : Nat) (u t l : List UInt8) (F : HP) (hs : Sat W (row d 121 [.slice (some ⟨g, 0, none⟩) 1 1, .string (B.bs u), .string ⟨#[]⟩, .int .u8 0, .bool false] * (row g 188 [.iface 218 (.pointer (some ⟨i, 0, none⟩))] * (row i 210 [.string (B.bs t)] * F))))
    (hz : (u ++ t).length ≤ 1000000000) (hb : Below W.heap.size W w) (hB : IsBuf W.heap.size b l w) (hl : l.length + (Tok.html (.link u t)).length ≤ 1000000000000) :
    Calls Tryz.prog 303 #[.pointer (some ⟨d, 0, none⟩), .pointer (some ⟨b, 0, none⟩)] w fun e w' => e = .returned (.tuple #[]) ∧ IsBuf W.heap.size b (l ++ Tok.html (.link u t)) w' ∧ Below W.heap.size W w' := by
  have hhtml : Tok.html (.link u t) = aOpen ++ linkPairs.esc u ++ [34] ++ [62] ++ htmlPairs.esc t ++ [60, 47, 97, 62] := rfl
  rw [hhtml] at hl ⊢
  have ho1 : aOpen.length = 9 := rfl
  simp only [List.length_append, List.length_cons, List.length_nil] at hl hz
  rw [ho1] at hl
  have hc : ∀ w', Below W.heap.size W w' → w'.cell? ⟨d, 0, none⟩ = some (.slice (some ⟨g, 0, none⟩) 1 1) ∧ w'.cell? ⟨d, 1, none⟩ = some (.string (B.bs u)) ∧ w'.cell? ⟨d, 1 + 1, none⟩ = some (.string ⟨#[]⟩) ∧ w'.cell? ⟨g, 0, none⟩ = some (.iface 218 (.pointer (some ⟨i, 0, none⟩))) := fun w' hb' =>
    ⟨(hb'.cell (p := ⟨d, 0, none⟩) hs.row_lt).trans (hs.cell 0 rfl), (hb'.cell (p := ⟨d, 1, none⟩) hs.row_lt).trans (hs.cell 1 rfl), (hb'.cell (p := ⟨d, 2, none⟩) hs.row_lt).trans (hs.cell 2 rfl), (hb'.cell (p := ⟨g, 0, none⟩) hs.swap.row_lt).trans (hs.swap.cell 0 rfl)⟩
  have hpl := fun w' l' hb' hB' hl' => plainPrint_w W w' i b 210 t l' _ hs.third (by omega) hb' hB' hl'
  have HPL := Lib.hid hpl
  have HC := Lib.hid hc
  obtain ⟨c0, c1, c2, c3⟩ := hc w hb
  have hlt : d < w.heap.size := World.block_lt_of_cell? w _ c1
  have ha := (Below.refl w.heap.size w).alloc (Nat.le_refl _) (.cells linkPairs.cells.toArray 9)
  have hrep := pairsReplace_w linkPairs w.heap.size u (w.alloc (.cells linkPairs.cells.toArray 9)).drew (by decide) (by omega) (heap_alloc_new w _) (by omega)
  have a1 : ∀ w, (Op.stringOp .add (B.bs aOpen) (B.bs (linkPairs.esc u))).run Tryz.prog w = .ok (.string (B.bs (aOpen ++ linkPairs.esc u))) w := fun w => addBig _ _ w (by omega)
  have a2 : ∀ w, (Op.stringOp .add (B.bs (aOpen ++ linkPairs.esc u)) (B.bs [34])).run Tryz.prog w = .ok (.string (B.bs (aOpen ++ linkPairs.esc u ++ [34]))) w := fun w => addBig _ _ w (by simp only [List.length_append, List.length_cons, List.length_nil]; omega)
  have hbw := fun w' hb' hB' => bufWrite_w W b l (B.bs (aOpen ++ linkPairs.esc u ++ [34])) w' hb' hB' (by rw [B.bs_size]; simp only [List.length_append, List.length_cons, List.length_nil]; omega)
  have a1' : ∀ w, (Op.stringOp .add ⟨#[60, 97, 32, 104, 114, 101, 102, 61, 34]⟩ (B.bs (linkPairs.esc u))).run Tryz.prog w = .ok (.string (B.bs (aOpen ++ linkPairs.esc u))) w := a1
  have a2' : ∀ w, (Op.stringOp .add (B.bs (aOpen ++ linkPairs.esc u)) ⟨#[34]⟩).run Tryz.prog w = .ok (.string (B.bs (aOpen ++ linkPairs.esc u ++ [34]))) w := a2
  have HREP := Lib.hid hrep
  have HBW := Lib.hid hbw
  have hesc := linkEscaper_w
  have hm := fun w => meth_Plain_PrintHTML ⟨i, 0, none⟩ w
  have hna := fun w => ahead_Plain_PrintHTML ⟨i, 0, none⟩ w
  have HB := Lib.hid hB
  have hlen3 : (aOpen ++ linkPairs.esc u ++ [34]).length = 10 + (linkPairs.esc u).length := by simp only [List.length_append, List.length_cons, List.length_nil, ho1]; omega
  clear hrep hbw hs hB a1 a2 ho1 hc hhtml hpl c3
  generalize htot : aOpen ++ linkPairs.esc u ++ [34] = out at *
  generalize aOpen ++ linkPairs.esc u = y1 at *
  generalize linkPairs.esc u = y0 at *
  clear htot
  go_enter Tryz.func303, Tryz.ntmps303
  go_wp2_with fail
  go_region_law (first
    | (go_simp; go_at_call 305; refine (hesc _).mono ?_; rintro e w4 ⟨rfl, rfl⟩)
    | (go_simp; go_at_call 306; refine HREP.out.mono ?_; rintro e w5 ⟨rfl, hb5⟩)
    | (go_simp; go_at_call 304; refine (HBW.out _ (((show Below W.heap.size W (w.alloc (.cells linkPairs.cells.toArray 9)).drew from Below.drewN' (hb.trans (ha.mono hb.size)) 1)).trans (hb5.mono (by simp; have := hb.size; omega))) ((show IsBuf W.heap.size b l (w.alloc (.cells linkPairs.cells.toArray 9)).drew from (show IsBuf W.heap.size b l (w.alloc (.cells linkPairs.cells.toArray 9)) from HB.out.below ha)).below hb5)).mono ?_; rintro e w6 ⟨rfl, hB6, hb6⟩))
  all_goals
    rw [B.bs_data] at hB6
    obtain ⟨c0, c1, c2, c3⟩ := HC.out w6 hb6
    clear hb5 ha
    go_wp2_with fail
    refine (bufWrite_w W b _ ⟨#[62]⟩ w6 hb6 hB6 (by show (l ++ out).length + 1 ≤ _; rw [List.length_append]; omega)).mono ?_
    rintro e w7 ⟨rfl, hB7, hb7⟩
    obtain ⟨c0, c1, c2, c3⟩ := HC.out w7 hb7
    go_wp2
    go_loopw [38] (fun j wr => (j = .int .i64 0 ∧ w7 = wr) ∨ (j = .int .i64 1 ∧ Below W.heap.size W wr ∧ IsBuf W.heap.size b (l ++ out ++ [62] ++ htmlPairs.esc t) wr)) (fun j _ => 1 - (intOf j).toNat)
    case atStart => exact .inl ⟨rfl, rfl⟩
    case round =>
      rcases hrel with ⟨rfl, rfl⟩ | ⟨rfl, hb8, hB8⟩
      · go_wp2_with fail
        refine (HPL.out w7 _ hb7 hB7 (by show (l ++ out ++ [62]).length + _ ≤ _; simp only [List.length_append, List.length_cons, List.length_nil]; omega)).mono ?_
        rintro e w8 ⟨rfl, hB8, hb8⟩
        go_wp2
        go_roundw
        case rel => exact .inr ⟨rfl, hb8, hB8⟩
        case measure => simp [intOf]
      · go_wp2_with fail
        refine (bufWrite_w W b _ ⟨#[60, 47, 97, 62]⟩ wr hb8 hB8 (by show (l ++ out ++ [62] ++ htmlPairs.esc t).length + 4 ≤ _; simp only [List.length_append, List.length_cons, List.length_nil]; omega)).mono ?_
        rintro e w9 ⟨rfl, hB9, hb9⟩
        go_wp2
        go_end0
        refine ⟨rfl, ?_, hb9⟩
        have : l ++ (out ++ [62] ++ htmlPairs.esc t ++ [60, 47, 97, 62]) = l ++ out ++ [62] ++ htmlPairs.esc t ++ [60, 47, 97, 62] := by simp
        rw [this]
        exact hB9

/-- An object that prints itself. -/
def Tok.Good : Tok → Prop
  | .obj h o => ∀ (A : List UInt8 → Prop) (v : Value) (G : HP) (W : World) (F : HP), IsObj v → Sat W (h v * (G * F)) → Prt A (h v * G) v o
  | _ => True

/-- A token's object is printed as its HTML, wherever it lies in what is owned. -/
theorem prt_tok {A : List UInt8 → Prop} {Tt : HP} {v : Value} {t : Tok} (hg : t.Good) (hk : ∃ G, Tt = TokAt v t * G) (hz : t.txt.length ≤ 1000000000) {W : World} {F : HP} (hW : Sat W (Tt * F)) : Prt A Tt v t.html := by
  obtain ⟨G, rfl⟩ := hk
  cases t with
  | plain s =>
    obtain ⟨d, h⟩ := (hW.cast (star_assoc _ _ _)).ex
    obtain ⟨rfl, _⟩ := (h.cast (star_assoc _ _ _)).pur
    refine ⟨_, ⟨d, 0, none⟩, 344, rfl, fun w => meth_Plain_PrintHTML ⟨d, 0, none⟩ w, fun w => ahead_Plain_PrintHTML ⟨d, 0, none⟩ w, enters_of Tryz.func344 (by kernel_rfl) rfl, ?_⟩
    intro W F w b l hW _ hb hB hl
    obtain ⟨d', h⟩ := (hW.cast (star_assoc _ _ _)).ex
    obtain ⟨he, h2⟩ := (h.cast (star_assoc _ _ _)).pur
    have hd : d = d' := by injection he with _ h1; injection h1 with h1; injection h1 with h1; injection h1
    subst hd
    exact plainPrint_w W w d b _ s l _ h2 hz hb hB hl
  | esc s =>
    obtain ⟨d, h⟩ := (hW.cast (star_assoc _ _ _)).ex
    obtain ⟨rfl, _⟩ := (h.cast (star_assoc _ _ _)).pur
    refine ⟨_, ⟨d, 0, none⟩, 344, rfl, fun w => meth_Escaped_PrintHTML ⟨d, 0, none⟩ w, fun w => ahead_Escaped_PrintHTML ⟨d, 0, none⟩ w, enters_of Tryz.func344 (by kernel_rfl) rfl, ?_⟩
    intro W F w b l hW _ hb hB hl
    obtain ⟨d', h⟩ := (hW.cast (star_assoc _ _ _)).ex
    obtain ⟨he, h2⟩ := (h.cast (star_assoc _ _ _)).pur
    have hd : d = d' := by injection he with _ h1; injection h1 with h1; injection h1 with h1; injection h1
    subst hd
    exact plainPrint_w W w d b _ s l _ h2 hz hb hB hl
  | code s =>
    obtain ⟨d, h⟩ := (hW.cast (star_assoc _ _ _)).ex
    obtain ⟨rfl, _⟩ := (h.cast (star_assoc _ _ _)).pur
    refine ⟨_, ⟨d, 0, none⟩, 365, rfl, fun w => meth_Code_PrintHTML ⟨d, 0, none⟩ w, fun w => ahead_Code_PrintHTML ⟨d, 0, none⟩ w, enters_of Tryz.func365 (by kernel_rfl) rfl, ?_⟩
    intro W F w b l hW _ hb hB hl
    obtain ⟨d', h⟩ := (hW.cast (star_assoc _ _ _)).ex
    obtain ⟨he, h2⟩ := (h.cast (star_assoc _ _ _)).pur
    have hd : d = d' := by injection he with _ h1; injection h1 with h1; injection h1 with h1; injection h1
    subst hd
    exact codeSpanPrint_w W w d b s l _ h2 hz hb hB hl
  | link u t =>
    obtain ⟨x, h⟩ := (hW.cast (star_assoc _ _ _)).ex
    obtain ⟨rfl, _⟩ := (h.cast (star_assoc _ _ _)).pur
    refine ⟨_, ⟨x.1, 0, none⟩, 303, rfl, fun w => meth_Link_PrintHTML ⟨x.1, 0, none⟩ w, fun w => ahead_Link_PrintHTML ⟨x.1, 0, none⟩ w, enters_of Tryz.func303 (by kernel_rfl) rfl, ?_⟩
    intro W F w b l hW _ hb hB hl
    obtain ⟨x', h⟩ := (hW.cast (star_assoc _ _ _)).ex
    obtain ⟨he, h2⟩ := (h.cast (star_assoc _ _ _)).pur
    have hd : x.1 = x'.1 := by injection he with _ h1; injection h1 with h1; injection h1 with h1; injection h1
    rw [hd]
    exact linkPrint_w W w x'.1 x'.2.1 x'.2.2 b u t l (G * F) (h2.cast (by ac_rfl)) hz hb hB hl
  | obj h o =>
    have h1 := hW.cast (show _ = Sl.pur (IsObj v) * (h v * (G * F)) from by
      show Sl.pur (IsObj v) * h v * G * F = _
      ac_rfl)
    obtain ⟨hv, h2⟩ := h1.pur
    have := hg A v G W F hv h2
    rw [show TokAt v (.obj h o) * G = h v * G from by
      show Sl.pur (IsObj v) * h v * G = _
      rw [pur_star hv]]
    exact this

set_option maxRecDepth 100000 in
set_option maxHeartbeats 1000000 in
/-- A text whose inlines are printed as outs. -/
theorem textPrint_w (tb b : Nat) (st en raw : Value) (inn : SV) (items : List Value) (outs : List (List UInt8)) (T F : HP) (W w : World) (l : List UInt8) (hi : inn.len = items.length) (h1 : items.length ≤ 1000000000)
    (hs : Sat W (row tb 144 [st, en, inn.v, raw] * (arr 188 1 inn.v inn.len items * (T * F)))) (ho : outs.length = items.length)
    (hp : ∀ (i : Nat) (v : Value) (o : List UInt8), items[i]? = some v → outs[i]? = some o → Prt (fun _ => True) T v o) (hb : Below W.heap.size W w) (hB : IsBuf W.heap.size b l w) (hl : l.length + outs.flatten.length ≤ 1000000000000) :
    Calls Tryz.prog 323 #[.pointer (some ⟨tb, 0, none⟩), .pointer (some ⟨b, 0, none⟩)] w fun e w' => e = .returned (.tuple #[]) ∧ IsBuf W.heap.size b (l ++ outs.flatten) w' ∧ Below W.heap.size W w' := by
  have hd : w.cell? ⟨tb, 2, none⟩ = some inn.v := (hb.cell (p := ⟨tb, 2, none⟩) hs.row_lt).trans (hs.cell 2 rfl)
  have hT : Sat W (T * (row tb 144 [st, en, inn.v, raw] * (arr 188 1 inn.v inn.len items * F))) := hs.cast (by ac_rfl)
  have hc : ∀ w' k v, Below W.heap.size W w' → items[k]? = some v → ∃ g, inn.a = some ⟨g, 0, none⟩ ∧ w'.cell? ⟨g, k, none⟩ = some v := by
    intro w' k v hb' hk
    rcases hs.swap.arr_cases with ⟨_, h, hx, _⟩ | ⟨g, cap, junk, hv, _, _, _, _, hr⟩
    · rw [hx] at hk; cases hk
    · refine ⟨g, ?_, ?_⟩
      · unfold SV.v at hv
        injection hv with h1 h2 h3
      · refine (hb'.cell (p := ⟨g, k, none⟩) hr.row_lt).trans (hr.cell k ?_)
        rw [List.getElem?_append_left (List.getElem?_eq_some_iff.1 hk).1]; exact hk
  have HC := Lib.hid hc
  clear hc hs
  unfold SV.v at hd
  rw [hi] at hd
  have hout : ∀ k v, items[k]? = some v → ∃ o, outs[k]? = some o ∧ Prt (fun _ => True) T v o ∧ (outs.take (k + 1)).flatten = (outs.take k).flatten ++ o ∧ (outs.take (k + 1)).flatten.length ≤ outs.flatten.length := by
    intro k v hk
    have hlt : k < outs.length := by rw [ho]; exact (List.getElem?_eq_some_iff.1 hk).1
    refine ⟨outs[k], by simp [hlt], hp k v outs[k] hk (by simp [hlt]), ?_, ?_⟩
    · rw [List.take_succ_eq_append_getElem hlt, List.flatten_append]; simp
    · have := congrArg (fun l => l.flatten.length) (List.take_append_drop (k + 1) outs)
      simp only [List.flatten_append, List.length_append] at this
      omega
  have HO := Lib.hid hout
  clear hout hp
  have hlt0 : ∀ k, k < items.length → ∃ v, items[k]? = some v := fun k hk => ⟨items[k], by simp [hk]⟩
  obtain ⟨n, hn⟩ : ∃ n, n = items.length := ⟨_, rfl⟩
  rw [← hn] at hd hlt0 h1
  have HLT := Lib.hid hlt0
  clear hlt0 hi
  go_enter Tryz.func323, Tryz.ntmps323
  go_wp2
  go_loopw [11] (fun i wr => ∃ k : Nat, k ≤ n ∧ i = .int .i64 k ∧ IsBuf W.heap.size b (l ++ (outs.take k).flatten) wr ∧ Below W.heap.size W wr) (fun i _ => n - (intOf i).toNat)
  case atStart => exact ⟨0, Nat.zero_le _, rfl, by simpa using hB, hb⟩
  case round =>
    obtain ⟨k, hk, rfl, hB, hb⟩ := hrel
    by_cases hlt : k < n
    · obtain ⟨v, hv⟩ := HLT.out k hlt
      obtain ⟨o, ho1, ⟨Ty, a, f, rfl, hm, hna, hen, hrun⟩, ho2, ho3⟩ := HO.out k v hv
      obtain ⟨g, hg, ck⟩ := HC.out wr k _ hb hv
      have hr := hrun W _ wr b _ hT trivial hb hB (by rw [ho2] at ho3; simp only [List.length_append] at ho3 ⊢; omega)
      have HR := Lib.hid hr
      rw [hg]
      clear hrun hr hv
      go_wp2_with fail
      refine HR.out.mono ?_
      rintro e w' ⟨rfl, hB2, hb2⟩
      go_wp2
      go_roundw
      case rel => exact ⟨k + 1, by omega, by go_num, by rw [ho2, ← List.append_assoc]; exact hB2, hb2⟩
      case measure => simp [intOf]; omega
    · obtain rfl : k = n := by omega
      go_wp2
      go_end0
      refine ⟨rfl, ?_, hb⟩
      rwa [List.take_of_length_le (by omega)] at hB

/-- A text that has been read is printed as its tokens' HTML. -/
theorem readPrint_w (t : TX) (b : Nat) (F : HP) (W w : World) (l : List UInt8) (hn : t.toks.length ≤ 1000000000) (hc : ∀ x ∈ t.toks, x.txt.length ≤ 1000000000 ∧ x.Good)
    (hs : Sat W (t.read * F)) (hb : Below W.heap.size W w) (hB : IsBuf W.heap.size b l w) (hl : l.length + (htmls t.toks).length ≤ 1000000000000) :
    Calls Tryz.prog 323 #[t.ptr, .pointer (some ⟨b, 0, none⟩)] w fun e w' => e = .returned (.tuple #[]) ∧ IsBuf W.heap.size b (l ++ htmls t.toks) w' ∧ Below W.heap.size W w' := by
  obtain ⟨sv, h⟩ := hs.ex
  obtain ⟨vs, h1, h2⟩ := inlsAt_iff.1 (h.cast (show _ = InlsAt sv t.toks * (row t.tb 144 [.int .i64 t.st, .int .i64 t.en, sv.v, .string (B.bs t.raw)] * F) from by
    generalize InlsAt sv t.toks = Y
    ac_rfl))
  have hlen := toksAt_len (h2.cast (show _ = ToksAt vs t.toks * (arr 188 1 sv.v sv.len vs * (row t.tb 144 [.int .i64 t.st, .int .i64 t.en, sv.v, .string (B.bs t.raw)] * F)) from by ac_rfl))
  have h3 := h2.cast (show _ = row t.tb 144 [.int .i64 t.st, .int .i64 t.en, sv.v, .string (B.bs t.raw)] * (arr 188 1 sv.v sv.len vs * (ToksAt vs t.toks * F)) from by ac_rfl)
  have e : htmls t.toks = (t.toks.map Tok.html).flatten := by unfold htmls; rw [List.flatMap_def]
  rw [e] at hl ⊢
  refine textPrint_w t.tb b _ _ _ sv vs (t.toks.map Tok.html) (ToksAt vs t.toks) F W w l h1 (by omega) h3 (by simp [hlen]) ?_ hb hB hl
  intro i v o hv ho'
  rw [List.getElem?_map] at ho'
  obtain ⟨x, hx, rfl⟩ := Option.map_eq_some_iff.1 ho'
  have hxm := List.mem_of_getElem? hx
  have hsp : ∃ G, ToksAt vs t.toks = TokAt v x * G := by
    obtain ⟨hi1, rfl⟩ := List.getElem?_eq_some_iff.1 hv
    obtain ⟨hi2, rfl⟩ := List.getElem?_eq_some_iff.1 hx
    refine ⟨ToksAt (vs.take i) (t.toks.take i) * ToksAt (vs.drop (i + 1)) (t.toks.drop (i + 1)), ?_⟩
    have e0 := toksAt_split hlen i
    rw [List.drop_eq_getElem_cons hi1, List.drop_eq_getElem_cons hi2, toksAt_cons] at e0
    rw [e0]
    generalize TokAt vs[i] t.toks[i] = Y
    ac_rfl
  exact prt_tok (hc x hxm).2 hsp (hc x hxm).1 (h3.drop1.drop1)

end Go.Proofs.YtbfmmikllelfeaaGreatDoor

/- A paragraph, printed. -/
namespace Go.Proofs.YtbfmmikllelfeaaGreatDoor
open Go.RowKit Sl

def paraHTML (s : List UInt8) : List UInt8 := [60, 112, 62] ++ s ++ [60, 47, 112, 62, 10]

set_option maxRecDepth 100000 in
set_option maxHeartbeats 2000000 in
theorem paraPrint_w (d b : Nat) (st en : Value) (t : TX) (F : HP) (W w : World) (l : List UInt8) (hn : t.toks.length ≤ 1000000000) (hc : ∀ x ∈ t.toks, x.txt.length ≤ 1000000000 ∧ x.Good)
    (hs : Sat W (row d 147 [st, en, t.ptr] * (t.read * F))) (hb : Below W.heap.size W w) (hB : IsBuf W.heap.size b l w) (hl : l.length + (paraHTML (htmls t.toks)).length ≤ 1000000000000) :
    Calls Tryz.prog 325 #[.pointer (some ⟨d, 0, none⟩), .pointer (some ⟨b, 0, none⟩)] w fun e w' => e = .returned (.tuple #[]) ∧ IsBuf W.heap.size b (l ++ paraHTML (htmls t.toks)) w' ∧ Below W.heap.size W w' := by
  have hd : ∀ w', Below W.heap.size W w' → w'.cell? ⟨d, 1 + 1, none⟩ = some (.pointer (some ⟨t.tb, 0, none⟩)) := fun w' hb' =>
    (hb'.cell (p := ⟨d, 2, none⟩) hs.row_lt).trans (hs.cell 2 rfl)
  have hT := hs.cast (show _ = t.read * (row d 147 [st, en, t.ptr] * F) from by
    generalize t.read = Y
    ac_rfl)
  unfold paraHTML at hl
  simp only [List.length_append, List.length_cons, List.length_nil] at hl
  have HD := Lib.hid hd
  have HT := Lib.hid hT
  clear hd hT hs
  go_enter Tryz.func325, Tryz.ntmps325
  go_wp2_with fail
  refine (bufWrite_w W b l (B.bs [60, 112, 62]) w hb hB (by rw [B.bs_size]; simp only [List.length_cons, List.length_nil]; omega)).mono ?_
  rintro e w2 ⟨rfl, hB2, hb2⟩
  rw [B.bs_data] at hB2
  have d1 := HD.out w2 hb2
  have hrp := readPrint_w t b _ W w2 _ hn hc HT.out hb2 hB2 (by simp only [List.length_append, List.length_cons, List.length_nil]; omega)
  unfold TX.ptr at hrp
  have HRP := Lib.hid hrp
  clear hrp
  go_wp2_with fail
  refine HRP.out.mono ?_
  rintro e w4 ⟨rfl, hB4, hb4⟩
  go_wp2_with fail
  refine (bufWrite_w W b _ (B.bs [60, 47, 112, 62, 10]) w4 hb4 hB4 (by rw [B.bs_size]; simp only [List.length_append, List.length_cons, List.length_nil]; omega)).mono ?_
  rintro e w6 ⟨rfl, hB6, hb6⟩
  rw [B.bs_data] at hB6
  go_wp2
  go_end0
  refine ⟨rfl, ?_, hb6⟩
  unfold paraHTML
  simpa [List.append_assoc] using hB6

theorem prt_para {A : List UInt8 → Prop} {d : Nat} {st en : Value} {t : TX} {G : HP} (hn : t.toks.length ≤ 1000000000) (hc : ∀ x ∈ t.toks, x.txt.length ≤ 1000000000 ∧ x.Good) :
    Prt A (row d 147 [st, en, t.ptr] * (t.read * G)) (.iface 145 (.pointer (some ⟨d, 0, none⟩))) (paraHTML (htmls t.toks)) :=
  ⟨_, ⟨d, 0, none⟩, 325, rfl, fun w => meth_Paragraph_PrintHTML ⟨d, 0, none⟩ w, fun w => ahead_Paragraph_PrintHTML ⟨d, 0, none⟩ w, enters_of Tryz.func325 (by kernel_rfl) rfl,
    fun W F w b l hW _ hb hB hl => paraPrint_w d b st en t (G * F) W w l hn hc (hW.cast (by generalize t.read = Y; ac_rfl)) hb hB hl⟩

end Go.Proofs.YtbfmmikllelfeaaGreatDoor
