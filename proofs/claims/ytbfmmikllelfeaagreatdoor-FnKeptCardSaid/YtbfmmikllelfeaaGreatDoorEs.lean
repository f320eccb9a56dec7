/- bytes.Buffer, as this program's texts use it. -/
import Derived.Test.YtbfmmikllelfeaaGreatDoorM
import Derived.Test.YtbfmmikllelfeaaGreatDoorB
import Derived.Test.YtbfmmikllelfeaaGreatDoorSh
import Derived.Test.YtbfmmikllelfeaaGreatDoorN2
import Derived.Lib.BufferKept
namespace Go.Proofs.YtbfmmikllelfeaaGreatDoor
open Go.RowKit

/-- Block b is a buffer of the call's own, laid from block B on, and holds l. -/
def IsBuf (B b : Nat) (l : List UInt8) (w : World) : Prop := Lib.IsBuffer 101 5 B b (Lib.byteCells l) w

theorem IsBuf.size {B b : Nat} {l : List UInt8} {w : World} (h : IsBuf B b l w) : B ≤ w.heap.size := by
  have h1 := Lib.IsBuffer.lt h
  have h2 := h.1
  omega

theorem bufWrite_w (W : World) (b : Nat) (l : List UInt8) (s : ByteArray) (w : World) (hb : Below W.heap.size W w) (h : IsBuf W.heap.size b l w) (hl : l.length + s.size ≤ 1000000000000) :
    Calls Tryz.prog 304 #[.pointer (some ⟨b, 0, none⟩), .string s] w fun e w' => e = .returned (.tuple #[.int .i64 s.size, .nilIface]) ∧ IsBuf W.heap.size b (l ++ s.data.toList) w' ∧ Below W.heap.size W w' := by
  refine (Sh.Buffer_WriteString_kept W.heap.size b _ s w h hb.size (Lib.byteCells_one _) ?_).mono ?_
  · rw [Lib.byteCells_length]; omega
  · rintro e w' ⟨rfl, h1, h2, _⟩
    exact ⟨rfl, by unfold IsBuf; rw [Lib.byteCells_append]; exact h1, hb.trans h2⟩

end Go.Proofs.YtbfmmikllelfeaaGreatDoor

/- Signs put in the places of others: zzPairs. -/
namespace Go.Proofs.YtbfmmikllelfeaaGreatDoor
open Go.RowKit

theorem IsBuf.below {B b : Nat} {l : List UInt8} {w w' : World} (h : IsBuf B b l w) (hb : Below w.heap.size w w') : IsBuf B b l w' := by
  obtain ⟨hB, v, lr2, hbk, hown, hne⟩ := h
  refine ⟨hB, v, lr2, (hb.block b (Array.getElem?_eq_some_iff.1 hbk).1).trans hbk, ⟨hown.1, ?_⟩, hne⟩
  rcases hown.2 with hn | ⟨g, cap, cur, hv, hbg, hg, rest⟩
  · exact .inl hn
  · exact .inr ⟨g, cap, cur, hv, hbg, (hb.block g (Array.getElem?_eq_some_iff.1 hg).1).trans hg, rest⟩

theorem Below.drewN' {B : Nat} {a w : World} (h : Below B a w) (n : Nat) : Below B a (w.drewN n) := ⟨h.os, h.tape, h.output, h.size, h.block⟩

theorem bufWrite2_w (B b : Nat) (l : List UInt8) (s : ByteArray) (w : World) (h : IsBuf B b l w) (hl : l.length + s.size ≤ 1000000000000) :
    Calls Tryz.prog 304 #[.pointer (some ⟨b, 0, none⟩), .string s] w fun e w' => e = .returned (.tuple #[.int .i64 s.size, .nilIface]) ∧ IsBuf B b (l ++ s.data.toList) w' ∧ Below B w w' ∧ Lib.OthersKept 5 (some b) w w' := by
  refine (Sh.Buffer_WriteString_kept B b _ s w h h.size (Lib.byteCells_one _) ?_).mono ?_
  · rw [Lib.byteCells_length]; omega
  · rintro e w' ⟨rfl, h1, h2, h3⟩
    exact ⟨rfl, by unfold IsBuf; rw [Lib.byteCells_append]; exact h1, h2, h3⟩

theorem bufByte_w (B b : Nat) (l : List UInt8) (c : UInt8) (w : World) (h : IsBuf B b l w) (hl : l.length + 1 ≤ 1000000000000) :
    Calls Tryz.prog 313 #[.pointer (some ⟨b, 0, none⟩), .int .u8 c.toNat] w fun e w' => e = .returned .nilIface ∧ IsBuf B b (l ++ [c]) w' ∧ Below B w w' ∧ Lib.OthersKept 5 (some b) w w' := by
  refine (Sh.Buffer_WriteByte_kept B b _ c.toNat w h h.size (Lib.byteCells_one _) ?_).mono ?_
  · rw [Lib.byteCells_length]; omega
  · rintro e w' ⟨rfl, h1, h2, h3⟩
    exact ⟨rfl, by unfold IsBuf; rw [Lib.byteCells_append]; exact h1, h2, h3⟩

/-- Signs, and what is put in their places. -/
abbrev Pairs := List (UInt8 × List UInt8)
def Pairs.cells (ps : Pairs) : List Value := ps.flatMap fun x => [.string (B.bs [x.1]), .string (B.bs x.2)]
def Pairs.put (ps : Pairs) (c : UInt8) : List UInt8 := match ps.find? (fun x => x.1 == c) with
  | some x => x.2
  | none => [c]
def Pairs.esc (ps : Pairs) (l : List UInt8) : List UInt8 := l.flatMap ps.put

theorem Pairs.cells_length (ps : Pairs) : ps.cells.length = 2 * ps.length := by
  induction ps with
  | nil => rfl
  | cons a b ih => show (_ :: _ :: Pairs.cells b).length = _; simp [ih]; omega

theorem Pairs.cells_get : ∀ (ps : Pairs) (k : Nat) (h : k < ps.length), ps.cells[2 * k]? = some (.string (B.bs [(ps[k]).1])) ∧ ps.cells[2 * k + 1]? = some (.string (B.bs (ps[k]).2))
  | a :: b, 0, _ => ⟨rfl, rfl⟩
  | a :: b, k + 1, h => by
    have h1 := cells_get b k (by simpa using h)
    rw [show 2 * (k + 1) = 2 * k + 1 + 1 by omega, show 2 * k + 1 + 1 + 1 = 2 * k + 1 + 1 + 1 from rfl]
    exact h1

theorem Pairs.put_hit {ps : Pairs} {k : Nat} (h : k < ps.length) (hb : ∀ (j : Nat) (hj : j < k), (ps[j]'(by omega)).1 ≠ (ps[k]).1) : ps.put (ps[k]).1 = (ps[k]).2 := by
  have : ps.find? (fun x => x.1 == (ps[k]).1) = some ps[k] := by
    rw [List.find?_eq_some_iff_getElem]
    refine ⟨by simp, k, h, rfl, fun j hj => ?_⟩
    simpa using hb j hj
  unfold put
  rw [this]

theorem Pairs.put_miss {ps : Pairs} {c : UInt8} (hb : ∀ (j : Nat) (hj : j < ps.length), (ps[j]).1 ≠ c) : ps.put c = [c] := by
  have : ps.find? (fun x => x.1 == c) = none := by
    rw [List.find?_eq_none]
    intro x hx
    obtain ⟨j, hj, rfl⟩ := List.getElem_of_mem hx
    simpa using hb j hj
  unfold put
  rw [this]

theorem Pairs.esc_take (ps : Pairs) (l : List UInt8) (k : Nat) (h : k < l.length) : ps.esc (l.take (k + 1)) = ps.esc (l.take k) ++ ps.put l[k] := by
  unfold esc
  rw [List.take_succ_eq_append_getElem h, List.flatMap_append]; simp
theorem Pairs.esc_take_le (ps : Pairs) (l : List UInt8) (k : Nat) : (ps.esc (l.take k)).length ≤ (ps.esc l).length := by
  have := congrArg (fun x => (ps.esc x).length) (List.take_append_drop k l)
  unfold esc at *
  simp only [List.flatMap_append, List.length_append] at this
  omega

set_option maxRecDepth 100000 in
set_option maxHeartbeats 1000000 in
theorem pairsWrite_w (ps : Pairs) (B0 b g : Nat) (l : List UInt8) (s : List UInt8) (w : World) (hps : ps.length ≤ 1000) (hs : s.length ≤ 1000000000) (htab : w.heap[g]? = some (.cells ps.cells.toArray 9 (0, 0))) (hgb : g ≠ b) (hB : IsBuf B0 b l w)
    (hl : l.length + (ps.esc s).length ≤ 1000000000000) :
    Calls Tryz.prog 310 #[.slice (some ⟨g, 0, none⟩) (2 * ps.length : Nat) (2 * ps.length : Nat), .pointer (some ⟨b, 0, none⟩), .string (B.bs s)] w fun e w' =>
      e = .returned (.tuple #[]) ∧ IsBuf B0 b (l ++ ps.esc s) w' ∧ Below B0 w w' ∧ Lib.OthersKept 5 (some b) w w' := by
  go_enter Tryz.func310, Tryz.ntmps310
  go_wp2
  go_step3
  go_wp2
  go_step3
  go_wp2
  go_loopw [6] (fun i wr => ∃ k : Nat, k ≤ s.length ∧ i = .int .i64 k ∧ IsBuf B0 b (l ++ ps.esc (s.take k)) wr ∧ Below B0 w wr ∧ Lib.OthersKept 5 (some b) w wr) (fun i _ => s.length - (intOf i).toNat)
  case atStart => exact ⟨0, Nat.zero_le _, rfl, by simpa [Pairs.esc] using hB, Below.refl _ _, Lib.OthersKept.refl _ _ _⟩
  case round =>
    obtain ⟨k, hk, rfl, hB1, hb1, ho1⟩ := hrel
    by_cases hlt : k < s.length
    · have htab1 : wr.heap[g]? = some (.cells ps.cells.toArray 9 (0, 0)) := ho1 g _ htab (by simpa using hgb) (by intro c fz h; cases h)
      generalize hc : s[k] = c
      have hts := ps.esc_take s k hlt
      rw [hc] at hts
      have hle := ps.esc_take_le s (k + 1)
      rw [hts, List.length_append] at hle
      have hz : (B.bs s).size = s.length := rfl
      have hix : ∀ h, (B.bs s)[k]'h = c := fun _ => hc
      have HIX := Lib.hid hix
      obtain ⟨n2, hn2⟩ : ∃ n2, n2 = 2 * ps.length := ⟨_, rfl⟩
      rw [← hn2]
      have hna : n2 ≤ 2 * ps.length := Nat.le_of_eq hn2
      have hnb : 2 * ps.length ≤ n2 := Nat.le_of_eq hn2.symm
      clear hn2
      go_wp2
      go_loopw [7] (fun j wx => ∃ t : Nat, t ≤ ps.length ∧ j = .int .i64 (2 * t : Nat) ∧ (∀ (u : Nat) (_ : u < t) (hu : u < ps.length), (ps[u]).1 ≠ c) ∧ ∃ m, wx = wr.drewN m) (fun j _ => n2 - (intOf j).toNat)
      case atStart => exact ⟨0, Nat.zero_le _, rfl, fun u hu => by omega, 0, rfl⟩
      case round =>
        obtain ⟨t, ht, rfl, hno, m, rfl⟩ := hrel
        by_cases htl : t < ps.length
        · obtain ⟨hc0, hc1⟩ := ps.cells_get t htl
          have hput := Pairs.put_hit htl
          have hno2 := fun (j : Nat) (hj : j < t) => hno j hj (by omega)
          generalize hkey : (ps[t]).1 = key at hc0 hput
          generalize (ps[t]).2 = val at hc1 hput
          have k0 : wr.cell? ⟨g, 2 * t, none⟩ = some (.string (B.bs [key])) := by rw [World.cell?, htab1]; simpa using hc0
          have k1 : wr.cell? ⟨g, 2 * t + 1, none⟩ = some (.string (B.bs val)) := by rw [World.cell?, htab1]; simpa using hc1
          have hk0 : ∀ (h : 0 < (B.bs [key]).size), (B.bs [key])[0]'h = key := fun _ => rfl
          have hz1 : (B.bs [key]).size = 1 := rfl
          have hno3 := Lib.hid hno
          have hkk := Lib.hid hkey
          clear hc0 hc1 hno hkey
          by_cases heq : key = c
          · subst heq
            have hp := hput hno2
            rw [hp] at hts hle
            have heq2 : ((key.toNat : Int) == (key.toNat : Int)) = true := by simp
            clear hput hno2
            go_wp2
            go_quiet (fail)
            go_wp2_with fail
            refine (bufWrite2_w B0 b _ (B.bs val) _ (show IsBuf B0 b _ (wr.drewN (m + nq)) from hB1) (by rw [B.bs_size, List.length_append]; omega)).mono ?_
            rintro e w2 ⟨rfl, hB2, hb2, ho2⟩
            rw [B.bs_data] at hB2
            have fin : IsBuf B0 b (l ++ ps.esc (s.take (k + 1))) w2 ∧ Below B0 w w2 ∧ Lib.OthersKept 5 (some b) w w2 :=
              ⟨by rw [hts, ← List.append_assoc]; exact hB2, (Below.drewN' hb1 (m + nq)).trans hb2, (ho1.drewN (m + nq)).trans ho2⟩
            clear hB2 hb2 ho2
            go_wp2
            refine ⟨?_, ?_⟩
            · exact ⟨k + 1, by omega, by go_num, fin.1, fin.2.1, fin.2.2⟩
            · simp [intOf]; omega
          · have heq2 : ((c.toNat : Int) == (key.toNat : Int)) = false := u8_ne (Ne.symm heq)
            clear hput hno2
            go_wp2
            go_quiet (fail)
            go_wp2
            refine ⟨⟨t + 1, by omega, by go_num, fun u hu hul => ?_, m + nq, rfl⟩, ?_⟩
            · by_cases he : u = t
              · subst he; rw [hkk.out]; exact heq
              · exact hno3.out u (by omega) hul
            · simp [intOf]; omega
        · obtain rfl : t = ps.length := by omega
          have hp := Pairs.put_miss (ps := ps) (c := c) fun j hj => hno j hj hj
          rw [hp] at hts hle
          clear hno
          go_wp2_with fail
          refine (bufByte_w B0 b _ c _ (show IsBuf B0 b _ (wr.drewN m) from hB1) (by rw [List.length_append]; simp at hle; omega)).mono ?_
          rintro e w2 ⟨rfl, hB2, hb2, ho2⟩
          have fin : IsBuf B0 b (l ++ ps.esc (s.take (k + 1))) w2 ∧ Below B0 w w2 ∧ Lib.OthersKept 5 (some b) w w2 :=
            ⟨by rw [hts, ← List.append_assoc]; exact hB2, (Below.drewN' hb1 m).trans hb2, (ho1.drewN m).trans ho2⟩
          clear hB2 hb2 ho2
          go_wp2
          refine ⟨?_, ?_⟩
          · exact ⟨k + 1, by omega, by go_num, fin.1, fin.2.1, fin.2.2⟩
          · simp [intOf]; omega
    · obtain rfl : k = s.length := by omega
      go_wp2
      rw [Exit.noGoto_normal]
      go_end0
      rw [List.take_of_length_le (Nat.le_refl _)] at hB1
      exact ⟨rfl, hB1, hb1, ho1⟩

def htmlPairs : Pairs := [(34, [38, 113, 117, 111, 116, 59]), (38, [38, 97, 109, 112, 59]), (60, [38, 108, 116, 59]), (62, [38, 103, 116, 59])]

set_option maxRecDepth 100000 in
set_option maxHeartbeats 1000000 in
theorem htmlEscaper_w (w : World) : Calls Tryz.prog 330 #[] w fun e w' => e = .returned (.slice (some ⟨w.heap.size, 0, none⟩) 8 8) ∧ w' = w.alloc (.cells htmlPairs.cells.toArray 9) := by
  go_enter Tryz.func330, Tryz.ntmps330
  go_wp2
  go_ret
  exact ⟨rfl, rfl⟩

set_option maxRecDepth 100000 in
set_option maxHeartbeats 1000000 in
theorem pairsReplace_w (ps : Pairs) (g : Nat) (s : List UInt8) (w : World) (hps : ps.length ≤ 1000) (hs : s.length ≤ 1000000000) (htab : w.heap[g]? = some (.cells ps.cells.toArray 9 (0, 0))) (hl : (ps.esc s).length ≤ 1000000000000) :
    Calls Tryz.prog 306 #[.slice (some ⟨g, 0, none⟩) (2 * ps.length : Nat) (2 * ps.length : Nat), .string (B.bs s)] w fun e w' => e = .returned (.string (B.bs (ps.esc s))) ∧ Below w.heap.size w w' := by
  have hg := (Array.getElem?_eq_some_iff.1 htab).1
  have hbuf : IsBuf w.heap.size w.heap.size [] (w.alloc (.cells #[.slice none 0 0, .int .i64 0, .int .i8 0] 101)) := Lib.fresh_isBuffer 101 5 w
  have hW := pairsWrite_w ps w.heap.size w.heap.size g [] s _ hps hs ((Below.heap_alloc w _ g hg).trans htab) (by omega) hbuf (by simpa using hl)
  have HW := Lib.hid hW
  clear hW
  go_enter Tryz.func306, Tryz.ntmps306
  go_wp2_with fail
  refine HW.out.mono ?_
  rintro e w1 ⟨rfl, hB, hb, _⟩
  go_wp2_with fail
  refine (Sh.Buffer_String _ _ _ _ hB).mono ?_
  rintro e w2 ⟨rfl, n, rfl⟩
  go_wp2
  go_ret
  exact ⟨rfl, Below.drewN' (((Below.refl _ w).alloc (Nat.le_refl _) _).trans hb) n⟩

end Go.Proofs.YtbfmmikllelfeaaGreatDoor
