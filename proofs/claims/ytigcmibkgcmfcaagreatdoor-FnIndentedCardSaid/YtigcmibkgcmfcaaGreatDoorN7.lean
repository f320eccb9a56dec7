/- doneBlock: a finished block is laid into the innermost open one. -/
import Derived.Test.YtigcmibkgcmfcaaGreatDoorN6
import Derived.Test.YtigcmibkgcmfcaaGreatDoorP2
namespace Go.Proofs.YtigcmibkgcmfcaaGreatDoor
open Go.RowKit Sl

theorem info_Block : (Tryz.prog.info? 66).map (fun i => (i.zero, i.size, i.bytes)) = some (some .nilIface, 1, 16) := by kernel_rfl

set_option maxRecDepth 100000 in
set_option maxHeartbeats 1000000 in
theorem doneBlock_w (p g n cap : Nat) (T : TypeId) (bp : Option Addr) (x : PSt) (pre junk items : List Value) (bd : Value) (inn : SV) (st en : Int) (F : HP) (w : World) (hn : n < 1000000000) (hil : inn.len ≤ 1000000000)
    (hd : x.depth = n) (hx : x.stack = ⟨some ⟨g, 0, none⟩, n + 1, cap⟩) (hpre : pre.length = n * 4)
    (hs : Sat w (row p 92 x.cells * (row g 118 (pre ++ [bd, inn.v, .int .i64 st, .int .i64 en] ++ junk) * (arr 66 1 inn.v inn.len items * F)))) :
    Calls Tryz.prog 129 #[.pointer (some ⟨p, 0, none⟩), .iface T (.pointer bp)] w fun e w' =>
      e = .returned (.tuple #[]) ∧ ∃ inn' : SV, inn'.len = inn.len + 1 ∧
        Sat w' (row p 92 x.cells * (row g 118 (pre ++ [bd, inn'.v, .int .i64 st, .int .i64 en] ++ junk) * (arr 66 1 inn'.v inn'.len (items ++ [.iface T (.pointer bp)]) * F))) := by
  obtain ⟨i0, hi, hz0, hz1, hz2⟩ := info_parts info_Block
  obtain ⟨f0, f1, f2, f3, f4, f5, f6, f7, f8, f9, f10, f11, fz, hlp⟩ := PSt.facts hs
  rw [hx] at f4
  rw [hd] at f5
  clear f0 f1 f2 f3 f6 f7 f8 f9 f10 f11
  have hs2 := hs.swap
  have g1 : w.cell? ⟨g, n * 4 + 1, none⟩ = some inn.v := hs2.cell (n * 4 + 1) (by rw [List.append_assoc, List.getElem?_append_right (by omega), hpre]; simp)
  have gz := fun i => hs2.frozen i
  have hlg := hs2.row_lt
  have hne : ¬ g = p := hs2.row_ne
  have hne' : ¬ p = g := Ne.symm hne
  have hsA := (hs.cast (show _ = arr 66 1 inn.v inn.len items * (row p 92 x.cells * (row g 118 (pre ++ [bd, inn.v, .int .i64 st, .int .i64 en] ++ junk) * F)) from by ac_rfl))
  clear hs hs2
  unfold SV.v at g1
  have ht := trimStack_noop p (n + 1) cap (some ⟨g, 0, none⟩) w (by omega) f4
  rw [show ((n + 1 : Nat) : Int) = (n : Int) + 1 from rfl] at ht
  have HT := Lib.hid ht
  clear ht
  go_enter Tryz.func129, Tryz.ntmps129
  go_wp2_with (go_at_call 52; refine HT.out.mono ?_; rintro e w' ⟨rfl, rfl⟩; refine Hid.out ?_)
  refine Lib.hid ?_
  go_wp2
  go_quiet (fail)
  have hsB := (hsA.drewN nq).new [.iface T (.pointer bp)] 66 rfl
  have hsC := hsB.cast (show _ = arr 66 1 inn.v inn.len items * (row (w.drewN nq).heap.size 66 [.iface T (.pointer bp)] * (row p 92 x.cells * (row g 118 (pre ++ [bd, inn.v, .int .i64 st, .int .i64 en] ++ junk) * F))) from by ac_rfl)
  go_wp2_with (at_builtin; refine wpList_append_sl rfl (.tmp 27) (.tmp 29) 116 rfl 66 i0 _ 1 16 Tryz.underlying116 hi hz0 hz1 hz2 rfl inn.v _ items rfl hsC ⟨(w.drewN nq).heap.size, 0, none⟩ 1 1 [.iface T (.pointer bp)] rfl rfl ?c1 ?c2 ?c3 ?c4 (by decide) ?_)
  case c1 => exact cells_new _ _ _
  case c2 => intro u hu; simp at hu; rcases hu with rfl; rfl
  case c3 => unfold maxLen; omega
  case c4 => omega
  intro g2 cap2 w1 hs1 hz1
  have hs2 := hs1.cast (show _ = row g 118 (pre ++ [bd, inn.v, .int .i64 st, .int .i64 en] ++ junk) * (row (w.drewN nq).heap.size 66 [.iface T (.pointer bp)] * (row p 92 x.cells * (arr 66 1 (.slice (some ⟨g2, 0, none⟩) (inn.len + 1) cap2) (inn.len + 1) (items ++ [.iface T (.pointer bp)]) * F))) from by ac_rfl)
  have k1 : w1.cell? ⟨g, n * 4 + 1, none⟩ = some inn.v := hs2.cell (n * 4 + 1) (by rw [List.append_assoc, List.getElem?_append_right (by omega), hpre]; simp)
  have kz := fun i => hs2.frozen i
  have klt := hs2.row_lt
  unfold SV.v at k1
  go_wp2
  go_end0
  have h5 := hs2.set (n * 4 + 1) (.slice (some ⟨g2, 0, none⟩) (inn.len + 1) cap2)
  rw [set_mid (i := 1) _ (by omega) (by simp)] at h5
  refine ⟨rfl, ⟨some ⟨g2, 0, none⟩, inn.len + 1, cap2⟩, rfl, ?_⟩
  exact h5.drop2.cast (by unfold SV.v; ac_rfl)

end Go.Proofs.YtigcmibkgcmfcaaGreatDoor
