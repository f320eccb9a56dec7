/- Walks: the root is closed; a block is added to the stack. -/
import Derived.Test.YtigcmibkgcmfcaaGreatDoorP1
namespace Go.Proofs.YtigcmibkgcmfcaaGreatDoor
open Go.RowKit Sl

theorem PSt.facts {w : World} {p : Nat} {x : PSt} {F : HP} (h : Sat w (row p 92 x.cells * F)) :
    w.cell? ⟨p, 0, none⟩ = some (.pointer x.parser) ∧ w.cell? ⟨p, 1, none⟩ = some (.pointer x.root) ∧ w.cell? ⟨p, 2, none⟩ = some (.map x.links) ∧ w.cell? ⟨p, 3, none⟩ = some (.int .i64 x.lineno) ∧
    w.cell? ⟨p, 4, none⟩ = some (.slice x.stack.a x.stack.len x.stack.cap) ∧ w.cell? ⟨p, 5, none⟩ = some (.int .i64 x.depth) ∧ w.cell? ⟨p, 6, none⟩ = some (.bool x.corner) ∧ w.cell? ⟨p, 7, none⟩ = some (.string x.s) ∧
    w.cell? ⟨p, 8, none⟩ = some (.int .i64 x.emitted) ∧ w.cell? ⟨p, 9, none⟩ = some (.slice x.list.a x.list.len x.list.cap) ∧ w.cell? ⟨p, 10, none⟩ = some (.slice x.lists.a x.lists.len x.lists.cap) ∧
    w.cell? ⟨p, 11, none⟩ = some (.slice x.texts.a x.texts.len x.texts.cap) ∧ (∀ i, w.frozen? ⟨p, i, none⟩ = false) ∧ p < w.heap.size :=
  ⟨h.cell 0 rfl, h.cell 1 rfl, h.cell 2 rfl, h.cell 3 rfl, h.cell 4 rfl, h.cell 5 rfl, h.cell 6 rfl, h.cell 7 rfl, h.cell 8 rfl, h.cell 9 rfl, h.cell 10 rfl, h.cell 11 rfl, fun i => h.frozen i, h.row_lt⟩

set_option maxRecDepth 100000 in
set_option maxHeartbeats 400000 in
theorem closeRoot_w (r : Addr) (p g cap : Nat) (st en : Int) (ia : Option Addr) (il ic : Nat) (x : PSt) (junk : List Value) (F : HP) (w : World)
    (hx : x.stack = ⟨some ⟨g, 0, none⟩, 1, cap⟩)
    (hs : Sat w (row p 92 x.cells * (row g 118 ([.iface 95 (.pointer (some r)), .slice ia il ic, .int .i64 st, .int .i64 en] ++ junk) * F))) :
    Calls Tryz.prog 61 #[.pointer (some ⟨p, 0, none⟩)] w fun e w' =>
      ∃ d, e = .returned (.iface 44 (.pointer (some ⟨d, 0, none⟩))) ∧
        Sat w' (row p 92 { x with stack := ⟨some ⟨g, 0, none⟩, 0, cap⟩, root := some ⟨d, 0, none⟩ }.cells * (row d 337 [.int .i64 st, .int .i64 en, .slice ia il ic, .map x.links] * F)) := by
  obtain ⟨f0, f1, f2, f3, f4, f5, f6, f7, f8, f9, f10, f11, fz, hlp⟩ := PSt.facts hs
  have hs2 := hs.cast (left_comm _ _ _)
  have g0 : w.cell? ⟨g, 0, none⟩ = some (.iface 95 (.pointer (some r))) := hs2.cell 0 rfl
  have g1 : w.cell? ⟨g, 1, none⟩ = some (.slice ia il ic) := hs2.cell 1 rfl
  have g2 : w.cell? ⟨g, 2, none⟩ = some (.int .i64 st) := hs2.cell 2 rfl
  have g3 : w.cell? ⟨g, 3, none⟩ = some (.int .i64 en) := hs2.cell 3 rfl
  have hlg := hs2.row_lt
  rw [hx] at f4
  clear f0 f3 f5 f7 f8 f9 f10 f11
  have mb := fun w => meth_rootBuilder_build r w
  have nb := fun w => ahead_rootBuilder_build r w
  have ta := fun v w => ta_Block_Document v w
  have tb := fun v w => tb_Block_Document_List v w
  go_enter Tryz.func61, Tryz.ntmps61
  go_wp2
  go_quiet (fail)
  go_wp2_with fail
  refine (rootBuild_w (some r) p g 0 cap st en ia il ic x.links (w.drewN nq) (by decide) hlp hlg f4 f2 (by simpa using g1) (by simpa using g2) (by simpa using g3)).mono ?_
  rintro e w1 ⟨y, rfl, rfl⟩
  have k4 := y.cell (W := w.drewN nq) f4
  have k1 := y.cell (W := w.drewN nq) f1
  have k6 := y.cell (W := w.drewN nq) f6
  have kl : p < y.w.heap.size := y.lt hlp
  have kz : ∀ i, y.w.frozen? ⟨p, i, none⟩ = false := fun i => (y.below.frozen (p := ⟨p, i, none⟩) hlp).trans (fz i)
  go_wp2
  go_region
  go_wp2
  have hy : Sat y.w _ := (hs.drewN nq).ext y.below
  have h2 := ((hy.drop2.set 4 (.slice (some ⟨g, 0, none⟩) 0 cap)).set 1 (.pointer (some ⟨y.w.heap.size, 0, none⟩))).new [.int .i64 st, .int .i64 en, .slice ia il ic, .map x.links] 337 (d := y.w.heap.size) (by simp)
  go_ret
  exact ⟨_, rfl, h2.swap⟩


theorem info_openBlock : (Tryz.prog.info? 118).map (fun i => (i.zero, i.size, i.bytes)) = some (some (.agg #[.nilIface, .slice none 0 0, .int .i64 0, .int .i64 0]), 4, 56) := by kernel_rfl

set_option maxRecDepth 100000 in
set_option maxHeartbeats 400000 in
theorem addBlock_w (p n : Nat) (T : TypeId) (bp : Option Addr) (x : PSt) (cs : List Value) (F : HP) (w : World) (hn : n ≤ 1000000000) (hd : x.depth + 1 = n) (hn2 : n = x.stack.len)
    (hs : Sat w (row p 92 x.cells * (arr 118 4 x.stack.v n cs * F))) :
    Calls Tryz.prog 49 #[.pointer (some ⟨p, 0, none⟩), .iface T (.pointer bp)] w fun e w' =>
      e = .returned (.tuple #[]) ∧ ∃ g cap, 
        Sat w' (row p 92 { x with stack := ⟨some ⟨g, 0, none⟩, n + 1, cap⟩ }.cells *
          (arr 118 4 (.slice (some ⟨g, 0, none⟩) (n + 1) cap) (n + 1) (cs ++ [.iface T (.pointer bp), .slice none 0 0, .int .i64 x.lineno, .int .i64 x.lineno]) * F)) := by
  subst hn2
  obtain ⟨i0, hi, hz0, hz1, hz2⟩ := info_parts info_openBlock
  obtain ⟨f0, f1, f2, f3, f4, f5, f6, f7, f8, f9, f10, f11, fz, hlp⟩ := PSt.facts hs
  have hlen := hs.swap.arr_length
  have hb : -1 ≤ x.depth ∧ x.depth ≤ 1000000000 := by omega
  clear f0 f1 f2 f6 f7 f8 f9 f10 f11
  have hsA := hs.new [.nilIface, .slice none 0 0, .int .i64 0, .int .i64 0] 118 rfl
  have hsB := hsA.cast (show _ = arr 118 4 x.stack.v x.stack.len cs * (row p 92 x.cells * (row w.heap.size 118 [.nilIface, .slice none 0 0, .int .i64 0, .int .i64 0] * F)) from by ac_rfl)
  clear hsA
  go_enter Tryz.func49, Tryz.ntmps49
  go_wp2_with (go_at_call 52; refine (trimStack_noop p _ x.stack.cap x.stack.a w hn f4).mono ?_; rintro e w' ⟨rfl, rfl⟩; refine Hid.out ?_)
  refine Lib.hid ?_
  go_wp2_with (at_builtin; refine wpList_append_sl rfl (.tmp 16) (.tmp 18) 84 rfl 118 i0 _ 4 56 Tryz.underlying84 hi hz0 hz1 hz2 rfl x.stack.v _ cs rfl hsB ⟨w.heap.size, 0, none⟩ 1 1 [.nilIface, .slice none 0 0, .int .i64 0, .int .i64 0] rfl rfl ?c1 ?c2 ?c3 ?c4 (by decide) ?_)
  case c1 => exact cells_new _ _ _
  case c2 => intro u hu; simp at hu; rcases hu with rfl | rfl | rfl <;> rfl
  case c3 => unfold maxLen; omega
  case c4 => omega
  intro g cap w1 hs1 hz1
  obtain ⟨junk, h1, h2, h3, h4, hr⟩ := hs1.arr_row
  have hq := (hr.cast (show _ = row p 92 x.cells * (row g 118 (cs ++ [.nilIface, .slice none 0 0, .int .i64 0, .int .i64 0] ++ junk) * F * row w.heap.size 118 [.nilIface, .slice none 0 0, .int .i64 0, .int .i64 0]) from by ac_rfl))
  obtain ⟨e0, e1, e2, e3, e4, e5, e6, e7, e8, e9, e10, e11, ez, elp⟩ := PSt.facts hq
  have gc : ∀ i, i < 4 → w1.cell? ⟨g, x.stack.len * 4 + i, none⟩ = [Value.nilIface, .slice none 0 0, .int .i64 0, .int .i64 0][i]? := by
    intro i hi
    refine (hr.cell (x.stack.len * 4 + i) (v := [Value.nilIface, .slice none 0 0, .int .i64 0, .int .i64 0][i]'hi) ?_).trans (by simp [hi])
    rw [List.append_assoc, List.getElem?_append_right (by omega), hlen, List.getElem?_append_left (by simp; omega)]
    simp [hi]
  have g0 := gc 0 (by omega)
  have g2 := gc 2 (by omega)
  have g3 := gc 3 (by omega)
  simp only [Nat.add_zero, List.getElem?_cons_zero, List.getElem?_cons_succ] at g0 g2 g3
  have gz := fun i => hr.frozen i
  have glt := hr.row_lt
  have hne : ¬ g = p := (hr.cast (show _ = row g 118 _ * (row p 92 x.cells * (row w.heap.size 118 [.nilIface, .slice none 0 0, .int .i64 0, .int .i64 0] * F)) from by ac_rfl)).row_ne
  have hne' : ¬ p = g := Ne.symm hne
  clear gc e0 e1 e2 e6 e7 e8 e9 e10 e11 f3 f4 f5 fz hs1 hs hi hz0 hz2 hsB
  go_wp2
  go_quiet (fail)
  go_wp2
  have h5 := (((((hq.set 4 (.slice (some ⟨g, 0, none⟩) (x.stack.len + 1) cap)).drewN nq).cast (show _ = row g 118 (cs ++ [.nilIface, .slice none 0 0, .int .i64 0, .int .i64 0] ++ junk) *
    (row p 92 (x.cells.set 4 (.slice (some ⟨g, 0, none⟩) (x.stack.len + 1) cap)) * F * row w.heap.size 118 [.nilIface, .slice none 0 0, .int .i64 0, .int .i64 0]) from by ac_rfl)).set (x.stack.len * 4) (.iface T (.pointer bp))).set
      (x.stack.len * 4 + 2) (.int .i64 x.lineno)).set (x.stack.len * 4 + 2 + 1) (.int .i64 x.lineno)
  rw [set_mid (i := 0) _ (by omega) (by decide), set_mid (i := 2) _ (by omega) (by simp), set_mid (i := 3) _ (by omega) (by simp)] at h5
  have h6 : Sat _ (row g 118 (cs ++ [.iface T (.pointer bp), .slice none 0 0, .int .i64 x.lineno, .int .i64 x.lineno] ++ junk) * (row p 92 (x.cells.set 4 (.slice (some ⟨g, 0, none⟩) (x.stack.len + 1) cap)) * F)) := (h5.cast (star_assoc _ _ _).symm).left
  go_end0
  refine ⟨rfl, g, cap, Sat.swap (arr_mk ?_ h2 h3 ?_ h6)⟩
  · simpa using h1
  · simpa using h4

end Go.Proofs.YtigcmibkgcmfcaaGreatDoor
