/- The starters that do not start: newQuote, newATXHeading, newHR. -/
import Derived.Test.YtigcmibkgcmfcaaGreatDoorN5
namespace Go.Proofs.YtigcmibkgcmfcaaGreatDoor
open Go.RowKit Sl

set_option maxRecDepth 100000 in
set_option maxHeartbeats 1000000 in
theorem newQuote_not (p : Option Addr) (x : Ln) (w : World) (F : HP) (hx : x.OK) (hq : x.quote = none) (hs : Sat w F) :
    Calls Tryz.prog 83 #[.pointer p, x.agg] w fun e w' => e = .returned (.tuple #[x.agg, .bool false]) ∧ Sat w' F := by
  have h1 : Sat (w.alloc (.cells x.cells.toArray 101)) (row w.heap.size 101 x.cells * F) := hs.new _ _ rfl
  have h2 := h1.new (d := w.heap.size + 1) Ln.zero.cells 101 (by simp)
  have hQ := fun w F hs => trimQuote_w x w F hx hs
  rw [hq] at hQ
  simp only [Option.getD_none, Option.isSome_none] at hQ
  have HQ := Lib.hid hQ
  clear hQ hq
  unfold Ln.agg at HQ ⊢
  go_enter Tryz.func83, Tryz.ntmps83
  go_wp2_with fail
  refine (HQ.out _ _ h2).mono ?_
  rintro e w1 ⟨rfl, s1⟩
  obtain ⟨a0, a1, a2, a3, a4, af⟩ := line_cells s1
  obtain ⟨b0, b1, b2, b3, b4, bf⟩ := line_cells s1.swap
  have l1 := s1.row_lt
  have l2 := s1.swap.row_lt
  have HS := Lib.hid s1
  clear s1 h1 h2
  go_wp2
  refine bodyPost_ret (v := .tuple #[x.agg, .bool false]) (by simp [results, Tryz.results83, go_sem, Ln.agg, *]) rfl ⟨rfl, ?_⟩
  exact ((((((HS.out.set 0 _).set 1 _).set 2 _).set 3 _).set 4 _).drop1.drop1.alloc _).drop1

set_option maxRecDepth 100000 in
set_option maxHeartbeats 1000000 in
theorem newATX_not (p : Option Addr) (x : Ln) (w : World) (F : HP) (hx : x.OK) (hq : x.heading = none) (hs : Sat w F) :
    Calls Tryz.prog 84 #[.pointer p, x.agg] w fun e w' => e = .returned (.tuple #[x.agg, .bool false]) ∧ Sat w' F := by
  have h1 : Sat (w.alloc (.cells x.cells.toArray 101)) (row w.heap.size 101 x.cells * F) := hs.new _ _ rfl
  have h2 := h1.new (d := w.heap.size + 1) Ln.zero.cells 101 (by simp)
  have h3 := h2.new (d := w.heap.size + 2) x.cells 101 (by simp)
  have h4 := (h3.new (d := w.heap.size + 3) [.int .i64 0] 3 (by simp)).swap
  have hQ := fun b wb n0 w F hs => trimHeading_w b wb x n0 w F hx hs
  rw [hq] at hQ
  simp only [Option.map_none, Option.getD_none, Option.isSome_none] at hQ
  have HQ := Lib.hid hQ
  clear hQ hq
  unfold Ln.agg
  go_enter Tryz.func84, Tryz.ntmps84
  go_wp2_with fail
  refine (HQ.out _ _ 0 _ _ h4).mono ?_
  rintro e w1 ⟨rfl, s1⟩
  have t1 := s1.drop1.drop1
  obtain ⟨a0, a1, a2, a3, a4, af⟩ := line_cells t1
  obtain ⟨b0, b1, b2, b3, b4, bf⟩ := line_cells t1.swap
  have HS := Lib.hid t1
  clear s1 t1 h1 h2 h3 h4
  go_wp2
  refine bodyPost_ret (v := .tuple #[x.agg, .bool false]) (by simp [results, Tryz.results84, go_sem, Ln.agg, *]) rfl ⟨rfl, ?_⟩
  exact (((((HS.out.set 0 _).set 1 _).set 2 _).set 3 _).set 4 _).drop1.drop1

set_option maxRecDepth 100000 in
set_option maxHeartbeats 1000000 in
theorem newHR_not (p : Option Addr) (x : Ln) (w : World) (F : HP) (hx : x.OK) (hq : x.hr = false) (hs : Sat w F) :
    Calls Tryz.prog 86 #[.pointer p, x.agg] w fun e w' => e = .returned (.tuple #[x.agg, .bool false]) ∧ Sat w' F := by
  have h1 : Sat (w.alloc (.cells x.cells.toArray 101)) (row w.heap.size 101 x.cells * F) := hs.new _ _ rfl
  have h2 := h1.new (d := w.heap.size + 1) Ln.zero.cells 101 (by simp)
  have hQ := fun w F hs => isHR_w x w F hx hs
  rw [hq] at hQ
  have HQ := Lib.hid hQ
  clear hQ hq
  unfold Ln.agg at HQ ⊢
  go_enter Tryz.func86, Tryz.ntmps86
  go_wp2_with fail
  refine (HQ.out _ _ h2).mono ?_
  rintro e w1 ⟨rfl, t1⟩
  obtain ⟨a0, a1, a2, a3, a4, af⟩ := line_cells t1
  obtain ⟨b0, b1, b2, b3, b4, bf⟩ := line_cells t1.swap
  have HS := Lib.hid t1
  clear t1 h1 h2
  go_wp2
  refine bodyPost_ret (v := .tuple #[x.agg, .bool false]) (by simp [results, Tryz.results86, go_sem, Ln.agg, *]) rfl ⟨rfl, ?_⟩
  exact (((((HS.out.set 0 _).set 1 _).set 2 _).set 3 _).set 4 _).drop1.drop1

end Go.Proofs.YtigcmibkgcmfcaaGreatDoor
