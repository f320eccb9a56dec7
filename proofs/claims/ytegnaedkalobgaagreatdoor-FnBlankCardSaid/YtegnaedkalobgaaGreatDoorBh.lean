/- Walks: the HTML of a document without blocks. -/
import Derived.Test.YtegnaedkalobgaaGreatDoorTop
import Derived.Test.YtegnaedkalobgaaGreatDoorBl
namespace Go.Proofs.YtegnaedkalobgaaGreatDoor
open Go.RowKit Sl

set_option maxRecDepth 100000 in
set_option maxHeartbeats 400000 in
theorem docPrint_nil (d : Nat) (bp : Option Addr) (w : World) (h2 : w.cell? ⟨d, 2, none⟩ = some (.slice none 0 0)) :
    Calls Tryz.prog 248 #[.pointer (some ⟨d, 0, none⟩), .pointer bp] w fun e w' => e = .returned (.tuple #[]) ∧ w = w' := by
  go_enter Tryz.func248, Tryz.ntmps248
  go_wp2
  refine wp_loop_once ?_
  go_wp2
  go_end0
  exact ⟨rfl, rfl⟩

set_option maxRecDepth 100000 in
set_option maxHeartbeats 400000 in
theorem bufString_nil (b : Nat) (w : World) (h0 : w.cell? ⟨b, 0, none⟩ = some (.slice none 0 0)) (h1 : w.cell? ⟨b, 1, none⟩ = some (.int .i64 0)) :
    Calls Tryz.prog 25 #[.pointer (some ⟨b, 0, none⟩)] w fun e w' => e = .returned (.string ⟨#[]⟩) ∧ ∃ n, w' = w.drewN n := by
  have kc : ∀ w, (convert 22 9 (.slice none 0 0)).run Tryz.prog w = .ok (.string ⟨#[]⟩) w := fun w => by kernel_rfl
  go_enter Tryz.func25, Tryz.ntmps25
  go_wp2
  go_quiet (fail)
  go_wp2
  go_ret
  exact ⟨rfl, _, rfl⟩

set_option maxRecDepth 100000 in
set_option maxHeartbeats 400000 in
theorem toHTML_nil (d : Nat) (w : World) (F : HP) (h2 : w.cell? ⟨d, 2, none⟩ = some (.slice none 0 0)) (hs : Sat w F) :
    Calls Tryz.prog 12 #[.iface 37 (.pointer (some ⟨d, 0, none⟩))] w fun e w' => e = .returned (.string ⟨#[]⟩) ∧ Sat w' F := by
  have m1 := fun w => meth_Document_PrintHTML ⟨d, 0, none⟩ w
  have n1 := fun w => ahead_Document_PrintHTML ⟨d, 0, none⟩ w
  have hd := World.block_lt_of_cell? w _ h2
  have hd' : d < w.heap.size := hd
  have hs1 := (hs.new [.slice none 0 0, .int .i64 0, .int .i8 0] 107 rfl).drop1
  go_enter Tryz.func12, Tryz.ntmps12
  go_wp2_with fail
  refine (docPrint_nil d _ _ ?_).mono ?_
  · simp [go_sem, *]
  rintro e w1 ⟨rfl, rfl⟩
  go_wp2_with fail
  refine (bufString_nil _ _ ?_ ?_).mono ?_
  · simp [go_sem]
  · simp [go_sem]
  rintro e w1 ⟨rfl, n, rfl⟩
  go_wp2
  go_ret
  exact ⟨rfl, hs1.drewN _⟩

end Go.Proofs.YtegnaedkalobgaaGreatDoor
