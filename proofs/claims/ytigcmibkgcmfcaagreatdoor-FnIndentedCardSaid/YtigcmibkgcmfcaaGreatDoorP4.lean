/- Walks: closing blocks down to a depth. -/
import Derived.Test.YtigcmibkgcmfcaaGreatDoorP3
import Derived.Deep.LoopGhost
namespace Go.Proofs.YtigcmibkgcmfcaaGreatDoor
open Go.RowKit Sl

set_option maxRecDepth 100000 in
set_option maxHeartbeats 400000 in
theorem trimStack_w (p d n : Nat) (hdn : d ≤ n) (_hn : n ≤ 1000000000) (S : Nat → HP) (F : HP)
    (hlen : ∀ k w, d ≤ k → k ≤ n → Sat w (S k * F) → ∃ a c, w.cell? ⟨p, 4, none⟩ = some (.slice a k c))
    (hclose : ∀ k w, d ≤ k → k < n → Sat w (S (k + 1) * F) → Calls Tryz.prog 61 #[.pointer (some ⟨p, 0, none⟩)] w fun e w' => ∃ v, e = .returned v ∧ Sat w' (S k * F))
    (w : World) (hs : Sat w (S n * F)) :
    Calls Tryz.prog 52 #[.pointer (some ⟨p, 0, none⟩), .int .i64 d] w fun e w' => e = .returned (.tuple #[]) ∧ Sat w' (S d * F) := by
  obtain ⟨a0, c0, h40⟩ := hlen n w hdn (Nat.le_refl _) hs
  have hdec : decide (n < d) = false := by simp; omega
  go_enter Tryz.func52, Tryz.ntmps52
  go_wp2
  clear h40
  go_loopg [] n (fun k wr => d ≤ k ∧ k ≤ n ∧ Sat wr (S k * F))
  case atStart => exact ⟨hdn, Nat.le_refl _, hs⟩
  case round =>
    obtain ⟨h1, h2, h3⟩ := hrel
    obtain ⟨a, c, h4⟩ := hlen gk wr h1 h2 h3
    by_cases hlt : d < gk
    · obtain ⟨k, rfl⟩ : ∃ k, gk = k + 1 := ⟨gk - 1, by omega⟩
      go_wp2_with fail
      refine (hclose k wr (by omega) (by omega) h3).mono ?_
      rintro e w' ⟨v, rfl, h5⟩
      go_wp2
      go_roundg k
      case measure => omega
      case rel => exact ⟨by omega, by omega, h5⟩
    · obtain rfl : gk = d := by omega
      go_wp2
      go_end0
      exact ⟨rfl, h3⟩

end Go.Proofs.YtigcmibkgcmfcaaGreatDoor
