/- A text so many times. -/
import Derived.Test.YtmdabdpghcjplaaGreatDoorL1
import Derived.Laws.Concat
import Derived.Deep.DeepCutAuto
namespace Go.Proofs.YtmdabdpghcjplaaGreatDoor
open Go.RowKit

theorem B.append (a b : List UInt8) : B.bs a ++ B.bs b = B.bs (a ++ b) := ByteArray.mk_append_mk a b

set_option maxRecDepth 100000 in
set_option maxHeartbeats 400000 in
theorem times_w (s : List UInt8) (n : Nat) (w : World) (hn : n ≤ 1000000) (hs : s.length ≤ 1000000) :
    Calls Tryz.prog 18 #[.string (B.bs s), .int .i64 n] w fun e w' => e = .returned (.string (B.bs (List.replicate n s).flatten)) ∧ w = w' := by
  go_enter Tryz.func18, Tryz.ntmps18
  go_wp2
  go_loopw [5, 7] (fun o i wr => ∃ k : Nat, k ≤ n ∧ i = .int .i64 k ∧ o = .string (B.bs (List.replicate k s).flatten) ∧ w = wr) (fun _ i _ => n - (intOf i).toNat)
  case atStart => exact ⟨0, Nat.zero_le _, rfl, rfl, rfl⟩
  case round =>
    obtain ⟨k, hk, rfl, rfl, rfl⟩ := hrel
    by_cases hlt : k < n
    · have hz : (List.replicate k s).flatten.length ≤ 1000000 * 1000000 := by
        rw [List.length_flatten, List.map_replicate, List.sum_replicate_nat]
        exact Nat.mul_le_mul (show k ≤ 1000000 by omega) hs
      have hadd := run_string_add_sum (P := Tryz.prog) w (B.bs (List.replicate k s).flatten) (B.bs s) (by rw [B.bs_size, B.bs_size]; omega)
      have he : (List.replicate k s).flatten ++ s = (List.replicate (k + 1) s).flatten := by
        rw [List.replicate_succ', List.flatten_append]; simp
      rw [B.append, he] at hadd
      go_wp2
      go_roundw
      case rel => exact ⟨k + 1, by omega, by go_num, by simp⟩
      case measure => simp [intOf]; omega
    · obtain rfl : k = n := by omega
      go_wp2
      go_ret
      first | exact ⟨rfl, rfl⟩ | exact ⟨trivial, rfl⟩ | simp

theorem flatten_one (n : Nat) (c : UInt8) : (List.replicate n [c]).flatten = List.replicate n c := by
  induction n with
  | zero => rfl
  | succ n ih => rw [List.replicate_succ, List.flatten_cons, ih]; rfl

theorem times1_w (c : UInt8) (s : ByteArray) (hc : s = B.bs [c]) (n : Nat) (w : World) (hn : n ≤ 1000000) :
    Calls Tryz.prog 18 #[.string s, .int .i64 n] w fun e w' => e = .returned (.string (B.bs (List.replicate n c))) ∧ w = w' := by
  subst hc
  have := times_w [c] n w hn (by simp)
  rwa [flatten_one] at this

end Go.Proofs.YtmdabdpghcjplaaGreatDoor
