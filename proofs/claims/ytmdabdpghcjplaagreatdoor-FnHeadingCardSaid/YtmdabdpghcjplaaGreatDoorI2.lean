/- Small functions: punctuation, slashed, full. -/
import Derived.Test.YtmdabdpghcjplaaGreatDoorI1
import Derived.Test.YtmdabdpghcjplaaGreatDoorSb
import Derived.Test.YtmdabdpghcjplaaGreatDoorTl
namespace Go.Proofs.YtmdabdpghcjplaaGreatDoor
open Go.RowKit Sl

set_option maxRecDepth 100000 in
set_option maxHeartbeats 1000000 in
theorem isP_w (c : UInt8) (w : World) : Calls Tryz.prog 101 #[.int .u8 c.toNat] w fun e w' => e = .returned (.bool (isP c)) ∧ w = w' := by
  go_enter Tryz.func101, Tryz.ntmps101
  go_wp2
  all_goals
    go_ret
    refine ⟨ret_bool ?_, rfl⟩
    unfold isP
    rw [Bool.eq_iff_iff]
    simp only [Bool.or_eq_true, decide_eq_true_eq, true_iff, Bool.false_eq_true, false_iff, eq_self]
    omega

set_option maxRecDepth 100000 in
set_option maxHeartbeats 1000000 in
theorem IsPunct_w (c : UInt8) (w : World) : Calls Tryz.prog 39 #[.int .u8 c.toNat] w fun e w' => e = .returned (.bool (isP c)) ∧ w = w' := by
  go_enter Tryz.func39, Tryz.ntmps39
  go_wp2
  all_goals
    go_ret
    refine ⟨ret_bool ?_, rfl⟩
    unfold isP
    rw [Bool.eq_iff_iff]
    simp only [Bool.or_eq_true, decide_eq_true_eq, true_iff, Bool.false_eq_true, false_iff, eq_self]
    omega

def fullB (s : List UInt8) : Bool := decide (s ≠ []) && decide (s.head? ≠ some 32) && decide (s.getLast? ≠ some 32)

set_option maxRecDepth 100000 in
set_option maxHeartbeats 1000000 in
theorem full_w (s : List UInt8) (w : World) (hs : s.length ≤ 9223372036854775807) :
    Calls Tryz.prog 19 #[.string (B.bs s)] w fun e w' => e = .returned (.bool (fullB s)) ∧ w = w' := by
  have hz : (B.bs s).size = s.length := rfl
  by_cases hne : s = []
  · subst hne
    have he : (B.bs ([] : List UInt8)).toList.isEmpty = true := by rw [Lib.toList_data]; rfl
    go_enter Tryz.func19, Tryz.ntmps19
    go_wp2
    go_ret
    exact ⟨rfl, rfl⟩
  · have he : (B.bs s).toList.isEmpty = false := by
      rw [Lib.toList_data, B.bs_data]
      cases s with
      | nil => exact absurd rfl hne
      | cons => rfl
    have hl : 0 < s.length := List.length_pos_iff.2 hne
    generalize ha : s[0] = a
    generalize hb : s[s.length - 1] = b
    have h0 : s.head? = some a := by rw [List.head?_eq_getElem?, List.getElem?_eq_getElem hl, ha]
    have h1 : s.getLast? = some b := by rw [List.getLast?_eq_getElem?, List.getElem?_eq_getElem (by omega), hb]
    have hx0 : ∀ h, (B.bs s)[0]'h = a := fun _ => ha
    have hx1 : ∀ h, (B.bs s)[s.length - 1]'h = b := fun _ => hb
    have hF : fullB s = (decide (a ≠ 32) && decide (b ≠ 32)) := by
      unfold fullB
      rw [h0, h1]
      simp [hne]
    have HF := Lib.hid hF
    clear hF h0 h1 ha hb
    by_cases ha : a = 32
    · subst ha
      go_enter Tryz.func19, Tryz.ntmps19
      go_wp2
      go_ret
      exact ⟨ret_bool (by rw [HF.out]; rfl), rfl⟩
    · have e : ((a.toNat : Int) == 32) = false := u8_ne (b := 32) ha
      have e2 : ((a.toNat : Int) != 32) = true := by simp only [bne, e]; rfl
      by_cases hb : b = 32
      · subst hb
        go_enter Tryz.func19, Tryz.ntmps19
        go_wp2
        go_ret
        exact ⟨ret_bool (by rw [HF.out]; simp), rfl⟩
      · have f : ((b.toNat : Int) == 32) = false := u8_ne (b := 32) hb
        have f2 : ((b.toNat : Int) != 32) = true := by simp only [bne, f]; rfl
        go_enter Tryz.func19, Tryz.ntmps19
        go_wp2
        go_ret
        exact ⟨ret_bool (by rw [HF.out]; simp [ha, hb]), rfl⟩

end Go.Proofs.YtmdabdpghcjplaaGreatDoor
