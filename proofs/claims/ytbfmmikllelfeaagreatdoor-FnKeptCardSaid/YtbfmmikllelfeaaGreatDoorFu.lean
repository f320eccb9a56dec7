/- A text so many times. -/
import Derived.Test.YtbfmmikllelfeaaGreatDoorB
import Derived.Test.YtbfmmikllelfeaaGreatDoorI0
import Derived.Test.YtbfmmikllelfeaaGreatDoorSb
namespace Go.Proofs.YtbfmmikllelfeaaGreatDoor
open Go.RowKit

set_option maxRecDepth 100000 in
set_option maxHeartbeats 400000 in
theorem times_w (s : List UInt8) (n : Nat) (w : World) (hn : n ≤ 1000000) (hs : s.length ≤ 1000000) :
    Calls Tryz.prog 33 #[.string (B.bs s), .int .i64 n] w fun e w' => e = .returned (.string (B.bs (List.replicate n s).flatten)) ∧ w = w' := by
  go_enter Tryz.func33, Tryz.ntmps33
  go_wp2
  go_loopw [5, 7] (fun o i wr => ∃ k : Nat, k ≤ n ∧ i = .int .i64 k ∧ o = .string (B.bs (List.replicate k s).flatten) ∧ w = wr) (fun _ i _ => n - (intOf i).toNat)
  case atStart => exact ⟨0, Nat.zero_le _, rfl, rfl, rfl⟩
  case round =>
    obtain ⟨k, hk, rfl, rfl, rfl⟩ := hrel
    by_cases hlt : k < n
    · have hz : (List.replicate k s).flatten.length ≤ 1000000 * 1000000 := by
        rw [List.length_flatten, List.map_replicate, List.sum_replicate_nat]
        exact Nat.mul_le_mul (show k ≤ 1000000 by omega) hs
      have hadd := run_string_add_sum (P := Tryz.prog) w (B.bs (List.replicate k s).flatten) (B.bs s) (by rw [B.bs_size, B.bs_size]; omega)
      have he : (List.replicate k s).flatten ++ s = (List.replicate (k + 1) s).flatten := by
        rw [List.replicate_succ', List.flatten_append]; simp
      rw [B.append, he] at hadd
      go_wp2
      go_roundw
      case rel => exact ⟨k + 1, by omega, by go_num, by simp⟩
      case measure => simp [intOf]; omega
    · obtain rfl : k = n := by omega
      go_wp2
      go_ret
      first | exact ⟨rfl, rfl⟩ | exact ⟨trivial, rfl⟩ | simp

theorem times1_w (c : UInt8) (s : ByteArray) (hc : s = B.bs [c]) (n : Nat) (w : World) (hn : n ≤ 1000000) :
    Calls Tryz.prog 33 #[.string s, .int .i64 n] w fun e w' => e = .returned (.string (B.bs (List.replicate n c))) ∧ w = w' := by
  subst hc
  have := times_w [c] n w hn (by simp)
  rwa [flatten_one] at this

end Go.Proofs.YtbfmmikllelfeaaGreatDoor

/- A small function of the laws: texts of printable signs. -/
namespace Go.Proofs.YtbfmmikllelfeaaGreatDoor
open Go.RowKit

/-- printable signs; line feeds where they are let -/
def asciiB (lines : Bool) (s : List UInt8) : Bool := s.all fun c => (decide (32 ≤ c) && decide (c ≤ 126)) || (lines && c == 10)

set_option maxRecDepth 100000 in
set_option maxHeartbeats 1000000 in
theorem ascii_w (s : List UInt8) (ln : Bool) (w : World) (hs : s.length ≤ 9223372036854775807) :
    Calls Tryz.prog 24 #[.string (B.bs s), .bool ln] w fun e w' => e = .returned (.bool (asciiB ln s)) ∧ w = w' := by
  have hz : (B.bs s).size = s.length := rfl
  go_enter Tryz.func24, Tryz.ntmps24
  go_wp2
  go_loopw [5] (fun i wr => ∃ k : Nat, k ≤ s.length ∧ i = .int .i64 k ∧ asciiB ln s = asciiB ln (s.drop k) ∧ w = wr) (fun i _ => s.length - (intOf i).toNat)
  case atStart => exact ⟨0, Nat.zero_le _, rfl, rfl, rfl⟩
  case round =>
    obtain ⟨k, hk, rfl, hn, rfl⟩ := hrel
    have HN := Lib.hid hn
    clear hn
    by_cases hlt : k < s.length
    · generalize hc : s[k] = c
      have hix : ∀ h, (B.bs s)[k]'h = c := fun _ => hc
      have hd : s.drop k = c :: s.drop (k + 1) := by rw [List.drop_eq_getElem_cons hlt, hc]
      have HD := Lib.hid hd
      clear hd
      have a1 : decide ((c.toNat : Int) < 32) = decide (c < 32) := u8_lt (b := 32)
      have a2 : decide ((126 : Int) < (c.toNat : Int)) = decide (126 < c) := u8_lt (a := 126)
      have hcons : asciiB ln (c :: s.drop (k + 1)) = (((decide (32 ≤ c) && decide (c ≤ 126)) || (ln && c == 10)) && asciiB ln (s.drop (k + 1))) := rfl
      have hcases : (decide (c < 32) = true ∧ ln = false) ∨ (decide (c < 32) = true ∧ ln = true ∧ c = 10) ∨ (decide (c < 32) = true ∧ ln = true ∧ c ≠ 10) ∨ (decide (c < 32) = false ∧ decide (126 < c) = true ∧ ln = false) ∨ (decide (c < 32) = false ∧ decide (126 < c) = true ∧ ln = true ∧ c ≠ 10) ∨ (decide (c < 32) = false ∧ decide (126 < c) = false) := by
        by_cases h1 : c < 32
        · cases ln
          · exact .inl ⟨by simpa using h1, rfl⟩
          · by_cases h2 : c = 10
            · exact .inr (.inl ⟨by simpa using h1, rfl, h2⟩)
            · exact .inr (.inr (.inl ⟨by simpa using h1, rfl, h2⟩))
        · by_cases h3 : 126 < c
          · cases ln
            · exact .inr (.inr (.inr (.inl ⟨by simpa using h1, by simpa using h3, rfl⟩)))
            · exact .inr (.inr (.inr (.inr (.inl ⟨by simpa using h1, by simpa using h3, rfl, by rintro rfl; exact absurd h3 (by decide)⟩))))
          · exact .inr (.inr (.inr (.inr (.inr ⟨by simpa using h1, by simpa using h3⟩))))
      have hfalse : ∀ x : Bool, ((decide (32 ≤ c) && decide (c ≤ 126)) || (ln && c == 10)) = x → asciiB ln s = (x && asciiB ln (s.drop (k + 1))) := fun x hx => by rw [HN.out, HD.out, hcons, hx]
      have HF := Lib.hid hfalse
      clear hfalse hcons
      rcases hcases with ⟨h1, h2⟩ | ⟨h1, h2, h3⟩ | ⟨h1, h2, h3⟩ | ⟨h1, h4, h2⟩ | ⟨h1, h4, h2, h3⟩ | ⟨h1, h4⟩
      · rw [h1] at a1
        subst h2
        go_wp2
        go_ret
        exact ⟨ret_bool (by rw [HF.out false (by have h5 : ¬ (32 ≤ c) := UInt8.not_le.2 (by simpa using h1); simp [h5])]; rfl), rfl⟩
      · subst h2; subst h3
        go_wp2
        go_roundw
        case rel => exact ⟨k + 1, by omega, by go_num, by rw [HF.out true (by decide)]; rfl, by first | trivial | rfl⟩
        case measure => simp [intOf]; omega
      · rw [h1] at a1
        subst h2
        have e : ((c.toNat : Int) == 10) = false := u8_ne (b := 10) h3
        go_wp2
        go_ret
        exact ⟨ret_bool (by rw [HF.out false (by have h5 : ¬ (32 ≤ c) := UInt8.not_le.2 (by simpa using h1); simp [h5, h3])]; rfl), rfl⟩
      · rw [h1] at a1
        rw [h4] at a2
        subst h2
        go_wp2
        go_ret
        exact ⟨ret_bool (by rw [HF.out false (by simp at h4; simp [h4])]; rfl), rfl⟩
      · rw [h1] at a1
        rw [h4] at a2
        subst h2
        have e : ((c.toNat : Int) == 10) = false := u8_ne (b := 10) h3
        go_wp2
        go_ret
        exact ⟨ret_bool (by rw [HF.out false (by simp at h4; simp [h3, h4])]; rfl), rfl⟩
      · rw [h1] at a1
        rw [h4] at a2
        go_wp2
        go_roundw
        case rel => exact ⟨k + 1, by omega, by go_num, by rw [HF.out true (by simp at h1 h4; simp [h1, h4])]; rfl, by first | trivial | rfl⟩
        case measure => simp [intOf]; omega
    · obtain rfl : k = s.length := by omega
      go_wp2
      go_ret
      exact ⟨ret_bool (by rw [HN.out, List.drop_eq_nil_of_le (Nat.le_refl _)]; rfl), rfl⟩

end Go.Proofs.YtbfmmikllelfeaaGreatDoor

/- Small functions of the laws: punctuation, full. -/
namespace Go.Proofs.YtbfmmikllelfeaaGreatDoor
open Go.RowKit Sl

set_option maxRecDepth 100000 in
set_option maxHeartbeats 1000000 in
theorem IsPunct_w (c : UInt8) (w : World) : Calls Tryz.prog 51 #[.int .u8 c.toNat] w fun e w' => e = .returned (.bool (isP c)) ∧ w = w' := by
  go_enter Tryz.func51, Tryz.ntmps51
  go_wp2
  all_goals
    go_ret
    refine ⟨ret_bool ?_, rfl⟩
    unfold isP
    rw [Bool.eq_iff_iff]
    simp only [Bool.or_eq_true, decide_eq_true_eq, true_iff, Bool.false_eq_true, false_iff, eq_self]
    omega

def fullB (s : List UInt8) : Bool := decide (s ≠ []) && decide (s.head? ≠ some 32) && decide (s.getLast? ≠ some 32)

set_option maxRecDepth 100000 in
set_option maxHeartbeats 1000000 in
theorem full_w (s : List UInt8) (w : World) (hs : s.length ≤ 9223372036854775807) :
    Calls Tryz.prog 23 #[.string (B.bs s)] w fun e w' => e = .returned (.bool (fullB s)) ∧ w = w' := by
  have hz : (B.bs s).size = s.length := rfl
  by_cases hne : s = []
  · subst hne
    have he : (B.bs ([] : List UInt8)).toList.isEmpty = true := by rw [Lib.toList_data]; rfl
    go_enter Tryz.func23, Tryz.ntmps23
    go_wp2
    go_ret
    exact ⟨rfl, rfl⟩
  · have he : (B.bs s).toList.isEmpty = false := by
      rw [Lib.toList_data, B.bs_data]
      cases s with
      | nil => exact absurd rfl hne
      | cons => rfl
    have hl : 0 < s.length := List.length_pos_iff.2 hne
    generalize ha : s[0] = a
    generalize hb : s[s.length - 1] = b
    have h0 : s.head? = some a := by rw [List.head?_eq_getElem?, List.getElem?_eq_getElem hl, ha]
    have h1 : s.getLast? = some b := by rw [List.getLast?_eq_getElem?, List.getElem?_eq_getElem (by omega), hb]
    have hx0 : ∀ h, (B.bs s)[0]'h = a := fun _ => ha
    have hx1 : ∀ h, (B.bs s)[s.length - 1]'h = b := fun _ => hb
    have hF : fullB s = (decide (a ≠ 32) && decide (b ≠ 32)) := by
      unfold fullB
      rw [h0, h1]
      simp [hne]
    have HF := Lib.hid hF
    clear hF h0 h1 ha hb
    by_cases ha : a = 32
    · subst ha
      go_enter Tryz.func23, Tryz.ntmps23
      go_wp2
      go_ret
      exact ⟨ret_bool (by rw [HF.out]; rfl), rfl⟩
    · have e : ((a.toNat : Int) == 32) = false := u8_ne (b := 32) ha
      have e2 : ((a.toNat : Int) != 32) = true := by simp only [bne, e]; rfl
      by_cases hb : b = 32
      · subst hb
        go_enter Tryz.func23, Tryz.ntmps23
        go_wp2
        go_ret
        exact ⟨ret_bool (by rw [HF.out]; simp), rfl⟩
      · have f : ((b.toNat : Int) == 32) = false := u8_ne (b := 32) hb
        have f2 : ((b.toNat : Int) != 32) = true := by simp only [bne, f]; rfl
        go_enter Tryz.func23, Tryz.ntmps23
        go_wp2
        go_ret
        exact ⟨ret_bool (by rw [HF.out]; simp [ha, hb]), rfl⟩

end Go.Proofs.YtbfmmikllelfeaaGreatDoor
