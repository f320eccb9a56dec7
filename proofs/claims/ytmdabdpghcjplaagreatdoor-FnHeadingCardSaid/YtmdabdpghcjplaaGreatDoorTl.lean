/- Small functions of the laws: texts of printable signs, of ink; texts put together; HTML's signs. -/
import Derived.Test.YtmdabdpghcjplaaGreatDoorTm
import Derived.Test.YtmdabdpghcjplaaGreatDoorKi
import Derived.Test.YtmdabdpghcjplaaGreatDoorEs
namespace Go.Proofs.YtmdabdpghcjplaaGreatDoor
open Go.RowKit

/-- printable signs; line feeds where they are let -/
def asciiB (lines : Bool) (s : List UInt8) : Bool := s.all fun c => (decide (32 ≤ c) && decide (c ≤ 126)) || (lines && c == 10)

theorem u8_lt {a b : UInt8} : decide ((a.toNat : Int) < (b.toNat : Int)) = decide (a < b) := by
  rw [decide_eq_decide, UInt8.lt_iff_toNat_lt]
  omega

set_option maxRecDepth 100000 in
set_option maxHeartbeats 1000000 in
theorem ascii_w (s : List UInt8) (ln : Bool) (w : World) (hs : s.length ≤ 9223372036854775807) :
    Calls Tryz.prog 20 #[.string (B.bs s), .bool ln] w fun e w' => e = .returned (.bool (asciiB ln s)) ∧ w = w' := by
  have hz : (B.bs s).size = s.length := rfl
  go_enter Tryz.func20, Tryz.ntmps20
  go_wp2
  go_loopw [5] (fun i wr => ∃ k : Nat, k ≤ s.length ∧ i = .int .i64 k ∧ asciiB ln s = asciiB ln (s.drop k) ∧ w = wr) (fun i _ => s.length - (intOf i).toNat)
  case atStart => exact ⟨0, Nat.zero_le _, rfl, rfl, rfl⟩
  case round =>
    obtain ⟨k, hk, rfl, hn, rfl⟩ := hrel
    have HN := Lib.hid hn
    clear hn
    by_cases hlt : k < s.length
    · generalize hc : s[k] = c
      have hix : ∀ h, (B.bs s)[k]'h = c := fun _ => hc
      have hd : s.drop k = c :: s.drop (k + 1) := by rw [List.drop_eq_getElem_cons hlt, hc]
      have HD := Lib.hid hd
      clear hd
      have a1 : decide ((c.toNat : Int) < 32) = decide (c < 32) := u8_lt (b := 32)
      have a2 : decide ((126 : Int) < (c.toNat : Int)) = decide (126 < c) := u8_lt (a := 126)
      have hcons : asciiB ln (c :: s.drop (k + 1)) = (((decide (32 ≤ c) && decide (c ≤ 126)) || (ln && c == 10)) && asciiB ln (s.drop (k + 1))) := rfl
      have hcases : (decide (c < 32) = true ∧ ln = false) ∨ (decide (c < 32) = true ∧ ln = true ∧ c = 10) ∨ (decide (c < 32) = true ∧ ln = true ∧ c ≠ 10) ∨ (decide (c < 32) = false ∧ decide (126 < c) = true ∧ ln = false) ∨ (decide (c < 32) = false ∧ decide (126 < c) = true ∧ ln = true ∧ c ≠ 10) ∨ (decide (c < 32) = false ∧ decide (126 < c) = false) := by
        by_cases h1 : c < 32
        · cases ln
          · exact .inl ⟨by simpa using h1, rfl⟩
          · by_cases h2 : c = 10
            · exact .inr (.inl ⟨by simpa using h1, rfl, h2⟩)
            · exact .inr (.inr (.inl ⟨by simpa using h1, rfl, h2⟩))
        · by_cases h3 : 126 < c
          · cases ln
            · exact .inr (.inr (.inr (.inl ⟨by simpa using h1, by simpa using h3, rfl⟩)))
            · exact .inr (.inr (.inr (.inr (.inl ⟨by simpa using h1, by simpa using h3, rfl, by rintro rfl; exact absurd h3 (by decide)⟩))))
          · exact .inr (.inr (.inr (.inr (.inr ⟨by simpa using h1, by simpa using h3⟩))))
      have hfalse : ∀ x : Bool, ((decide (32 ≤ c) && decide (c ≤ 126)) || (ln && c == 10)) = x → asciiB ln s = (x && asciiB ln (s.drop (k + 1))) := fun x hx => by rw [HN.out, HD.out, hcons, hx]
      have HF := Lib.hid hfalse
      clear hfalse hcons
      rcases hcases with ⟨h1, h2⟩ | ⟨h1, h2, h3⟩ | ⟨h1, h2, h3⟩ | ⟨h1, h4, h2⟩ | ⟨h1, h4, h2, h3⟩ | ⟨h1, h4⟩
      · rw [h1] at a1
        subst h2
        go_wp2
        go_ret
        exact ⟨ret_bool (by rw [HF.out false (by have h5 : ¬ (32 ≤ c) := UInt8.not_le.2 (by simpa using h1); simp [h5])]; rfl), rfl⟩
      · subst h2; subst h3
        go_wp2
        go_roundw
        case rel => exact ⟨k + 1, by omega, by go_num, by rw [HF.out true (by decide)]; rfl, by first | trivial | rfl⟩
        case measure => simp [intOf]; omega
      · rw [h1] at a1
        subst h2
        have e : ((c.toNat : Int) == 10) = false := u8_ne (b := 10) h3
        go_wp2
        go_ret
        exact ⟨ret_bool (by rw [HF.out false (by have h5 : ¬ (32 ≤ c) := UInt8.not_le.2 (by simpa using h1); simp [h5, h3])]; rfl), rfl⟩
      · rw [h1] at a1
        rw [h4] at a2
        subst h2
        go_wp2
        go_ret
        exact ⟨ret_bool (by rw [HF.out false (by simp at h4; simp [h4])]; rfl), rfl⟩
      · rw [h1] at a1
        rw [h4] at a2
        subst h2
        have e : ((c.toNat : Int) == 10) = false := u8_ne (b := 10) h3
        go_wp2
        go_ret
        exact ⟨ret_bool (by rw [HF.out false (by simp at h4; simp [h3, h4])]; rfl), rfl⟩
      · rw [h1] at a1
        rw [h4] at a2
        go_wp2
        go_roundw
        case rel => exact ⟨k + 1, by omega, by go_num, by rw [HF.out true (by simp at h1 h4; simp [h1, h4])]; rfl, by first | trivial | rfl⟩
        case measure => simp [intOf]; omega
    · obtain rfl : k = s.length := by omega
      go_wp2
      go_ret
      exact ⟨ret_bool (by rw [HN.out, List.drop_eq_nil_of_le (Nat.le_refl _)]; rfl), rfl⟩

theorem html_put (c : UInt8) : htmlPairs.put c = if c = 38 then [38, 97, 109, 112, 59] else if c = 60 then [38, 108, 116, 59] else if c = 62 then [38, 103, 116, 59] else if c = 34 then [38, 113, 117, 111, 116, 59] else [c] := by
  unfold Pairs.put htmlPairs
  simp only [List.find?_cons, List.find?_nil]
  by_cases h1 : c = 38
  · subst h1; rfl
  by_cases h2 : c = 60
  · subst h2; rfl
  by_cases h3 : c = 62
  · subst h3; rfl
  by_cases h4 : c = 34
  · subst h4; rfl
  rw [if_neg h1, if_neg h2, if_neg h3, if_neg h4, show ((34 : UInt8) == c) = false from by simpa using Ne.symm h4, show ((38 : UInt8) == c) = false from by simpa using Ne.symm h1, show ((60 : UInt8) == c) = false from by simpa using Ne.symm h2, show ((62 : UInt8) == c) = false from by simpa using Ne.symm h3]

theorem html_put_len (c : UInt8) : (htmlPairs.put c).length ≤ 6 := by
  rw [html_put]
  split
  · decide
  · split
    · decide
    · split
      · decide
      · split <;> simp
theorem html_esc_len (s : List UInt8) : (htmlPairs.esc s).length ≤ 6 * s.length := by
  induction s with
  | nil => exact Nat.zero_le _
  | cons a t ih =>
    have h1 := html_put_len a
    unfold Pairs.esc at *
    rw [List.flatMap_cons, List.length_append, List.length_cons]
    omega

set_option maxRecDepth 100000 in
set_option maxHeartbeats 1000000 in
theorem EscapeHTML_w (s : List UInt8) (w : World) (hs : s.length ≤ 1000000000) :
    Calls Tryz.prog 9 #[.string (B.bs s)] w fun e w' => e = .returned (.string (B.bs (htmlPairs.esc s))) ∧ w = w' := by
  have hz : (B.bs s).size = s.length := rfl
  go_enter Tryz.func9, Tryz.ntmps9
  go_wp2
  go_loopw [3, 4] (fun o i wr => ∃ k : Nat, k ≤ s.length ∧ i = .int .i64 k ∧ o = .string (B.bs (htmlPairs.esc (s.take k))) ∧ w = wr) (fun _ i _ => s.length - (intOf i).toNat)
  case atStart => exact ⟨0, Nat.zero_le _, rfl, rfl, rfl⟩
  case round =>
    obtain ⟨k, hk, rfl, rfl, rfl⟩ := hrel
    by_cases hlt : k < s.length
    · have hts := htmlPairs.esc_take s k hlt
      have hle := html_esc_len (s.take k)
      rw [List.length_take, Nat.min_eq_left hk] at hle
      generalize hc : s[k] = c at hts
      have hix : ∀ h, (B.bs s)[k]'h = c := fun _ => hc
      rw [html_put] at hts
      have hadd : ∀ x : List UInt8, x.length ≤ 6 → (Op.stringOp .add (B.bs (htmlPairs.esc (s.take k))) (B.bs x)).run Tryz.prog w = .ok (.string (B.bs (htmlPairs.esc (s.take k) ++ x))) w := fun x hx => by
        rw [run_string_add_sum (P := Tryz.prog) w _ _ (by rw [B.bs_size, B.bs_size]; omega), B.append]
      have hex : (B.bs s).extract k (k + 1) = B.bs [c] := by
        rw [B.extract_bs, B.bs_data, List.drop_eq_getElem_cons hlt, hc]
        simp
      have HTS := Lib.hid hts
      clear hts hle
      by_cases h1 : c = 38
      · subst h1
        have ha : (Op.stringOp .add (B.bs (htmlPairs.esc (s.take k))) ⟨#[38, 97, 109, 112, 59]⟩).run Tryz.prog w = _ := hadd [38, 97, 109, 112, 59] (by decide)
        clear hadd
        go_wp2
        go_roundw
        case rel => exact ⟨k + 1, by omega, by go_num, by rw [HTS.out]; rfl, by first | trivial | rfl⟩
        case measure => simp [intOf]; omega
      by_cases h2 : c = 60
      · subst h2
        have ha : (Op.stringOp .add (B.bs (htmlPairs.esc (s.take k))) ⟨#[38, 108, 116, 59]⟩).run Tryz.prog w = _ := hadd [38, 108, 116, 59] (by decide)
        clear hadd
        go_wp2
        go_roundw
        case rel => exact ⟨k + 1, by omega, by go_num, by rw [HTS.out]; rfl, by first | trivial | rfl⟩
        case measure => simp [intOf]; omega
      by_cases h3 : c = 62
      · subst h3
        have ha : (Op.stringOp .add (B.bs (htmlPairs.esc (s.take k))) ⟨#[38, 103, 116, 59]⟩).run Tryz.prog w = _ := hadd [38, 103, 116, 59] (by decide)
        clear hadd
        go_wp2
        go_roundw
        case rel => exact ⟨k + 1, by omega, by go_num, by rw [HTS.out]; rfl, by first | trivial | rfl⟩
        case measure => simp [intOf]; omega
      by_cases h4 : c = 34
      · subst h4
        have ha : (Op.stringOp .add (B.bs (htmlPairs.esc (s.take k))) ⟨#[38, 113, 117, 111, 116, 59]⟩).run Tryz.prog w = _ := hadd [38, 113, 117, 111, 116, 59] (by decide)
        clear hadd
        go_wp2
        go_roundw
        case rel => exact ⟨k + 1, by omega, by go_num, by rw [HTS.out]; rfl, by first | trivial | rfl⟩
        case measure => simp [intOf]; omega
      have e1 : ((c.toNat : Int) == 38) = false := u8_ne (b := 38) h1
      have e2 : ((c.toNat : Int) == 60) = false := u8_ne (b := 60) h2
      have e3 : ((c.toNat : Int) == 62) = false := u8_ne (b := 62) h3
      have e4 : ((c.toNat : Int) == 34) = false := u8_ne (b := 34) h4
      have ha := hadd [c] (by simp)
      clear hadd
      go_wp2
      go_roundw
      case rel => exact ⟨k + 1, by omega, by go_num, by rw [HTS.out, if_neg h1, if_neg h2, if_neg h3, if_neg h4], by first | trivial | rfl⟩
      case measure => simp [intOf]; omega
    · obtain rfl : k = s.length := by omega
      rw [List.take_of_length_le (Nat.le_refl _)]
      go_wp2
      go_ret
      first | exact ⟨rfl, rfl⟩ | simp

end Go.Proofs.YtmdabdpghcjplaaGreatDoor
