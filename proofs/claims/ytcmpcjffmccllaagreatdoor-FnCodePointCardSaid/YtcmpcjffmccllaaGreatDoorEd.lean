/- Digits: what the law's own function writes, and what number they spell. -/
import Derived.Test.YtcmpcjffmccllaaGreatDoorE0
import Derived.Test.YtcmpcjffmccllaaGreatDoorEp
import Derived.Test.YtcmpcjffmccllaaGreatDoorB
namespace Go.Proofs.YtcmpcjffmccllaaGreatDoor
open Go.RowKit Sl

def digC (d : Nat) : UInt8 := if d < 10 then (48 + d).toUInt8 else (87 + d).toUInt8
def digsF (base : Nat) : Nat → Nat → List UInt8
  | 0, n => [digC n]
  | f + 1, n => if n < base then [digC n] else digsF base f (n / base) ++ [digC (n % base)]

theorem digC_toNat {d : Nat} (h : d < 16) : (digC d).toNat = if d < 10 then 48 + d else 87 + d := by
  have : d = 0 ∨ d = 1 ∨ d = 2 ∨ d = 3 ∨ d = 4 ∨ d = 5 ∨ d = 6 ∨ d = 7 ∨ d = 8 ∨ d = 9 ∨ d = 10 ∨ d = 11 ∨ d = 12 ∨ d = 13 ∨ d = 14 ∨ d = 15 := by omega
  rcases this with rfl | rfl | rfl | rfl | rfl | rfl | rfl | rfl | rfl | rfl | rfl | rfl | rfl | rfl | rfl | rfl <;> rfl

theorem digC_hex {d : Nat} (h : d < 16) : hexDig (digC d) = some d := by
  have : d = 0 ∨ d = 1 ∨ d = 2 ∨ d = 3 ∨ d = 4 ∨ d = 5 ∨ d = 6 ∨ d = 7 ∨ d = 8 ∨ d = 9 ∨ d = 10 ∨ d = 11 ∨ d = 12 ∨ d = 13 ∨ d = 14 ∨ d = 15 := by omega
  rcases this with rfl | rfl | rfl | rfl | rfl | rfl | rfl | rfl | rfl | rfl | rfl | rfl | rfl | rfl | rfl | rfl <;> rfl
theorem digC_dec {d : Nat} (h : d < 10) : Lib.digitVal (digC d) = some d := by
  have : d = 0 ∨ d = 1 ∨ d = 2 ∨ d = 3 ∨ d = 4 ∨ d = 5 ∨ d = 6 ∨ d = 7 ∨ d = 8 ∨ d = 9 := by omega
  rcases this with rfl | rfl | rfl | rfl | rfl | rfl | rfl | rfl | rfl | rfl <;> rfl

theorem dig_cut : ∀ d : Nat, d < 16 → (⟨#[48, 49, 50, 51, 52, 53, 54, 55, 56, 57, 97, 98, 99, 100, 101, 102]⟩ : ByteArray).extract d (d + 1) = B.bs [digC d] := by
  intro d h
  have : d = 0 ∨ d = 1 ∨ d = 2 ∨ d = 3 ∨ d = 4 ∨ d = 5 ∨ d = 6 ∨ d = 7 ∨ d = 8 ∨ d = 9 ∨ d = 10 ∨ d = 11 ∨ d = 12 ∨ d = 13 ∨ d = 14 ∨ d = 15 := by omega
  rcases this with rfl | rfl | rfl | rfl | rfl | rfl | rfl | rfl | rfl | rfl | rfl | rfl | rfl | rfl | rfl | rfl <;> rfl

theorem digsF_len (base : Nat) : ∀ (f n : Nat), 1 ≤ (digsF base f n).length ∧ (digsF base f n).length ≤ f + 1
  | 0, n => ⟨Nat.le_refl _, Nat.le_refl _⟩
  | f + 1, n => by
    unfold digsF
    split
    · simp
    · have := digsF_len base f (n / base)
      simp; omega

theorem digsF_hex : ∀ (f n : Nat), n < 16 ^ (f + 1) → hexVal 0 (digsF 16 f n) = some n
  | 0, n, h => by
    show (match hexDig (digC n) with | some d => hexVal (16 * 0 + d) [] | none => none) = _
    rw [digC_hex (by omega)]
    simp [hexVal]
  | f + 1, n, h => by
    unfold digsF
    split
    · next hn =>
      show (match hexDig (digC n) with | some d => hexVal (16 * 0 + d) [] | none => none) = _
      rw [digC_hex hn]
      simp [hexVal]
    · have ih := digsF_hex f (n / 16) (by rw [Nat.pow_succ] at h; omega)
      rw [hexVal_snoc, ih, digC_hex (Nat.mod_lt _ (by decide))]
      show some (16 * (n / 16) + n % 16) = some n
      rw [Nat.div_add_mod]

theorem decFrom_snoc : ∀ (l : List UInt8) (a : Nat) (c : UInt8), Lib.decFrom a (l ++ [c]) = (Lib.decFrom a l).bind fun b => (Lib.digitVal c).map fun d => b * 10 + d
  | [], a, c => by
    show (match Lib.digitVal c with | some d => Lib.decFrom (a * 10 + d) [] | none => none) = _
    cases Lib.digitVal c <;> rfl
  | x :: t, a, c => by
    show (match Lib.digitVal x with | some d => Lib.decFrom (a * 10 + d) (t ++ [c]) | none => none) = (match Lib.digitVal x with | some d => Lib.decFrom (a * 10 + d) t | none => none).bind _
    cases Lib.digitVal x with
    | none => rfl
    | some d => exact decFrom_snoc t _ c

theorem digsF_dec : ∀ (f n : Nat), n < 10 ^ (f + 1) → Lib.decFrom 0 (digsF 10 f n) = some n
  | 0, n, h => by
    show (match Lib.digitVal (digC n) with | some d => Lib.decFrom (0 * 10 + d) [] | none => none) = _
    rw [digC_dec (by omega)]
    simp [Lib.decFrom]
  | f + 1, n, h => by
    unfold digsF
    split
    · next hn =>
      show (match Lib.digitVal (digC n) with | some d => Lib.decFrom (0 * 10 + d) [] | none => none) = _
      rw [digC_dec hn]
      simp [Lib.decFrom]
    · have ih := digsF_dec f (n / 10) (by rw [Nat.pow_succ] at h; omega)
      rw [decFrom_snoc, ih, digC_dec (Nat.mod_lt _ (by decide))]
      show some (n / 10 * 10 + n % 10) = some n
      rw [Nat.mul_comm, Nat.div_add_mod]

theorem digsF_atoi {f n : Nat} (h : n < 10 ^ (f + 1)) : Lib.atoi (digsF 10 f n) = some (n : Int) := by
  have h1 := digsF_dec f n h
  have h2 := (digsF_len 10 f n).1
  cases hl : digsF 10 f n with
  | nil => rw [hl] at h2; simp at h2
  | cons b r =>
    rw [hl] at h1
    obtain ⟨d, hd⟩ := Lib.digit_of_decFrom _ _ _ h1 0 b rfl
    have hb : 48 ≤ b.toNat := by
      unfold Lib.digitVal at hd
      split at hd
      · next hc => exact hc.1
      · cases hd
    have e1 : (b == 45) = false := by rw [beq_eq_false_iff_ne]; rintro rfl; simp at hb
    have e2 : (b == 43) = false := by rw [beq_eq_false_iff_ne]; rintro rfl; simp at hb
    unfold Lib.atoi
    simp only [e1, e2, Bool.false_eq_true, if_false]
    unfold Lib.decNat
    simp only [List.isEmpty_cons, Bool.false_eq_true, if_false, h1]
    rfl

theorem digsF_mem {base : Nat} (hb : base ≤ 16) (hb2 : 0 < base) : ∀ (f n : Nat), n < base ^ (f + 1) → ∀ c ∈ digsF base f n, ∃ d, d < base ∧ c = digC d
  | 0, n, h, c, hc => ⟨n, by simpa using h, by simpa [digsF] using hc⟩
  | f + 1, n, h, c, hc => by
    unfold digsF at hc
    split at hc
    · next hn => exact ⟨n, hn, by simpa using hc⟩
    · rcases List.mem_append.1 hc with hc | hc
      · refine digsF_mem hb hb2 f (n / base) ?_ c hc
        rw [Nat.pow_succ] at h
        exact Nat.div_lt_of_lt_mul (by rw [Nat.mul_comm]; exact h)
      · exact ⟨n % base, Nat.mod_lt _ hb2, by simpa using hc⟩

set_option maxRecDepth 100000 in
set_option maxHeartbeats 2000000 in
theorem digits_w (base : Nat) (hb : base = 10 ∨ base = 16) : ∀ (f n : Nat) (w : World) (F : HP), f ≤ 10 → n < base ^ (f + 1) → n ≤ 1000000000 → Sat w F →
    Calls Tryz.prog 11 #[.int .i64 n, .int .i64 base] w fun e w' => e = .returned (.string (B.bs (digsF base f n))) ∧ Sat w' F := by
  intro f
  induction f with
  | zero =>
    intro n w F _ hn hn9 hs
    have hlt : n < base := by simpa using hn
    have hd := dig_cut n (by omega)
    have HD := Lib.hid hd
    clear hd hn
    go_enter Tryz.func11, Tryz.ntmps11
    go_wp2
    go_ret
    exact ⟨by rw [HD.out]; rfl, hs⟩
  | succ f ih =>
    intro n w F hf hn hn9 hs
    by_cases hlt : n < base
    · have hd := dig_cut n (by omega)
      have HD := Lib.hid hd
      have he : digsF base (f + 1) n = [digC n] := by unfold digsF; rw [if_pos hlt]
      clear hd hn
      go_enter Tryz.func11, Tryz.ntmps11
      go_wp2
      go_ret
      exact ⟨by rw [he, HD.out]; rfl, hs⟩
    · have he : digsF base (f + 1) n = digsF base f (n / base) ++ [digC (n % base)] := by
        conv => lhs; unfold digsF
        rw [if_neg hlt]
      have hq : n / base < base ^ (f + 1) := by
        rw [Nat.pow_succ] at hn
        exact Nat.div_lt_of_lt_mul (by rw [Nat.mul_comm]; exact hn)
      have hq9 : n / base ≤ 1000000000 := Nat.le_trans (Nat.div_le_self _ _) hn9
      have hr : n % base < base := Nat.mod_lt _ (by omega)
      have hd := dig_cut (n % base) (by omega)
      have hlen := (digsF_len base f (n / base)).2
      have IH := Lib.hid (fun w => ih (n / base) w F (by omega) hq hq9)
      have HD := Lib.hid hd
      have HE := Lib.hid he
      have HS := Lib.hid hs
      clear ih hd he hs hn hq hq9
      go_enter Tryz.func11, Tryz.ntmps11
      have q1 : Int.tdiv (n : Int) (base : Int) = ((n / base : Nat) : Int) := (Int.ofNat_tdiv n base).symm
      have q2 : Int.tmod (n : Int) (base : Int) = ((n % base : Nat) : Int) := (Int.ofNat_tmod n base).symm
      have hb0 : base ≠ 0 := by omega
      have hQ9 : n / base ≤ 1000000000 := Nat.le_trans (Nat.div_le_self _ _) hn9
      have hb16 : base ≤ 16 := by omega
      have hb16' : 10 ≤ base := by omega
      clear hb
      generalize n / base = Q at *
      generalize n % base = R at *
      go_wp2_with fail
      have w1 : IntKind.i64.wrap (Q : Int) = (Q : Int) := by rw [IntKind.wrap_i64]; omega
      have w2 : IntKind.i64.wrap ((R : Int) + 1) = (R : Int) + 1 := by rw [IntKind.wrap_i64]; omega
      have r1 : (0 : Int) ≤ (R : Int) + 1 := by omega
      have r2 : (R : Int) + 1 ≤ 16 := by omega
      have r3 : (R : Int) ≤ (R : Int) + 1 := by omega
      have r4 : (0 : Int) ≤ (R : Int) := by omega
      have hadd : ∀ w, (Op.stringOp .add (B.bs (digsF base f Q)) ((⟨#[48, 49, 50, 51, 52, 53, 54, 55, 56, 57, 97, 98, 99, 100, 101, 102]⟩ : ByteArray).extract R (R + 1))).run Tryz.prog w = .ok (.string (B.bs (digsF base (f + 1) n))) w := fun w => by
        rw [HD.out, HE.out]
        exact addBig _ _ w (by simp; omega)
      go_region_law (first | (go_simp; go_at_call 11; (first | refine (IH.out w.drew HS.out.drew).mono ?_ | refine (IH.out _ (HS.out.drewN _)).mono ?_ | refine (IH.out _ HS.out).mono ?_); rintro e5 w5 ⟨rfl, s8⟩))
      all_goals
        go_wp2
        go_ret
        exact ⟨rfl, s8⟩

end Go.Proofs.YtcmpcjffmccllaaGreatDoor
