/- Inlines: how a text is read, one parser at a time. Pure. -/
import Derived.Test.YtbfmmikllelfeaaGreatDoorI0
import Derived.Test.YtbfmmikllelfeaaGreatDoorTop
import Derived.Lib.Atoi
namespace Go.Proofs.YtbfmmikllelfeaaGreatDoor
open Go.RowKit

/-- The letters at which a parser is asked, with these options. -/
def loud (o : Opt) (c : UInt8) : Bool :=
  c == 92 || c == 96 || c == 60 || c == 91 || c == 33 || c == 95 || c == 42 || (c == 46 && o.dots) || (c == 45 && o.dashes) || ((c == 34 || c == 39) && o.quotes) || (c == 126 && o.del) || c == 10 || c == 38 || (c == 58 && o.emoji)

/-- What two or three hyphens are. -/
def dashTok (n : Nat) : List UInt8 := if n = 2 then [226, 128, 147] else [226, 128, 148]

/-- The character of a number. -/
def fixRune (v : Nat) : Nat := if v = 0 ∨ 1114111 < v then 65533 else v

def hexDig (c : UInt8) : Option Nat := if 48 ≤ c ∧ c ≤ 57 then some (c.toNat - 48) else if 97 ≤ c ∧ c ≤ 102 then some (c.toNat - 87) else none
/-- The number that digits of the base 16 spell. -/
def hexVal : Nat → List UInt8 → Option Nat
  | a, [] => some a
  | a, c :: t => match hexDig c with
    | some d => hexVal (16 * a + d) t
    | none => none

/-- A numeric reference stands at i, to v; it ends at j. -/
inductive NumRef (s : List UInt8) (i v : Nat) : Nat → Prop
  | dec (ds r : List UInt8) (h : s.drop i = 38 :: 35 :: (ds ++ 59 :: r)) (hd : ∀ c ∈ ds, 48 ≤ c ∧ c ≤ 57) (h1 : 1 ≤ ds.length) (h7 : ds.length ≤ 7) (hv : Lib.atoi ds = some (v : Int)) : NumRef s i v (i + ds.length + 3)
  | hex (ds r : List UInt8) (h : s.drop i = 38 :: 35 :: 120 :: (ds ++ 59 :: r)) (h1 : 1 ≤ ds.length) (h6 : ds.length ≤ 6) (hv : hexVal 0 ds = some v) : NumRef s i v (i + ds.length + 4)

/-- At place i stands a token, which ends at j. -/
inductive Reads (o : Opt) (s : List UInt8) (i : Nat) : Tok → Nat → Prop
  | esc (c : UInt8) (h0 : s[i]? = some 92) (h1 : s[i + 1]? = some c) (hp : isP c = true) : Reads o s i (.esc [c]) (i + 2)
  | code (n e : Nat) (u : List UInt8) (h0 : tickRun s i = n) (h1 : 1 ≤ n) (h2 : n ≤ 80) (hc : CodeTo s n e (i + n)) (hu : (s.take e).drop (i + n) = 32 :: (u ++ [32])) (hnl : (10 : UInt8) ∉ u) (hb : ∃ c ∈ u, c ≠ 32 ∧ c ≠ 9) : Reads o s i (.code u) (e + n)
  | dash (n : Nat) (hd : o.dashes = true) (hn : n = 2 ∨ n = 3) (h0 : ∀ j, j < n → s[i + j]? = some 45) (h1 : s[i + n]? ≠ some 45) : Reads o s i (.plain (dashTok n)) (i + n)
  | ent (v j : Nat) (u : List UInt8) (h : NumRef s i v j) (hu : ∀ r : Int, (fixRune v : Int) = r → B.bs u = Utf8.encode r) : Reads o s i (.plain u) j

/-- At place i no token begins. -/
inductive Quiet (o : Opt) (s : List UInt8) (i : Nat) : Prop
  | still (c : UInt8) (h0 : s[i]? = some c) (h : loud o c = false) : Quiet o s i
  | dash (hd : o.dashes = true) (h0 : s[i]? = some 45) (h1 : s[i + 1]? ≠ some 45) : Quiet o s i

/-- From place i on, where what stands behind e is not yet put out, the text is read as these tokens. -/
inductive Scan (o : Opt) (s : List UInt8) : Nat → Nat → List Tok → Prop
  | stop (e : Nat) (he : e ≤ s.length) : Scan o s s.length e (flush (s.drop e))
  | quiet {i e : Nat} {ts : List Tok} (hi : i < s.length) (he : e ≤ i) (hq : Quiet o s i) (h : Scan o s (i + 1) e ts) : Scan o s i e ts
  | tok {i e j : Nat} {t : Tok} {ts : List Tok} (hi : i < s.length) (he : e ≤ i) (hj : i < j) (hjl : j ≤ s.length) (ht : Reads o s i t j) (h : Scan o s j j ts) : Scan o s i e (flush ((s.take i).drop e) ++ t :: ts)

theorem Scan.le {o : Opt} {s : List UInt8} {i e : Nat} {ts : List Tok} (h : Scan o s i e ts) : i ≤ s.length ∧ e ≤ i := by
  cases h with
  | stop e he => exact ⟨Nat.le_refl _, he⟩
  | quiet hi he _ _ => exact ⟨by omega, he⟩
  | tok hi he _ _ _ _ => exact ⟨by omega, he⟩

theorem loud_still {o : Opt} {c : UInt8} (h1 : isP c = false) (h2 : 32 ≤ c) : loud o c = false := by
  have a1 : 32 ≤ c.toNat := h2
  have key : ∀ d : UInt8, (isP d = true ∨ d.toNat < 32) → (c == d) = false := by
    intro d hd
    rw [beq_eq_false_iff_ne]
    rintro rfl
    rcases hd with hd | hd
    · rw [hd] at h1; cases h1
    · omega
  unfold loud
  rw [key 92 (.inl (by decide)), key 96 (.inl (by decide)), key 60 (.inl (by decide)), key 91 (.inl (by decide)), key 33 (.inl (by decide)), key 95 (.inl (by decide)), key 42 (.inl (by decide)), key 46 (.inl (by decide)), key 45 (.inl (by decide)),
    key 34 (.inl (by decide)), key 39 (.inl (by decide)), key 126 (.inl (by decide)), key 10 (.inr (by decide)), key 38 (.inl (by decide)), key 58 (.inl (by decide))]
  rfl

theorem scan_slashed (o : Opt) : ∀ (b pre : List UInt8) (e : Nat), e ≤ pre.length → (∀ c ∈ b, 32 ≤ c) → Scan o (pre ++ slashed b) pre.length e (slTok (pre.drop e) b)
  | [], pre, e, he, _ => by
    have := Scan.stop (o := o) (s := pre ++ slashed []) e (by rw [List.length_append]; omega)
    rw [show slashed [] = [] from rfl, List.append_nil] at this ⊢
    exact this
  | c :: t, pre, e, he, h => by
    have hc := h c (by simp)
    by_cases hp : isP c = true
    · have ih := scan_slashed o t (pre ++ [92, c]) (pre ++ [92, c]).length (Nat.le_refl _) (fun x hx => h x (by simp [hx]))
      have e1 : pre ++ slashed (c :: t) = pre ++ [92, c] ++ slashed t := by
        rw [slashed_cons, if_pos hp, List.append_assoc]
      rw [e1]
      rw [List.drop_length] at ih
      have hl : (pre ++ [92, c]).length = pre.length + 2 := by simp
      rw [hl] at ih
      have := Scan.tok (o := o) (s := pre ++ [92, c] ++ slashed t) (i := pre.length) (e := e) (j := pre.length + 2) (t := .esc [c]) (by simp) he (by omega) (by simp) (.esc c (by simp) (by simp) hp) ih
      rw [List.append_assoc, List.take_left] at this
      unfold slTok
      rw [if_pos hp, List.append_assoc]
      exact this
    · have hp' : isP c = false := by simpa using hp
      have ih := scan_slashed o t (pre ++ [c]) e (by simp; omega) (fun x hx => h x (by simp [hx]))
      have e1 : pre ++ slashed (c :: t) = pre ++ [c] ++ slashed t := by
        rw [slashed_cons, if_neg hp, List.append_assoc]
      rw [e1]
      have hl : (pre ++ [c]).length = pre.length + 1 := by simp
      rw [hl] at ih
      refine Scan.quiet (by simp) he (.still c (by simp) (loud_still hp' hc)) ?_
      unfold slTok
      rw [if_neg hp]
      rw [List.drop_append_of_le_length he] at ih
      exact ih

end Go.Proofs.YtbfmmikllelfeaaGreatDoor
