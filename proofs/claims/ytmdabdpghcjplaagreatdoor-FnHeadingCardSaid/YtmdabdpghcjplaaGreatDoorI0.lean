/- Inlines: tokens of a text, and their HTML; slashed texts. Pure. -/
import Derived.Test.YtmdabdpghcjplaaGreatDoorEs
import Derived.Test.YtmdabdpghcjplaaGreatDoorKi
namespace Go.Proofs.YtmdabdpghcjplaaGreatDoor
open Go.RowKit

/-- What a text is read as, where no brackets and no emphasis are. -/
inductive Tok
  | plain (s : List UInt8)
  | esc (s : List UInt8)
  | code (s : List UInt8)

def codeOpen : List UInt8 := [60, 99, 111, 100, 101, 62]
def codeEnd : List UInt8 := [60, 47, 99, 111, 100, 101, 62]

def Tok.txt : Tok → List UInt8
  | .plain s => s
  | .esc s => s
  | .code s => s

def Tok.html : Tok → List UInt8
  | .plain s => htmlPairs.esc s
  | .esc s => htmlPairs.esc s
  | .code s => codeOpen ++ htmlPairs.esc s ++ codeEnd

def htmls (ts : List Tok) : List UInt8 := ts.flatMap Tok.html
def flush (s : List UInt8) : List Tok := if s = [] then [] else [.plain s]

theorem htmls_append (a b : List Tok) : htmls (a ++ b) = htmls a ++ htmls b := by unfold htmls; rw [List.flatMap_append]
theorem htmls_cons (a : Tok) (b : List Tok) : htmls (a :: b) = a.html ++ htmls b := rfl
theorem htmls_flush (s : List UInt8) : htmls (flush s) = htmlPairs.esc s := by
  unfold flush
  split
  · next h => subst h; rfl
  · show htmlPairs.esc s ++ [] = _
    rw [List.append_nil]

theorem esc_append (a b : List UInt8) : htmlPairs.esc (a ++ b) = htmlPairs.esc a ++ htmlPairs.esc b := by unfold Pairs.esc; rw [List.flatMap_append]

/-- ASCII punctuation. -/
def isP (c : UInt8) : Bool := decide ((33 ≤ c.toNat ∧ c.toNat ≤ 47) ∨ (58 ≤ c.toNat ∧ c.toNat ≤ 64) ∨ (91 ≤ c.toNat ∧ c.toNat ≤ 96) ∨ (123 ≤ c.toNat ∧ c.toNat ≤ 126))

/-- A backslash ahead of each punctuation character. -/
def slashed : List UInt8 → List UInt8
  | [] => []
  | c :: t => (if isP c then [92, c] else [c]) ++ slashed t

theorem slashed_cons (c : UInt8) (t : List UInt8) : slashed (c :: t) = (if isP c then [92, c] else [c]) ++ slashed t := rfl
theorem slashed_one (c : UInt8) : slashed [c] = if isP c then [92, c] else [c] := by rw [slashed_cons]; exact List.append_nil _

theorem slashed_append : ∀ (a b : List UInt8), slashed (a ++ b) = slashed a ++ slashed b
  | [], _ => rfl
  | c :: t, b => by
    show _ ++ slashed (t ++ b) = _ ++ slashed t ++ slashed b
    rw [slashed_append t b, List.append_assoc]

theorem slashed_len : ∀ s, s.length ≤ (slashed s).length ∧ (slashed s).length ≤ 2 * s.length
  | [] => ⟨Nat.le_refl _, Nat.le_refl _⟩
  | c :: t => by
    have ih := slashed_len t
    unfold slashed
    rw [List.length_append]
    split <;> simp only [List.length_cons, List.length_nil] <;> omega

theorem slashed_ne {s : List UInt8} (h : s ≠ []) : slashed s ≠ [] := by
  intro e
  have := (slashed_len s).1
  rw [e] at this
  exact h (List.eq_nil_of_length_eq_zero (by simpa using this))

theorem slashed_mem {s : List UInt8} {c : UInt8} (h : c ∈ slashed s) : c = 92 ∨ c ∈ s := by
  induction s with
  | nil => cases h
  | cons a t ih =>
    unfold slashed at h
    rcases List.mem_append.1 h with h | h
    · split at h
      · simp at h; rcases h with h | h
        · exact .inl h
        · exact .inr (by simp [h])
      · simp at h; exact .inr (by simp [h])
    · rcases ih h with h | h
      · exact .inl h
      · exact .inr (by simp [h])

theorem slashed_last {s : List UInt8} {c : UInt8} (h : s.getLast? = some c) : (slashed s).getLast? = some c := by
  have hne : s ≠ [] := by rintro rfl; cases h
  obtain ⟨a, b, rfl⟩ : ∃ a b, s = a ++ [b] := ⟨s.dropLast, s.getLast hne, (List.dropLast_concat_getLast hne).symm⟩
  have : b = c := by simpa using h
  subst this
  rw [slashed_append, show slashed [b] = (if isP b then [92, b] else [b]) ++ [] from rfl, List.append_nil]
  split <;> simp

theorem slashed_head {s : List UInt8} {c : UInt8} (h : s.head? = some c) : (slashed s).head? = some (if isP c then 92 else c) := by
  cases s with
  | nil => cases h
  | cons a t =>
    simp at h
    subst h
    unfold slashed
    split <;> simp

/-- The tokens of a slashed text, behind a text p that is not yet put out. -/
def slTok : List UInt8 → List UInt8 → List Tok
  | p, [] => flush p
  | p, c :: t => if isP c then flush p ++ .esc [c] :: slTok [] t else slTok (p ++ [c]) t

theorem slTok_html : ∀ (s p : List UInt8), htmls (slTok p s) = htmlPairs.esc (p ++ s)
  | [], p => by rw [slTok, htmls_flush, List.append_nil]
  | c :: t, p => by
    unfold slTok
    split
    · rw [htmls_append, htmls_flush, htmls_cons, slTok_html t [], List.nil_append, esc_append]
      congr 1
      show htmlPairs.esc [c] ++ htmlPairs.esc t = htmlPairs.esc ([c] ++ t)
      rw [esc_append]
    · rw [slTok_html t, List.append_assoc]; rfl

/-- Texts next to each other, put together. -/
def mergeT : List Tok → List Tok
  | [] => []
  | .plain a :: r => match mergeT r with
    | .plain b :: r' => .plain (a ++ b) :: r'
    | r' => .plain a :: r'
  | .esc a :: r => .esc a :: mergeT r
  | .code a :: r => .code a :: mergeT r

theorem mergeT_html : ∀ ts, htmls (mergeT ts) = htmls ts
  | [] => rfl
  | .plain a :: r => by
    have ih := mergeT_html r
    unfold mergeT
    split
    · next b r' h =>
      rw [h, htmls_cons] at ih
      rw [htmls_cons, htmls_cons, ← ih]
      show htmlPairs.esc (a ++ b) ++ _ = htmlPairs.esc a ++ (htmlPairs.esc b ++ _)
      rw [esc_append, List.append_assoc]
    · rw [htmls_cons, htmls_cons, ih]
  | .esc a :: r => by
    unfold mergeT
    rw [htmls_cons, htmls_cons, mergeT_html r]
  | .code a :: r => by
    unfold mergeT
    rw [htmls_cons, htmls_cons, mergeT_html r]

end Go.Proofs.YtmdabdpghcjplaaGreatDoor
