/- The text of FnHeading: its line, and what newATXHeading makes of it. Pure. -/
import Derived.Test.YtmdabdpghcjplaaGreatDoorI0
import Derived.Test.YtmdabdpghcjplaaGreatDoorN3
namespace Go.Proofs.YtmdabdpghcjplaaGreatDoor
open Go.RowKit

def strip35 (l : List UInt8) : List UInt8 := (l.reverse.dropWhile (· == 35)).reverse

/-- The text of a heading, of what stands behind its marks. -/
def atxText (s : List UInt8) : List UInt8 :=
  if strip35 (B.trimR s) ≠ B.trimR (strip35 (B.trimR s)) ∨ strip35 (B.trimR s) = [] then strip35 (B.trimR s) else B.trimR s

def tailM (m : Nat) : List UInt8 := if m = 0 then [] else 32 :: List.replicate m 35

def headTxt (n m : Nat) (s : List UInt8) : List UInt8 := List.replicate n 35 ++ 32 :: (slashed s ++ tailM m)

theorem dropWhile_rep (p : UInt8 → Bool) (c : UInt8) (hp : p c = true) : ∀ (n : Nat) (r : List UInt8), (List.replicate n c ++ r).dropWhile p = r.dropWhile p
  | 0, _ => rfl
  | n + 1, r => by
    rw [List.replicate_succ, List.cons_append, List.dropWhile_cons_of_pos hp]
    exact dropWhile_rep p c hp n r

theorem trimR_keep {l : List UInt8} {c : UInt8} (h : B.isST c = false) : B.trimR (l ++ [c]) = l ++ [c] := by
  unfold B.trimR
  rw [List.reverse_append, List.reverse_singleton, List.singleton_append, List.dropWhile_cons_of_neg (by simp [h])]
  simp

theorem trimR_space (l : List UInt8) : B.trimR (l ++ [32]) = B.trimR l := by
  unfold B.trimR
  rw [List.reverse_append, List.reverse_singleton, List.singleton_append, List.dropWhile_cons_of_pos (by decide)]

theorem trimR_last {l : List UInt8} {c : UInt8} (hl : l.getLast? = some c) (h : B.isST c = false) : B.trimR l = l := by
  have hne : l ≠ [] := by rintro rfl; cases hl
  obtain ⟨a, b, rfl⟩ : ∃ a b, l = a ++ [b] := ⟨l.dropLast, l.getLast hne, (List.dropLast_concat_getLast hne).symm⟩
  have : b = c := by simpa using hl
  subst this
  exact trimR_keep h

theorem strip35_keep {l : List UInt8} {c : UInt8} (h : c ≠ 35) : strip35 (l ++ [c]) = l ++ [c] := by
  unfold strip35
  rw [List.reverse_append, List.reverse_singleton, List.singleton_append, List.dropWhile_cons_of_neg (by simp [h])]
  simp

theorem strip35_rep (l : List UInt8) (m : Nat) : strip35 (l ++ List.replicate m 35) = strip35 l := by
  unfold strip35
  rw [List.reverse_append, List.reverse_replicate, dropWhile_rep _ _ (by decide)]

/-- What a text must be: neither empty, nor a space at its ends; printable. -/
structure Full (s : List UInt8) : Prop where
  ne : s ≠ []
  head : s.head? ≠ some 32
  last : s.getLast? ≠ some 32
  all : ∀ c ∈ s, 32 ≤ c ∧ c ≤ 126

theorem Full.lastC {s : List UInt8} (h : Full s) : ∃ a c, s = a ++ [c] ∧ B.isST c = false ∧ c ≠ 0 := by
  refine ⟨s.dropLast, s.getLast h.ne, (List.dropLast_concat_getLast h.ne).symm, ?_⟩
  have h1 := h.all _ (List.getLast_mem h.ne)
  have h2 := h.last
  rw [List.getLast?_eq_some_getLast h.ne] at h2
  generalize s.getLast h.ne = c at *
  have a1 : 32 ≤ c.toNat := h1.1
  refine ⟨?_, ?_⟩
  · unfold B.isST
    simp only [Bool.or_eq_false_iff, beq_eq_false_iff_ne, ne_eq]
    refine ⟨fun e => h2 (by rw [e]), ?_⟩
    rintro rfl
    simp at a1
  · rintro rfl
    simp at a1

theorem isST_92 : B.isST 92 = false := by decide

theorem Full.slashR {s : List UInt8} (h : Full s) : B.trimR (slashed s) = slashed s := by
  obtain ⟨a, c, rfl, hc, _⟩ := h.lastC
  exact trimR_last (slashed_last (by simp)) hc

theorem Full.atx {s : List UInt8} (h : Full s) (m : Nat) : atxText (slashed s ++ tailM m) = if m = 0 then slashed s else slashed s ++ [32] := by
  by_cases hm : m = 0
  · subst hm
    rw [if_pos rfl]
    unfold tailM
    rw [if_pos rfl, List.append_nil]
    unfold atxText
    rw [h.slashR]
    obtain ⟨a, c, hac, hc, _⟩ := h.lastC
    have key : ∃ b d, strip35 (slashed s) = b ++ [d] ∧ B.isST d = false := by
      rw [hac, slashed_append, slashed_one]
      by_cases h35 : c = 35
      · subst h35
        refine ⟨slashed a, 92, ?_, by decide⟩
        rw [show (if isP 35 then [92, 35] else [35] : List UInt8) = [92] ++ List.replicate 1 35 from rfl, ← List.append_assoc, strip35_rep, strip35_keep (by decide)]
      · split
        · refine ⟨slashed a ++ [92], c, ?_, hc⟩
          rw [show ([92, c] : List UInt8) = [92] ++ [c] from rfl, ← List.append_assoc, strip35_keep h35, List.append_assoc]
        · refine ⟨slashed a, c, ?_, hc⟩
          rw [strip35_keep h35]
    obtain ⟨b, d, e, hd⟩ := key
    rw [e, trimR_keep hd, if_neg (by simp)]
  · rw [if_neg hm]
    unfold tailM
    rw [if_neg hm]
    obtain ⟨k, rfl⟩ : ∃ k, m = k + 1 := ⟨m - 1, by omega⟩
    have e1 : slashed s ++ 32 :: List.replicate (k + 1) 35 = (slashed s ++ 32 :: List.replicate k 35) ++ [35] := by
      rw [List.replicate_succ']; simp
    have e2 : B.trimR (slashed s ++ 32 :: List.replicate (k + 1) 35) = slashed s ++ 32 :: List.replicate (k + 1) 35 := by
      rw [e1, trimR_keep (by decide)]
    have e3 : strip35 (slashed s ++ 32 :: List.replicate (k + 1) 35) = slashed s ++ [32] := by
      rw [show slashed s ++ 32 :: List.replicate (k + 1) 35 = (slashed s ++ [32]) ++ List.replicate (k + 1) 35 from by simp, strip35_rep, strip35_keep (by decide)]
    unfold atxText
    rw [e2, e3, trimR_space, h.slashR, if_pos (.inl (by intro e; simpa using congrArg List.length e))]

theorem Full.slashL {s : List UInt8} (h : Full s) (r : List UInt8) : B.trimL (slashed s ++ r) = slashed s ++ r := by
  cases s with
  | nil => exact absurd rfl h.ne
  | cons a t =>
    have h1 := h.all a (by simp)
    have h2 := h.head
    have a1 : 32 ≤ a.toNat := h1.1
    have hst : B.isST a = false := by
      unfold B.isST
      simp only [Bool.or_eq_false_iff, beq_eq_false_iff_ne, ne_eq]
      refine ⟨fun e => h2 (by rw [e]; rfl), ?_⟩
      rintro rfl
      simp at a1
    unfold slashed
    unfold B.trimL
    split
    · rw [List.cons_append, List.cons_append, List.dropWhile_cons_of_neg (by decide)]
    · rw [List.cons_append, List.cons_append, List.dropWhile_cons_of_neg (by simp [hst])]

/-- The text of the heading, without spaces at its ends. -/
theorem Full.trim {s : List UInt8} (h : Full s) (m : Nat) : B.trimR (B.trimL (atxText (slashed s ++ tailM m))) = slashed s := by
  rw [h.atx m]
  split
  · have := h.slashL []
    rw [List.append_nil] at this
    rw [this, h.slashR]
  · rw [h.slashL, trimR_space, h.slashR]

theorem Ln.hashes_run : ∀ (j k n : Nat) (t : Ln) (r : List UInt8), t.spaces = 0 → t.rest = List.replicate j 35 ++ r → r.head? ≠ some 35 → j ≤ k → Ln.hashes k n t = (n + j, { t with i := t.i + j })
  | 0, 0, n, t, r, _, _, _, _ => rfl
  | 0, k + 1, n, t, r, hs, hr, hh, _ => by
    have : t.trim 35 = none := Ln.trim_none hs (by rw [Ln.ch_rest, hr]; simpa using hh)
    simp only [Ln.hashes, this]
    rfl
  | j + 1, 0, n, t, r, _, _, _, hjk => by omega
  | j + 1, k + 1, n, t, r, hs, hr, hh, hjk => by
    have hc : t.ch = some 35 := by rw [Ln.ch_rest, hr]; rfl
    have h1 : t.trim 35 = some { t with i := t.i + 1 } := by
      unfold Ln.trim
      rw [if_neg (by omega), if_pos hc]
    have hr2 : ({ t with i := t.i + 1 } : Ln).rest = List.replicate j 35 ++ r := Ln.rest_next (x := t) (c := 35) (by rw [hr]; rfl) t.spaces t.tab
    have ih := hashes_run j k (n + 1) { t with i := t.i + 1 } r hs hr2 hh (by omega)
    simp only [Ln.hashes, h1, ih]
    congr 1
    · omega
    · congr 1; show t.i + 1 + j = t.i + (j + 1); omega

theorem Ln.indent_at {x : Ln} {c : UInt8} {r : List UInt8} (hs : x.spaces = 0) (hr : x.rest = c :: r) (h1 : c ≠ 32) (h2 : c ≠ 9) : x.indent = x := by
  have := Ln.indent_spaces (x := x) (k := 0) (r := c :: r) hs hr (by simpa using h1) (by simpa using h2) (by decide)
  simpa using this

/-- The line is a heading. -/
theorem head_line {n : Nat} (hn : 1 ≤ n) (hn6 : n ≤ 6) (r : List UInt8) (nl : UInt8) (hz : r.length ≤ 1000000000) :
    ∃ v, (LineOf (List.replicate n 35 ++ 32 :: r, nl)).heading = some (n, v) ∧ v.str = r ∧ (LineOf (List.replicate n 35 ++ 32 :: r, nl)).quote = none ∧ (LineOf (List.replicate n 35 ++ 32 :: r, nl)).blank = false ∧ (LineOf (List.replicate n 35 ++ 32 :: r, nl)).OK := by
  obtain ⟨k, rfl⟩ : ∃ k, n = k + 1 := ⟨n - 1, by omega⟩
  generalize hL : LineOf (List.replicate (k + 1) 35 ++ 32 :: r, nl) = L
  have hok : L.OK := by rw [← hL]; exact lineOf_ok _ _ (by simp; omega)
  have hs : L.spaces = 0 := by rw [← hL]; rfl
  have hr : L.rest = 35 :: (List.replicate k 35 ++ 32 :: r) := by rw [← hL, lineOf_rest]; rfl
  have hin : L.indent = L := Ln.indent_at hs hr (by decide) (by decide)
  have hc : L.ch = some 35 := by rw [Ln.ch_rest, hr]; rfl
  have h1 : L.trim 35 = some { L with i := L.i + 1 } := by
    unfold Ln.trim
    rw [if_neg (by omega), if_pos hc]
  have hr2 : ({ L with i := L.i + 1 } : Ln).rest = List.replicate k 35 ++ 32 :: r := Ln.rest_next hr L.spaces L.tab
  have h2 := Ln.hashes_run k 5 1 { L with i := L.i + 1 } (32 :: r) hs hr2 (by simp) (by omega)
  have hr3 : ({ L with i := L.i + 1 + k } : Ln).rest = 32 :: r := Ln.rest_at hr2 L.spaces L.tab k (by simp)
  have h3 : ({ L with i := L.i + 1 + k } : Ln).trimSpace 1 1 true = some { L with i := L.i + 1 + k + 1 } := by
    unfold Ln.trimSpace Ln.trimGo
    rw [Ln.step_space (x := { L with i := L.i + 1 + k }) true hs hr3]
    rfl
  refine ⟨{ L with i := L.i + 1 + k + 1 }, ?_, ?_, ?_, ?_, hok⟩
  · unfold Ln.heading
    rw [hin, h1]
    simp only [h2, h3, Option.map_some]
    rw [Nat.add_comm 1 k]
  · unfold Ln.str
    have e1 : ({ L with i := L.i + 1 + k + 1 } : Ln).rest = r := Ln.rest_next hr3 L.spaces L.tab
    rw [e1, show ({ L with i := L.i + 1 + k + 1 } : Ln).spaces = 0 from hs]
    rfl
  · unfold Ln.quote
    rw [hin, Ln.trim_none hs (by rw [hc]; decide)]
    rfl
  · unfold Ln.blank
    rw [hr]; rfl

end Go.Proofs.YtmdabdpghcjplaaGreatDoor
