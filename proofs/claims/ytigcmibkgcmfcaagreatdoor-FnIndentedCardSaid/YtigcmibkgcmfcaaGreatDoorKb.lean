/- The text of a thematic break, in plain Lean: marks with spaces between. -/
import Derived.Test.YtigcmibkgcmfcaaGreatDoorN6
import Derived.Test.YtigcmibkgcmfcaaGreatDoorBp
namespace Go.Proofs.YtigcmibkgcmfcaaGreatDoor
open Go.RowKit

theorem Ln.ch_rest (x : Ln) : x.ch = x.rest.head? := by
  unfold Ln.ch Ln.rest
  rw [List.head?_drop]

theorem Ln.rest_next {x : Ln} {c : UInt8} {r : List UInt8} (h : x.rest = c :: r) (s t : Nat) : ({ x with spaces := s, i := x.i + 1, tab := t } : Ln).rest = r := by
  unfold Ln.rest at h ⊢
  rw [← List.drop_drop, h]; rfl

theorem Ln.rest_at {x : Ln} {l r : List UInt8} (h : x.rest = l ++ r) (s t k : Nat) (hk : k = l.length) : ({ x with spaces := s, i := x.i + k, tab := t } : Ln).rest = r := by
  subst hk
  unfold Ln.rest at h ⊢
  rw [← List.drop_drop, h]; simp

theorem Ln.rest_nil {x : Ln} (h : x.rest = []) : x.text.size ≤ x.i := by
  unfold Ln.rest at h
  rw [B.size_data]
  exact List.drop_eq_nil_iff.1 h

theorem Ln.trimGo_spaces (min : Nat) : ∀ (k m n : Nat) (x : Ln) (r : List UInt8), x.spaces = 0 → x.rest = List.replicate k 32 ++ r → r.head? ≠ some 32 → r.head? ≠ some 9 → k ≤ m → min ≤ n + k → x.trimGo min false m n = some { x with i := x.i + k }
  | 0, 0, n, x, r, _, _, _, _, _, _ => rfl
  | 0, m + 1, n, x, r, hs, hr, h1, h2, _, hn => by
    have hc : x.ch = r.head? := by rw [ch_rest, hr]; rfl
    have hst : x.step false = none := by
      unfold step
      rw [if_neg (by omega), hc]
      cases he : r.head? with
      | none => rfl
      | some c =>
        have c1 : c ≠ 32 := fun e => h1 (by rw [he, e])
        have c2 : c ≠ 9 := fun e => h2 (by rw [he, e])
        simp [c1, c2]
    simp only [trimGo, hst]
    rw [if_pos (by omega)]; rfl
  | k + 1, 0, n, x, r, _, _, _, _, hm, _ => by omega
  | k + 1, m + 1, n, x, r, hs, hr, h1, h2, hm, hn => by
    have hr' : x.rest = 32 :: (List.replicate k 32 ++ r) := by rw [hr, List.replicate_succ]; rfl
    have hc : x.ch = some 32 := by rw [ch_rest, hr']; rfl
    have hst : x.step false = some { x with i := x.i + 1 } := by
      unfold step
      rw [if_neg (by omega), hc]
      rfl
    simp only [trimGo, hst]
    rw [trimGo_spaces min k m (n + 1) { x with i := x.i + 1 } r hs (rest_next hr' x.spaces x.tab) h1 h2 (by omega) (by omega)]
    simp only [Option.some.injEq, Ln.mk.injEq, true_and, and_true]
    omega

theorem Ln.indent_spaces {x : Ln} {k : Nat} {r : List UInt8} (hs : x.spaces = 0) (hr : x.rest = List.replicate k 32 ++ r) (h1 : r.head? ≠ some 32) (h2 : r.head? ≠ some 9) (hk : k ≤ 3) : x.indent = { x with i := x.i + k } := by
  unfold indent trimSpace
  rw [trimGo_spaces 0 k 3 0 x r hs hr h1 h2 hk (Nat.zero_le _)]; rfl

/-- Marks, each with spaces behind it. -/
def marks (c : UInt8) (ks : List Nat) : List UInt8 := ks.flatMap fun k => c :: List.replicate k 32

theorem marks_cons (c : UInt8) (k : Nat) (ks : List Nat) : marks c (k :: ks) = c :: (List.replicate k 32 ++ marks c ks) := rfl
theorem marks_head (c : UInt8) (ks : List Nat) (d : UInt8) (h : c ≠ d) : (marks c ks).head? ≠ some d := by
  cases ks with
  | nil => simp [marks]
  | cons k ks => rw [marks_cons]; simpa using h

theorem Ln.skip_spaces {x : Ln} {k : Nat} {r : List UInt8} (hr : x.rest = List.replicate k 32 ++ r) (h : ∀ c, r.head? = some c → B.isST c = false) : x.skip = { x with spaces := 0, i := x.i + k } := by
  have e : (x.rest.takeWhile B.isST).length = k := by
    rw [hr, List.takeWhile_append_of_pos (by intro c hc; rw [List.eq_of_mem_replicate hc]; rfl)]
    cases r with
    | nil => simp
    | cons c r => simp [h c rfl]
  unfold skip
  rw [e]

theorem Ln.hrGo_marks (c : UInt8) (h32 : c ≠ 32) (h9 : c ≠ 9) : ∀ (ks : List Nat) (m n : Nat) (t : Ln), t.spaces = 0 → t.rest = marks c ks → ks.length < m → ∃ u, hrGo c m n t = (n + ks.length, u) ∧ u.text.size ≤ u.i
  | [], 0, n, t, _, _, hm => by simp at hm
  | [], m + 1, n, t, hs, hr, _ => by
    have hc : t.ch = none := by rw [ch_rest, hr]; rfl
    have ht : t.trim c = none := by
      unfold trim
      rw [if_neg (by omega), hc]; rfl
    simp only [hrGo, ht]
    exact ⟨t, rfl, rest_nil hr⟩
  | k :: ks, 0, n, t, _, _, hm => by simp at hm
  | k :: ks, m + 1, n, t, hs, hr, hm => by
    rw [marks_cons] at hr
    have hc : t.ch = some c := by rw [ch_rest, hr]; rfl
    have ht : t.trim c = some { t with i := t.i + 1 } := by
      unfold trim
      rw [if_neg (by omega), hc, if_pos rfl]
    have hr2 : ({ t with i := t.i + 1 } : Ln).rest = List.replicate k 32 ++ marks c ks := rest_next hr t.spaces t.tab
    have hk := skip_spaces hr2 fun d hd => by
      cases ks with
      | nil => simp [marks] at hd
      | cons k ks =>
        rw [marks_cons] at hd
        simp only [List.head?_cons, Option.some.injEq] at hd
        subst hd
        simp [B.isST, h32, h9]
    simp only [hrGo, ht, hk]
    obtain ⟨u, h1, h2⟩ := hrGo_marks c h32 h9 ks m (n + 1) { t with spaces := 0, i := t.i + 1 + k } rfl (rest_at hr2 0 t.tab k (by simp)) (by simp at hm; omega)
    refine ⟨u, ?_, h2⟩
    rw [h1]
    simp; omega

/-- The text of a break. -/
def brk (k : Nat) (c : UInt8) (ks : List Nat) : List UInt8 := List.replicate k 32 ++ marks c ks

structure Brk (k : Nat) (c : UInt8) (ks : List Nat) : Prop where
  hk : k ≤ 3
  hc : c = 42 ∨ c = 45 ∨ c = 95
  n : 3 ≤ ks.length
  size : (brk k c ks).length ≤ 1000000000

theorem Brk.line {k : Nat} {c : UInt8} {ks : List Nat} (h : Brk k c ks) (l : Ln) (hl : l = LineOf (brk k c ks, 0)) : l.OK ∧ l.quote = none ∧ l.heading = none ∧ l.hr = true ∧ l.blank = false := by
  subst hl
  have hr : (LineOf (brk k c ks, 0)).rest = List.replicate k 32 ++ marks c ks := by
    show (B.bs (brk k c ks)).data.toList.drop 0 = _
    rw [B.bs_data]; rfl
  have h32 : c ≠ 32 := by rcases h.hc with rfl | rfl | rfl <;> decide
  have h9 : c ≠ 9 := by rcases h.hc with rfl | rfl | rfl <;> decide
  have h35 : c ≠ 35 := by rcases h.hc with rfl | rfl | rfl <;> decide
  have h62 : c ≠ 62 := by rcases h.hc with rfl | rfl | rfl <;> decide
  have hin : (LineOf (brk k c ks, 0)).indent = _ := Ln.indent_spaces rfl hr (marks_head c ks 32 h32) (marks_head c ks 9 h9) h.hk
  have hri : (LineOf (brk k c ks, 0)).indent.rest = marks c ks := by rw [hin]; exact Ln.rest_at hr 0 0 k (by simp)
  obtain ⟨k0, ks', rfl⟩ : ∃ k0 ks', ks = k0 :: ks' := by
    cases ks with
    | nil => have := h.n; simp at this
    | cons a b => exact ⟨a, b, rfl⟩
  have hsp : (LineOf (brk k c (k0 :: ks'), 0)).indent.spaces = 0 := by rw [hin]; rfl
  have hch : (LineOf (brk k c (k0 :: ks'), 0)).indent.ch = some c := by rw [Ln.ch_rest, hri]; rfl
  have htr : ∀ d, c ≠ d → (LineOf (brk k c (k0 :: ks'), 0)).indent.trim d = none := by
    intro d hd
    unfold Ln.trim
    rw [if_neg (by omega), hch, if_neg (by simpa using hd)]
  refine ⟨⟨Nat.le_refl _, Nat.zero_le _, Nat.zero_le _, ?_⟩, ?_, ?_, ?_, ?_⟩
  · show (B.bs _).size ≤ _
    have := h.size; show (brk k c (k0 :: ks')).length ≤ _; omega
  · unfold Ln.quote
    rw [htr 62 h62]; rfl
  · unfold Ln.heading
    rw [htr 35 h35]
  · have hpk : (LineOf (brk k c (k0 :: ks'), 0)).indent.peek = c := by
      unfold Ln.peek
      rw [if_neg (by omega), hch]; rfl
    have hlen : (k0 :: ks').length < (LineOf (brk k c (k0 :: ks'), 0)).indent.text.size + 1 := by
      rw [hin]
      show _ < (B.bs _).size + 1
      rw [B.bs_size]
      have : ∀ ks : List Nat, ks.length ≤ (marks c ks).length := by
        intro ks
        induction ks with
        | nil => exact Nat.zero_le _
        | cons a b ih => rw [marks_cons]; simp; omega
      have := this (k0 :: ks')
      unfold brk
      rw [List.length_append]
      omega
    obtain ⟨u, h1, h2⟩ := Ln.hrGo_marks c h32 h9 (k0 :: ks') _ 0 _ hsp hri hlen
    unfold Ln.hr
    rw [hpk, h1]
    have hn := h.n
    rcases h.hc with rfl | rfl | rfl <;> simp [Ln.isMark, h2] <;> simpa using hn
  · show (B.trimL _).isEmpty = false
    rw [hr]
    unfold B.trimL
    have : ∀ k, (List.replicate k 32 ++ marks c (k0 :: ks')).dropWhile B.isST = marks c (k0 :: ks') := by
      intro k
      induction k with
      | zero => rw [marks_cons]; simp [B.isST, h32, h9]
      | succ k ih => rw [List.replicate_succ]; simpa [B.isST] using ih
    rw [this, marks_cons]
    rfl

theorem Brk.lines {k : Nat} {c : UInt8} {ks : List Nat} (h : Brk k c ks) : B.lines (brk k c ks) = [(brk k c ks, 0)] ∧ B.findSub [0] (brk k c ks) = none := by
  have hm : ∀ d ∈ brk k c ks, d = 32 ∨ d = c := by
    intro d hd
    unfold brk marks at hd
    rcases List.mem_append.1 hd with hd | hd
    · exact .inl (List.eq_of_mem_replicate hd)
    · obtain ⟨j, _, hd⟩ := List.mem_flatMap.1 hd
      rcases List.mem_cons.1 hd with hd | hd
      · exact .inr hd
      · exact .inl (List.eq_of_mem_replicate hd)
  have hno : ∀ d : UInt8, d ≠ 32 → d ≠ 42 → d ≠ 45 → d ≠ 95 → d ∉ brk k c ks := by
    intro d h1 h2 h3 h4 hd
    rcases hm d hd with rfl | rfl
    · exact h1 rfl
    · rcases h.hc with e | e | e <;> contradiction
  have hidx : ∀ d : UInt8, d ∉ brk k c ks → B.idx (brk k c ks) [d] = -1 := by
    intro d hd
    unfold B.idx
    rw [B.findSub_byte, List.findIdx?_eq_none_iff.2 (by intro x hx; simp; rintro rfl; exact hd hx)]
  have hne : brk k c ks ≠ [] := by
    have := h.n
    intro e
    unfold brk at e
    obtain ⟨_, e⟩ := List.append_eq_nil_iff.1 e
    cases ks with
    | nil => simp at this
    | cons a b => rw [marks_cons] at e; cases e
  have hnl : B.nextLine (brk k c ks) = ((brk k c ks, 0), []) := by
    unfold B.nextLine
    rw [hidx 13 (hno 13 (by decide) (by decide) (by decide) (by decide)), hidx 10 (hno 10 (by decide) (by decide) (by decide) (by decide))]
    rfl
  refine ⟨?_, B.no_nul (hno 0 (by decide) (by decide) (by decide) (by decide))⟩
  rw [B.lines_cons hne, hnl, B.lines_nil]

end Go.Proofs.YtigcmibkgcmfcaaGreatDoor
