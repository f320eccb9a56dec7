/- The text of a thematic break, in plain Lean: marks with spaces between. -/
import Derived.Test.YtmdabdpghcjplaaGreatDoorN3
import Derived.Test.YtmdabdpghcjplaaGreatDoorBl
import Derived.Test.YtmdabdpghcjplaaGreatDoorN8
namespace Go.Proofs.YtmdabdpghcjplaaGreatDoor
open Go.RowKit

theorem Ln.ch_rest (x : Ln) : x.ch = x.rest.head? := by
  unfold Ln.ch Ln.rest
  rw [List.head?_drop]

theorem Ln.rest_next {x : Ln} {c : UInt8} {r : List UInt8} (h : x.rest = c :: r) (s t : Nat) : ({ x with spaces := s, i := x.i + 1, tab := t } : Ln).rest = r := by
  unfold Ln.rest at h ⊢
  rw [← List.drop_drop, h]; rfl

theorem Ln.rest_at {x : Ln} {l r : List UInt8} (h : x.rest = l ++ r) (s t k : Nat) (hk : k = l.length) : ({ x with spaces := s, i := x.i + k, tab := t } : Ln).rest = r := by
  subst hk
  unfold Ln.rest at h ⊢
  rw [← List.drop_drop, h]; simp

theorem Ln.rest_nil {x : Ln} (h : x.rest = []) : x.text.size ≤ x.i := by
  unfold Ln.rest at h
  rw [B.size_data]
  exact List.drop_eq_nil_iff.1 h

theorem Ln.trimGo_spaces (min : Nat) : ∀ (k m n : Nat) (x : Ln) (r : List UInt8), x.spaces = 0 → x.rest = List.replicate k 32 ++ r → r.head? ≠ some 32 → r.head? ≠ some 9 → k ≤ m → min ≤ n + k → x.trimGo min false m n = some { x with i := x.i + k }
  | 0, 0, n, x, r, _, _, _, _, _, _ => rfl
  | 0, m + 1, n, x, r, hs, hr, h1, h2, _, hn => by
    have hc : x.ch = r.head? := by rw [ch_rest, hr]; rfl
    have hst : x.step false = none := by
      unfold step
      rw [if_neg (by omega), hc]
      cases he : r.head? with
      | none => rfl
      | some c =>
        have c1 : c ≠ 32 := fun e => h1 (by rw [he, e])
        have c2 : c ≠ 9 := fun e => h2 (by rw [he, e])
        simp [c1, c2]
    simp only [trimGo, hst]
    rw [if_pos (by omega)]; rfl
  | k + 1, 0, n, x, r, _, _, _, _, hm, _ => by omega
  | k + 1, m + 1, n, x, r, hs, hr, h1, h2, hm, hn => by
    have hr' : x.rest = 32 :: (List.replicate k 32 ++ r) := by rw [hr, List.replicate_succ]; rfl
    have hc : x.ch = some 32 := by rw [ch_rest, hr']; rfl
    have hst : x.step false = some { x with i := x.i + 1 } := by
      unfold step
      rw [if_neg (by omega), hc]
      rfl
    simp only [trimGo, hst]
    rw [trimGo_spaces min k m (n + 1) { x with i := x.i + 1 } r hs (rest_next hr' x.spaces x.tab) h1 h2 (by omega) (by omega)]
    simp only [Option.some.injEq, Ln.mk.injEq, true_and, and_true]
    omega

theorem Ln.indent_spaces {x : Ln} {k : Nat} {r : List UInt8} (hs : x.spaces = 0) (hr : x.rest = List.replicate k 32 ++ r) (h1 : r.head? ≠ some 32) (h2 : r.head? ≠ some 9) (hk : k ≤ 3) : x.indent = { x with i := x.i + k } := by
  unfold indent trimSpace
  rw [trimGo_spaces 0 k 3 0 x r hs hr h1 h2 hk (Nat.zero_le _)]; rfl

/-- Marks, each with spaces behind it. -/
def marks (c : UInt8) (ks : List Nat) : List UInt8 := ks.flatMap fun k => c :: List.replicate k 32

theorem marks_cons (c : UInt8) (k : Nat) (ks : List Nat) : marks c (k :: ks) = c :: (List.replicate k 32 ++ marks c ks) := rfl
theorem marks_head (c : UInt8) (ks : List Nat) (d : UInt8) (h : c ≠ d) : (marks c ks).head? ≠ some d := by
  cases ks with
  | nil => simp [marks]
  | cons k ks => rw [marks_cons]; simpa using h

theorem Ln.skip_spaces {x : Ln} {k : Nat} {r : List UInt8} (hr : x.rest = List.replicate k 32 ++ r) (h : ∀ c, r.head? = some c → B.isST c = false) : x.skip = { x with spaces := 0, i := x.i + k } := by
  have e : (x.rest.takeWhile B.isST).length = k := by
    rw [hr, List.takeWhile_append_of_pos (by intro c hc; rw [List.eq_of_mem_replicate hc]; rfl)]
    cases r with
    | nil => simp
    | cons c r => simp [h c rfl]
  unfold skip
  rw [e]

theorem Ln.hrGo_marks (c : UInt8) (h32 : c ≠ 32) (h9 : c ≠ 9) : ∀ (ks : List Nat) (m n : Nat) (t : Ln), t.spaces = 0 → t.rest = marks c ks → ks.length < m → ∃ u, hrGo c m n t = (n + ks.length, u) ∧ u.text.size ≤ u.i
  | [], 0, n, t, _, _, hm => by simp at hm
  | [], m + 1, n, t, hs, hr, _ => by
    have hc : t.ch = none := by rw [ch_rest, hr]; rfl
    have ht : t.trim c = none := by
      unfold trim
      rw [if_neg (by omega), hc]; rfl
    simp only [hrGo, ht]
    exact ⟨t, rfl, rest_nil hr⟩
  | k :: ks, 0, n, t, _, _, hm => by simp at hm
  | k :: ks, m + 1, n, t, hs, hr, hm => by
    rw [marks_cons] at hr
    have hc : t.ch = some c := by rw [ch_rest, hr]; rfl
    have ht : t.trim c = some { t with i := t.i + 1 } := by
      unfold trim
      rw [if_neg (by omega), hc, if_pos rfl]
    have hr2 : ({ t with i := t.i + 1 } : Ln).rest = List.replicate k 32 ++ marks c ks := rest_next hr t.spaces t.tab
    have hk := skip_spaces hr2 fun d hd => by
      cases ks with
      | nil => simp [marks] at hd
      | cons k ks =>
        rw [marks_cons] at hd
        simp only [List.head?_cons, Option.some.injEq] at hd
        subst hd
        simp [B.isST, h32, h9]
    simp only [hrGo, ht, hk]
    obtain ⟨u, h1, h2⟩ := hrGo_marks c h32 h9 ks m (n + 1) { t with spaces := 0, i := t.i + 1 + k } rfl (rest_at hr2 0 t.tab k (by simp)) (by simp at hm; omega)
    refine ⟨u, ?_, h2⟩
    rw [h1]
    simp; omega

/-- The text of a break. -/
def brk (k : Nat) (c : UInt8) (ks : List Nat) : List UInt8 := List.replicate k 32 ++ marks c ks

structure Brk (k : Nat) (c : UInt8) (ks : List Nat) : Prop where
  hk : k ≤ 3
  hc : c = 42 ∨ c = 45 ∨ c = 95
  n : 3 ≤ ks.length
  size : (brk k c ks).length ≤ 1000000000

theorem Brk.line {k : Nat} {c : UInt8} {ks : List Nat} (h : Brk k c ks) (l : Ln) (hl : l = LineOf (brk k c ks, 0)) : l.OK ∧ l.quote = none ∧ l.heading = none ∧ l.hr = true ∧ l.blank = false := by
  subst hl
  have hr : (LineOf (brk k c ks, 0)).rest = List.replicate k 32 ++ marks c ks := by
    show (B.bs (brk k c ks)).data.toList.drop 0 = _
    rw [B.bs_data]; rfl
  have h32 : c ≠ 32 := by rcases h.hc with rfl | rfl | rfl <;> decide
  have h9 : c ≠ 9 := by rcases h.hc with rfl | rfl | rfl <;> decide
  have h35 : c ≠ 35 := by rcases h.hc with rfl | rfl | rfl <;> decide
  have h62 : c ≠ 62 := by rcases h.hc with rfl | rfl | rfl <;> decide
  have hin : (LineOf (brk k c ks, 0)).indent = _ := Ln.indent_spaces rfl hr (marks_head c ks 32 h32) (marks_head c ks 9 h9) h.hk
  have hri : (LineOf (brk k c ks, 0)).indent.rest = marks c ks := by rw [hin]; exact Ln.rest_at hr 0 0 k (by simp)
  obtain ⟨k0, ks', rfl⟩ : ∃ k0 ks', ks = k0 :: ks' := by
    cases ks with
    | nil => have := h.n; simp at this
    | cons a b => exact ⟨a, b, rfl⟩
  have hsp : (LineOf (brk k c (k0 :: ks'), 0)).indent.spaces = 0 := by rw [hin]; rfl
  have hch : (LineOf (brk k c (k0 :: ks'), 0)).indent.ch = some c := by rw [Ln.ch_rest, hri]; rfl
  have htr : ∀ d, c ≠ d → (LineOf (brk k c (k0 :: ks'), 0)).indent.trim d = none := by
    intro d hd
    unfold Ln.trim
    rw [if_neg (by omega), hch, if_neg (by simpa using hd)]
  refine ⟨⟨Nat.le_refl _, Nat.zero_le _, Nat.zero_le _, ?_⟩, ?_, ?_, ?_, ?_⟩
  · show (B.bs _).size ≤ _
    have := h.size; show (brk k c (k0 :: ks')).length ≤ _; omega
  · unfold Ln.quote
    rw [htr 62 h62]; rfl
  · unfold Ln.heading
    rw [htr 35 h35]
  · have hpk : (LineOf (brk k c (k0 :: ks'), 0)).indent.peek = c := by
      unfold Ln.peek
      rw [if_neg (by omega), hch]; rfl
    have hlen : (k0 :: ks').length < (LineOf (brk k c (k0 :: ks'), 0)).indent.text.size + 1 := by
      rw [hin]
      show _ < (B.bs _).size + 1
      rw [B.bs_size]
      have : ∀ ks : List Nat, ks.length ≤ (marks c ks).length := by
        intro ks
        induction ks with
        | nil => exact Nat.zero_le _
        | cons a b ih => rw [marks_cons]; simp; omega
      have := this (k0 :: ks')
      unfold brk
      rw [List.length_append]
      omega
    obtain ⟨u, h1, h2⟩ := Ln.hrGo_marks c h32 h9 (k0 :: ks') _ 0 _ hsp hri hlen
    unfold Ln.hr
    rw [hpk, h1]
    have hn := h.n
    rcases h.hc with rfl | rfl | rfl <;> simp [Ln.isMark, h2] <;> simpa using hn
  · show (B.trimL _).isEmpty = false
    rw [hr]
    unfold B.trimL
    have : ∀ k, (List.replicate k 32 ++ marks c (k0 :: ks')).dropWhile B.isST = marks c (k0 :: ks') := by
      intro k
      induction k with
      | zero => rw [marks_cons]; simp [B.isST, h32, h9]
      | succ k ih => rw [List.replicate_succ]; simpa [B.isST] using ih
    rw [this, marks_cons]
    rfl

theorem Brk.lines {k : Nat} {c : UInt8} {ks : List Nat} (h : Brk k c ks) : B.lines (brk k c ks) = [(brk k c ks, 0)] ∧ B.findSub [0] (brk k c ks) = none := by
  have hm : ∀ d ∈ brk k c ks, d = 32 ∨ d = c := by
    intro d hd
    unfold brk marks at hd
    rcases List.mem_append.1 hd with hd | hd
    · exact .inl (List.eq_of_mem_replicate hd)
    · obtain ⟨j, _, hd⟩ := List.mem_flatMap.1 hd
      rcases List.mem_cons.1 hd with hd | hd
      · exact .inr hd
      · exact .inl (List.eq_of_mem_replicate hd)
  have hno : ∀ d : UInt8, d ≠ 32 → d ≠ 42 → d ≠ 45 → d ≠ 95 → d ∉ brk k c ks := by
    intro d h1 h2 h3 h4 hd
    rcases hm d hd with rfl | rfl
    · exact h1 rfl
    · rcases h.hc with e | e | e <;> contradiction
  have hidx : ∀ d : UInt8, d ∉ brk k c ks → B.idx (brk k c ks) [d] = -1 := by
    intro d hd
    unfold B.idx
    rw [B.findSub_byte, List.findIdx?_eq_none_iff.2 (by intro x hx; simp; rintro rfl; exact hd hx)]
  have hne : brk k c ks ≠ [] := by
    have := h.n
    intro e
    unfold brk at e
    obtain ⟨_, e⟩ := List.append_eq_nil_iff.1 e
    cases ks with
    | nil => simp at this
    | cons a b => rw [marks_cons] at e; cases e
  have hnl : B.nextLine (brk k c ks) = ((brk k c ks, 0), []) := by
    unfold B.nextLine
    rw [hidx 13 (hno 13 (by decide) (by decide) (by decide) (by decide)), hidx 10 (hno 10 (by decide) (by decide) (by decide) (by decide))]
    rfl
  refine ⟨?_, B.no_nul (hno 0 (by decide) (by decide) (by decide) (by decide))⟩
  rw [B.lines_cons hne, hnl, B.lines_nil]

end Go.Proofs.YtmdabdpghcjplaaGreatDoor

/- Indented lines, in plain Lean. -/
namespace Go.Proofs.YtmdabdpghcjplaaGreatDoor
open Go.RowKit

theorem Ln.step_space {x : Ln} {r : List UInt8} (eol : Bool) (hs : x.spaces = 0) (hr : x.rest = 32 :: r) : x.step eol = some { x with i := x.i + 1 } := by
  have hc : x.ch = some 32 := by rw [ch_rest, hr]; rfl
  unfold step
  rw [if_neg (by omega), hc]
  rfl

theorem Ln.trimGo_exact (min : Nat) (eol : Bool) : ∀ (m n : Nat) (x : Ln) (r : List UInt8), x.spaces = 0 → x.rest = List.replicate m 32 ++ r → x.trimGo min eol m n = some { x with i := x.i + m }
  | 0, _, _, _, _, _ => rfl
  | m + 1, n, x, r, hs, hr => by
    have hr' : x.rest = 32 :: (List.replicate m 32 ++ r) := by rw [hr, List.replicate_succ]; rfl
    simp only [trimGo, step_space eol hs hr']
    rw [trimGo_exact min eol m (n + 1) { x with i := x.i + 1 } r hs (rest_next hr' x.spaces x.tab)]
    simp only [Option.some.injEq, Ln.mk.injEq, true_and, and_true]
    omega

theorem Ln.item_exact : ∀ (m : Nat) (x : Ln) (r : List UInt8), x.spaces = 0 → x.rest = List.replicate m 32 ++ r → Ln.item m x = { x with i := x.i + m }
  | 0, _, _, _, _ => rfl
  | m + 1, x, r, hs, hr => by
    have hr' : x.rest = 32 :: (List.replicate m 32 ++ r) := by rw [hr, List.replicate_succ]; rfl
    have h1 : x.trimSpace 1 1 false = some { x with i := x.i + 1 } := trimGo_exact 1 false 1 0 x _ hs hr'
    simp only [item, h1]
    rw [item_exact m { x with i := x.i + 1 } r hs (rest_next hr' x.spaces x.tab)]
    simp only [Ln.mk.injEq, true_and, and_true]
    omega

theorem Ln.trimGo_eol (min : Nat) : ∀ (m n : Nat) (x : Ln), x.spaces = 0 → x.rest = [] → x.trimGo min true m n = some x
  | 0, _, _, _, _ => rfl
  | m + 1, n, x, hs, hr => by
    have hc : x.ch = none := by rw [ch_rest, hr]; rfl
    have h1 : x.step true = some x := by
      unfold step
      rw [if_neg (by omega), hc]; rfl
    simp only [trimGo, h1]
    exact trimGo_eol min m (n + 1) x hs hr

/-- A line of code, indented. -/
def indL (s : List UInt8) : List UInt8 := if s = [] then [] else List.replicate 4 32 ++ s

theorem indL_drop (s : List UInt8) : (indL s).drop 4 = s := by
  unfold indL
  split
  · next h => rw [h]; rfl
  · rfl

theorem indL_len (s : List UInt8) : (indL s).length ≤ s.length + 4 := by
  unfold indL
  split <;> simp

theorem lineOf_rest (s : List UInt8) (nl : UInt8) : (LineOf (s, nl)).rest = s := by
  show (B.bs s).data.toList.drop 0 = _
  rw [B.bs_data]; rfl

theorem lineOf_ok (s : List UInt8) (nl : UInt8) (h : s.length ≤ 1000000000000) : (LineOf (s, nl)).OK :=
  ⟨Nat.le_refl _, Nat.zero_le _, Nat.zero_le _, h⟩

theorem ind_ext (s : List UInt8) (nl : UInt8) : ∃ l4, (LineOf (indL s, nl)).trimSpace 4 4 true = some l4 ∧ l4.str = s := by
  by_cases h : s = []
  · subst h
    exact ⟨_, Ln.trimGo_eol 4 4 0 _ rfl (lineOf_rest _ _), rfl⟩
  · have hr : (LineOf (indL s, nl)).rest = List.replicate 4 32 ++ s := by rw [lineOf_rest, indL, if_neg h]
    refine ⟨_, Ln.trimGo_exact 4 true 4 0 _ s rfl hr, ?_⟩
    unfold Ln.str
    rw [Ln.rest_at hr _ _ 4 rfl]; rfl

theorem trimL_ink {s : List UInt8} (h : ∃ c ∈ s, c ≠ 32 ∧ c ≠ 9) : (B.trimL s).isEmpty = false := by
  obtain ⟨c, hc, h1, h2⟩ := h
  have : c ∈ B.trimL s ∨ B.isST c = true := by
    unfold B.trimL
    induction s with
    | nil => cases hc
    | cons a t ih =>
      rw [List.dropWhile_cons]
      split
      · rcases List.mem_cons.1 hc with rfl | hc
        · next h => exact .inr h
        · exact ih hc
      · exact .inl hc
  rcases this with h | h
  · cases e : B.trimL s with
    | nil => rw [e] at h; cases h
    | cons => rfl
  · simp [B.isST, h1, h2] at h

theorem trimR_ink {s : List UInt8} (h : ∃ c ∈ s, c ≠ 32 ∧ c ≠ 9) : B.trimR (B.trimL s) ≠ [] := by
  have h1 : ∃ c ∈ B.trimL s, c ≠ 32 ∧ c ≠ 9 := by
    obtain ⟨c, hc, h1, h2⟩ := h
    refine ⟨c, ?_, h1, h2⟩
    unfold B.trimL
    induction s with
    | nil => cases hc
    | cons a t ih =>
      rw [List.dropWhile_cons]
      split
      · rcases List.mem_cons.1 hc with rfl | hc
        · next h => simp [B.isST, h1, h2] at h
        · exact ih hc
      · exact hc
  obtain ⟨c, hc, h1, h2⟩ := h1
  intro e
  have h3 := trimL_ink (s := (B.trimL s).reverse) ⟨c, by simpa using hc, h1, h2⟩
  unfold B.trimR at e
  unfold B.trimL at e h3
  rw [List.reverse_eq_nil_iff] at e
  rw [e] at h3
  cases h3

theorem Ln.trim_none {x : Ln} {d : UInt8} (hs : x.spaces = 0) (hc : x.ch ≠ some d) : x.trim d = none := by
  unfold trim
  rw [if_neg (by omega), if_neg hc]
theorem Ln.peek_of {x : Ln} {c : UInt8} (hs : x.spaces = 0) (hc : x.ch = some c) : x.peek = c := by
  unfold peek
  rw [if_neg (by omega), hc]; rfl

structure FirstInd (s : List UInt8) (nl : UInt8) : Prop where
  ok : (LineOf (indL s, nl)).OK
  quote : (LineOf (indL s, nl)).quote = none
  heading : (LineOf (indL s, nl)).heading = none
  hr : (LineOf (indL s, nl)).hr = false
  item : (Ln.item 3 (LineOf (indL s, nl))).peek = 32
  indent : (LineOf (indL s, nl)).indent.peek = 32
  blank : (LineOf (indL s, nl)).blank = false
  pre : ∃ l4, (LineOf (indL s, nl)).trimSpace 4 4 false = some l4 ∧ l4.blank = false ∧ l4.str = s

theorem firstInd {s : List UInt8} {nl : UInt8} (hz : s.length ≤ 1000000000) (h : ∃ c ∈ s, c ≠ 32 ∧ c ≠ 9) : FirstInd s nl := by
  have hne : s ≠ [] := by rintro rfl; obtain ⟨c, hc, _⟩ := h; cases hc
  have hr : (LineOf (indL s, nl)).rest = List.replicate 4 32 ++ s := by rw [lineOf_rest, indL, if_neg hne]
  have hr3 : (LineOf (indL s, nl)).rest = List.replicate 3 32 ++ (32 :: s) := hr
  obtain ⟨y, hin, hit, hys, hri⟩ : ∃ y : Ln, (LineOf (indL s, nl)).indent = y ∧ Ln.item 3 (LineOf (indL s, nl)) = y ∧ y.spaces = 0 ∧ y.rest = 32 :: s := by
    refine ⟨_, ?_, Ln.item_exact 3 _ _ rfl hr3, rfl, Ln.rest_at hr3 0 0 3 rfl⟩
    unfold Ln.indent Ln.trimSpace
    rw [Ln.trimGo_exact 0 false 3 0 _ _ rfl hr3]; rfl
  have hch : y.ch = some 32 := by rw [Ln.ch_rest, hri]; rfl
  have hpk : y.peek = 32 := Ln.peek_of hys hch
  have htr : ∀ d : UInt8, (32 : UInt8) ≠ d → (LineOf (indL s, nl)).indent.trim d = none := by
    intro d hd
    rw [hin]
    exact Ln.trim_none hys (by rw [hch]; simpa using hd)
  refine ⟨lineOf_ok _ _ ?_, ?_, ?_, ?_, ?_, ?_, ?_, ?_⟩
  · have := indL_len s; omega
  · unfold Ln.quote; rw [htr 62 (by decide)]; rfl
  · unfold Ln.heading; rw [htr 35 (by decide)]
  · unfold Ln.hr; rw [hin, hpk]; rfl
  · rw [hit]; exact hpk
  · rw [hin]; exact hpk
  · show (B.trimL _).isEmpty = false
    rw [hr]
    exact trimL_ink (by obtain ⟨c, hc, h1⟩ := h; exact ⟨c, List.mem_append.2 (.inr hc), h1⟩)
  · refine ⟨_, Ln.trimGo_exact 4 false 4 0 _ s rfl hr, ?_, ?_⟩
    · show (B.trimL _).isEmpty = false
      rw [Ln.rest_at hr _ _ 4 rfl]
      exact trimL_ink h
    · unfold Ln.str
      rw [Ln.rest_at hr _ _ 4 rfl]; rfl

/-- The lines of an indented block of code. -/
structure IndText (L : List (List UInt8 × UInt8)) : Prop where
  first : ∃ s nl rest, L = (indL s, nl) :: rest ∧ ∃ c ∈ s, c ≠ 32 ∧ c ≠ 9
  all : ∀ l ∈ L, ∃ s nl, l = (indL s, nl) ∧ s.length ≤ 1000000000
  len : L.length ≤ 1000000
  last : ∃ s nl, L.getLast? = some (indL s, nl) ∧ ∃ c ∈ s, c ≠ 32 ∧ c ≠ 9

/-- Texts, one behind the other, with line feeds between. -/
def joinNL : List (List UInt8) → List UInt8
  | [] => []
  | [a] => a
  | a :: b :: t => a ++ 10 :: joinNL (b :: t)
def nlLines : List (List UInt8) → List (List UInt8 × UInt8)
  | [] => []
  | [a] => [(a, 0)]
  | a :: b :: t => (a, 10) :: nlLines (b :: t)

theorem B.idx_none {l : List UInt8} {c : UInt8} (h : c ∉ l) : B.idx l [c] = -1 := by
  unfold B.idx
  rw [B.findSub_byte, List.findIdx?_eq_none_iff.2 (by intro x hx; simp; rintro rfl; exact h hx)]

theorem B.idx_at {l r : List UInt8} {c : UInt8} (h : c ∉ l) : B.idx (l ++ c :: r) [c] = l.length := by
  unfold B.idx
  rw [B.findSub_byte]
  have : (l ++ c :: r).findIdx? (· == c) = some l.length := by
    rw [List.findIdx?_append, List.findIdx?_eq_none_iff.2 (by intro x hx; simp; rintro rfl; exact h hx)]
    simp [List.findIdx?_cons]
  rw [this]

theorem joinNL_mem : ∀ {ts : List (List UInt8)} {c : UInt8}, c ∈ joinNL ts → c = 10 ∨ ∃ t ∈ ts, c ∈ t
  | [a], c, h => .inr ⟨a, by simp, h⟩
  | a :: b :: t, c, h => by
    rcases List.mem_append.1 h with h | h
    · exact .inr ⟨a, by simp, h⟩
    · rcases List.mem_cons.1 h with h | h
      · exact .inl h
      · rcases joinNL_mem h with h | ⟨t', ht, hc⟩
        · exact .inl h
        · exact .inr ⟨t', List.mem_cons_of_mem _ ht, hc⟩

theorem lines_join : ∀ (ts : List (List UInt8)), (∀ t ∈ ts, 10 ∉ t ∧ 13 ∉ t) → ts.getLast? ≠ some [] → B.lines (joinNL ts) = nlLines ts
  | [], _, _ => B.lines_nil
  | [a], h, hl => by
    have ha := h a (by simp)
    have hne : a ≠ [] := by simpa using hl
    have hn : B.nextLine a = ((a, 0), []) := by
      unfold B.nextLine
      rw [B.idx_none ha.2, B.idx_none ha.1]; rfl
    show B.lines a = _
    rw [B.lines_cons hne, hn, B.lines_nil]; rfl
  | a :: b :: t, h, hl => by
    have ha := h a (by simp)
    have ih := lines_join (b :: t) (fun x hx => h x (List.mem_cons_of_mem _ hx)) (by simpa using hl)
    have h13 : (13 : UInt8) ∉ a ++ 10 :: joinNL (b :: t) := by
      intro hc
      rcases List.mem_append.1 hc with hc | hc
      · exact ha.2 hc
      · rcases List.mem_cons.1 hc with hc | hc
        · exact absurd hc (by decide)
        · rcases joinNL_mem hc with hc | ⟨t', ht, hc⟩
          · exact absurd hc (by decide)
          · exact (h t' (List.mem_cons_of_mem _ ht)).2 hc
    have hn : B.nextLine (a ++ 10 :: joinNL (b :: t)) = ((a, 10), joinNL (b :: t)) := by
      unfold B.nextLine
      rw [B.idx_none h13, B.idx_at ha.1, if_neg (by omega), if_pos (by omega)]
      simp
    show B.lines (a ++ 10 :: joinNL (b :: t)) = _
    rw [B.lines_cons (by simp), hn, ih]; rfl

theorem nlLines_fst : ∀ ts : List (List UInt8), (nlLines ts).map (·.1) = ts
  | [] => rfl
  | [a] => rfl
  | a :: b :: t => by
    show a :: (nlLines (b :: t)).map (·.1) = _
    rw [nlLines_fst (b :: t)]

end Go.Proofs.YtmdabdpghcjplaaGreatDoor
