/- Inlines: tokens of a text, and their HTML; slashed texts. Pure. -/
import Derived.Test.YtbfmmikllelfeaaGreatDoorEs
import Derived.Test.YtbfmmikllelfeaaGreatDoorKi
namespace Go.Proofs.YtbfmmikllelfeaaGreatDoor
open Go.RowKit

/-- The signs that are replaced in a link's address. -/
def linkPairs : Pairs := [(34, [37, 50, 50]), (38, [38, 97, 109, 112, 59]), (60, [37, 51, 67]), (62, [37, 51, 69]), (92, [37, 53, 67]), (32, [37, 50, 48]), (96, [37, 54, 48]), (91, [37, 53, 66]), (93, [37, 53, 68]), (94, [37, 53, 69]), (123, [37, 55, 66]), (125, [37, 55, 68]), (0, [37, 48, 48]), (1, [37, 48, 49]), (2, [37, 48, 50]), (3, [37, 48, 51]),
  (4, [37, 48, 52]), (5, [37, 48, 53]), (6, [37, 48, 54]), (7, [37, 48, 55]), (8, [37, 48, 56]), (11, [37, 48, 66]), (12, [37, 48, 67]), (14, [37, 48, 69]), (15, [37, 48, 70]), (16, [37, 49, 48]), (17, [37, 49, 49]), (18, [37, 49, 50]), (19, [37, 49, 51]), (20, [37, 49, 52]), (21, [37, 49, 53]), (22, [37, 49, 54]),
  (23, [37, 49, 55]), (24, [37, 49, 56]), (25, [37, 49, 57]), (26, [37, 49, 65]), (27, [37, 49, 66]), (28, [37, 49, 67]), (29, [37, 49, 68]), (30, [37, 49, 69]), (31, [37, 49, 70]), (127, [37, 55, 70]), (128, [37, 56, 48]), (129, [37, 56, 49]), (130, [37, 56, 50]), (131, [37, 56, 51]), (132, [37, 56, 52]), (133, [37, 56, 53]),
  (134, [37, 56, 54]), (135, [37, 56, 55]), (136, [37, 56, 56]), (137, [37, 56, 57]), (138, [37, 56, 65]), (139, [37, 56, 66]), (140, [37, 56, 67]), (141, [37, 56, 68]), (142, [37, 56, 69]), (143, [37, 56, 70]), (144, [37, 57, 48]), (145, [37, 57, 49]), (146, [37, 57, 50]), (147, [37, 57, 51]), (148, [37, 57, 52]), (149, [37, 57, 53]),
  (150, [37, 57, 54]), (151, [37, 57, 55]), (152, [37, 57, 56]), (153, [37, 57, 57]), (154, [37, 57, 65]), (155, [37, 57, 66]), (156, [37, 57, 67]), (157, [37, 57, 68]), (158, [37, 57, 69]), (159, [37, 57, 70]), (160, [37, 65, 48]), (161, [37, 65, 49]), (162, [37, 65, 50]), (163, [37, 65, 51]), (164, [37, 65, 52]), (165, [37, 65, 53]),
  (166, [37, 65, 54]), (167, [37, 65, 55]), (168, [37, 65, 56]), (169, [37, 65, 57]), (170, [37, 65, 65]), (171, [37, 65, 66]), (172, [37, 65, 67]), (173, [37, 65, 68]), (174, [37, 65, 69]), (175, [37, 65, 70]), (176, [37, 66, 48]), (177, [37, 66, 49]), (178, [37, 66, 50]), (179, [37, 66, 51]), (180, [37, 66, 52]), (181, [37, 66, 53]),
  (182, [37, 66, 54]), (183, [37, 66, 55]), (184, [37, 66, 56]), (185, [37, 66, 57]), (186, [37, 66, 65]), (187, [37, 66, 66]), (188, [37, 66, 67]), (189, [37, 66, 68]), (190, [37, 66, 69]), (191, [37, 66, 70]), (192, [37, 67, 48]), (193, [37, 67, 49]), (194, [37, 67, 50]), (195, [37, 67, 51]), (196, [37, 67, 52]), (197, [37, 67, 53]),
  (198, [37, 67, 54]), (199, [37, 67, 55]), (200, [37, 67, 56]), (201, [37, 67, 57]), (202, [37, 67, 65]), (203, [37, 67, 66]), (204, [37, 67, 67]), (205, [37, 67, 68]), (206, [37, 67, 69]), (207, [37, 67, 70]), (208, [37, 68, 48]), (209, [37, 68, 49]), (210, [37, 68, 50]), (211, [37, 68, 51]), (212, [37, 68, 52]), (213, [37, 68, 53]),
  (214, [37, 68, 54]), (215, [37, 68, 55]), (216, [37, 68, 56]), (217, [37, 68, 57]), (218, [37, 68, 65]), (219, [37, 68, 66]), (220, [37, 68, 67]), (221, [37, 68, 68]), (222, [37, 68, 69]), (223, [37, 68, 70]), (224, [37, 69, 48]), (225, [37, 69, 49]), (226, [37, 69, 50]), (227, [37, 69, 51]), (228, [37, 69, 52]), (229, [37, 69, 53]),
  (230, [37, 69, 54]), (231, [37, 69, 55]), (232, [37, 69, 56]), (233, [37, 69, 57]), (234, [37, 69, 65]), (235, [37, 69, 66]), (236, [37, 69, 67]), (237, [37, 69, 68]), (238, [37, 69, 69]), (239, [37, 69, 70]), (240, [37, 70, 48]), (241, [37, 70, 49]), (242, [37, 70, 50]), (243, [37, 70, 51]), (244, [37, 70, 52]), (245, [37, 70, 53]),
  (246, [37, 70, 54]), (247, [37, 70, 55]), (248, [37, 70, 56]), (249, [37, 70, 57]), (250, [37, 70, 65]), (251, [37, 70, 66]), (252, [37, 70, 67]), (253, [37, 70, 68]), (254, [37, 70, 69]), (255, [37, 70, 70])]

/-- What a text is read as, where no brackets and no emphasis are. -/
inductive Tok
  | plain (s : List UInt8)
  | esc (s : List UInt8)
  | code (s : List UInt8)
  | link (u t : List UInt8)
  | obj (h : Value → Sl.HP) (o : List UInt8)

def codeOpen : List UInt8 := [60, 99, 111, 100, 101, 62]
def codeEnd : List UInt8 := [60, 47, 99, 111, 100, 101, 62]

def Tok.txt : Tok → List UInt8
  | .plain s => s
  | .esc s => s
  | .code s => s
  | .link u t => u ++ t
  | .obj _ _ => []

def Tok.html : Tok → List UInt8
  | .plain s => htmlPairs.esc s
  | .esc s => htmlPairs.esc s
  | .code s => codeOpen ++ htmlPairs.esc s ++ codeEnd
  | .link u t => [60, 97, 32, 104, 114, 101, 102, 61, 34] ++ linkPairs.esc u ++ [34] ++ [62] ++ htmlPairs.esc t ++ [60, 47, 97, 62]
  | .obj _ o => o

def htmls (ts : List Tok) : List UInt8 := ts.flatMap Tok.html
def flush (s : List UInt8) : List Tok := if s = [] then [] else [.plain s]

theorem htmls_append (a b : List Tok) : htmls (a ++ b) = htmls a ++ htmls b := by unfold htmls; rw [List.flatMap_append]
theorem htmls_cons (a : Tok) (b : List Tok) : htmls (a :: b) = a.html ++ htmls b := rfl
theorem htmls_flush (s : List UInt8) : htmls (flush s) = htmlPairs.esc s := by
  unfold flush
  split
  · next h => subst h; rfl
  · show htmlPairs.esc s ++ [] = _
    rw [List.append_nil]

theorem esc_append (a b : List UInt8) : htmlPairs.esc (a ++ b) = htmlPairs.esc a ++ htmlPairs.esc b := by unfold Pairs.esc; rw [List.flatMap_append]

/-- ASCII punctuation. -/
def isP (c : UInt8) : Bool := decide ((33 ≤ c.toNat ∧ c.toNat ≤ 47) ∨ (58 ≤ c.toNat ∧ c.toNat ≤ 64) ∨ (91 ≤ c.toNat ∧ c.toNat ≤ 96) ∨ (123 ≤ c.toNat ∧ c.toNat ≤ 126))

/-- A backslash ahead of each punctuation character. -/
def slashed : List UInt8 → List UInt8
  | [] => []
  | c :: t => (if isP c then [92, c] else [c]) ++ slashed t

theorem slashed_cons (c : UInt8) (t : List UInt8) : slashed (c :: t) = (if isP c then [92, c] else [c]) ++ slashed t := rfl
theorem slashed_one (c : UInt8) : slashed [c] = if isP c then [92, c] else [c] := by rw [slashed_cons]; exact List.append_nil _

theorem slashed_append : ∀ (a b : List UInt8), slashed (a ++ b) = slashed a ++ slashed b
  | [], _ => rfl
  | c :: t, b => by
    show _ ++ slashed (t ++ b) = _ ++ slashed t ++ slashed b
    rw [slashed_append t b, List.append_assoc]

theorem slashed_len : ∀ s, s.length ≤ (slashed s).length ∧ (slashed s).length ≤ 2 * s.length
  | [] => ⟨Nat.le_refl _, Nat.le_refl _⟩
  | c :: t => by
    have ih := slashed_len t
    unfold slashed
    rw [List.length_append]
    split <;> simp only [List.length_cons, List.length_nil] <;> omega

theorem slashed_ne {s : List UInt8} (h : s ≠ []) : slashed s ≠ [] := by
  intro e
  have := (slashed_len s).1
  rw [e] at this
  exact h (List.eq_nil_of_length_eq_zero (by simpa using this))

theorem slashed_mem {s : List UInt8} {c : UInt8} (h : c ∈ slashed s) : c = 92 ∨ c ∈ s := by
  induction s with
  | nil => cases h
  | cons a t ih =>
    unfold slashed at h
    rcases List.mem_append.1 h with h | h
    · split at h
      · simp at h; rcases h with h | h
        · exact .inl h
        · exact .inr (by simp [h])
      · simp at h; exact .inr (by simp [h])
    · rcases ih h with h | h
      · exact .inl h
      · exact .inr (by simp [h])

theorem slashed_last {s : List UInt8} {c : UInt8} (h : s.getLast? = some c) : (slashed s).getLast? = some c := by
  have hne : s ≠ [] := by rintro rfl; cases h
  obtain ⟨a, b, rfl⟩ : ∃ a b, s = a ++ [b] := ⟨s.dropLast, s.getLast hne, (List.dropLast_concat_getLast hne).symm⟩
  have : b = c := by simpa using h
  subst this
  rw [slashed_append, show slashed [b] = (if isP b then [92, b] else [b]) ++ [] from rfl, List.append_nil]
  split <;> simp

theorem slashed_head {s : List UInt8} {c : UInt8} (h : s.head? = some c) : (slashed s).head? = some (if isP c then 92 else c) := by
  cases s with
  | nil => cases h
  | cons a t =>
    simp at h
    subst h
    unfold slashed
    split <;> simp

/-- The tokens of a slashed text, behind a text p that is not yet put out. -/
def slTok : List UInt8 → List UInt8 → List Tok
  | p, [] => flush p
  | p, c :: t => if isP c then flush p ++ .esc [c] :: slTok [] t else slTok (p ++ [c]) t

theorem slTok_html : ∀ (s p : List UInt8), htmls (slTok p s) = htmlPairs.esc (p ++ s)
  | [], p => by rw [slTok, htmls_flush, List.append_nil]
  | c :: t, p => by
    unfold slTok
    split
    · rw [htmls_append, htmls_flush, htmls_cons, slTok_html t [], List.nil_append, esc_append]
      congr 1
      show htmlPairs.esc [c] ++ htmlPairs.esc t = htmlPairs.esc ([c] ++ t)
      rw [esc_append]
    · rw [slTok_html t, List.append_assoc]; rfl

/-- Texts next to each other, put together. -/
def mergeT : List Tok → List Tok
  | [] => []
  | .plain a :: r => match mergeT r with
    | .plain b :: r' => .plain (a ++ b) :: r'
    | r' => .plain a :: r'
  | .esc a :: r => .esc a :: mergeT r
  | .code a :: r => .code a :: mergeT r
  | .link u t :: r => .link u t :: mergeT r
  | .obj h o :: r => .obj h o :: mergeT r

theorem mergeT_html : ∀ ts, htmls (mergeT ts) = htmls ts
  | [] => rfl
  | .plain a :: r => by
    have ih := mergeT_html r
    unfold mergeT
    split
    · next b r' h =>
      rw [h, htmls_cons] at ih
      rw [htmls_cons, htmls_cons, ← ih]
      show htmlPairs.esc (a ++ b) ++ _ = htmlPairs.esc a ++ (htmlPairs.esc b ++ _)
      rw [esc_append, List.append_assoc]
    · rw [htmls_cons, htmls_cons, ih]
  | .esc a :: r => by
    unfold mergeT
    rw [htmls_cons, htmls_cons, mergeT_html r]
  | .code a :: r => by
    unfold mergeT
    rw [htmls_cons, htmls_cons, mergeT_html r]
  | .link u t :: r => by
    unfold mergeT
    rw [htmls_cons, htmls_cons, mergeT_html r]
  | .obj h o :: r => by
    unfold mergeT
    rw [htmls_cons, htmls_cons, mergeT_html r]

end Go.Proofs.YtbfmmikllelfeaaGreatDoor

/- Code spans: runs of backquotes. Pure. -/
namespace Go.Proofs.YtbfmmikllelfeaaGreatDoor
open Go.RowKit

/-- So many backquotes stand at place i. -/
def tickRun (s : List UInt8) (i : Nat) : Nat := ((s.drop i).takeWhile (· == 96)).length

theorem takeWhile_at {p : UInt8 → Bool} : ∀ {l : List UInt8} {j : Nat}, j < (l.takeWhile p).length → ∃ c, l[j]? = some c ∧ p c = true
  | [], j, h => by simp at h
  | a :: t, j, h => by
    by_cases ha : p a = true
    · rw [List.takeWhile_cons_of_pos ha, List.length_cons] at h
      cases j with
      | zero => exact ⟨a, rfl, ha⟩
      | succ j =>
        obtain ⟨c, h1, h2⟩ := takeWhile_at (p := p) (l := t) (j := j) (by omega)
        exact ⟨c, by simpa using h1, h2⟩
    · rw [List.takeWhile_cons_of_neg ha] at h
      simp at h

theorem takeWhile_stop {p : UInt8 → Bool} : ∀ {l : List UInt8} {c : UInt8}, l[(l.takeWhile p).length]? = some c → p c = false
  | [], c, h => by simp at h
  | a :: t, c, h => by
    by_cases ha : p a = true
    · rw [List.takeWhile_cons_of_pos ha, List.length_cons] at h
      exact takeWhile_stop (l := t) (by simpa using h)
    · rw [List.takeWhile_cons_of_neg ha] at h
      simp at h
      subst h
      simpa using ha

theorem tickRun_le {s : List UInt8} {i : Nat} (h : i ≤ s.length) : i + tickRun s i ≤ s.length := by
  have := (List.takeWhile_sublist (l := s.drop i) (p := (· == 96))).length_le
  unfold tickRun
  rw [List.length_drop] at this
  omega

theorem tickRun_at {s : List UInt8} {i j : Nat} (h : j < tickRun s i) : s[i + j]? = some 96 := by
  obtain ⟨c, h1, h2⟩ := takeWhile_at h
  rw [List.getElem?_drop] at h1
  obtain rfl : c = 96 := by simpa using h2
  exact h1

theorem tickRun_end {s : List UInt8} {i : Nat} : s[i + tickRun s i]? ≠ some 96 := by
  intro h
  have : (s.drop i)[((s.drop i).takeWhile (· == 96)).length]? = some 96 := by rw [List.getElem?_drop]; exact h
  have := takeWhile_stop this
  simp at this

theorem tickRun_of {s : List UInt8} {i m : Nat} (h1 : ∀ j, j < m → s[i + j]? = some 96) (h2 : s[i + m]? ≠ some 96) : tickRun s i = m := by
  apply Classical.byContradiction
  intro hne
  by_cases h : tickRun s i < m
  · exact tickRun_end (h1 _ h)
  · exact h2 (tickRun_at (by omega))

/-- From place k on, the first run of just n backquotes stands at e. -/
inductive CodeTo (s : List UInt8) (n e : Nat) : Nat → Prop
  | hit (h : tickRun s e = n) : CodeTo s n e e
  | skip {k : Nat} {c : UInt8} (h : s[k]? = some c) (hc : c ≠ 96) (t : CodeTo s n e (k + 1)) : CodeTo s n e k
  | run {k : Nat} (hm : 0 < tickRun s k) (hn : tickRun s k ≠ n) (t : CodeTo s n e (k + tickRun s k)) : CodeTo s n e k

theorem CodeTo.le {s : List UInt8} {n e k : Nat} (h : CodeTo s n e k) (hn : 1 ≤ n) : k ≤ e ∧ e + n ≤ s.length ∧ tickRun s e = n := by
  induction h with
  | hit h =>
    have h1 := tickRun_at (s := s) (i := e) (j := 0) (by omega)
    have h2 := (List.getElem?_eq_some_iff.1 h1).1
    have := tickRun_le (s := s) (i := e) (by omega)
    exact ⟨Nat.le_refl _, by omega, h⟩
  | skip h hc t ih => exact ⟨by omega, ih.2⟩
  | run hm hn t ih => exact ⟨by omega, ih.2⟩

/-- No run of just n backquotes is met from place i on. -/
inductive NoRuns (s : List UInt8) (n : Nat) : Nat → Prop
  | stop {i : Nat} (h : s.length ≤ i) : NoRuns s n i
  | step {i : Nat} (hi : i < s.length) (hm : tickRun s i ≠ n) (t : NoRuns s n (i + max (tickRun s i) 1)) : NoRuns s n i

/-- The text of the law: a letter, a code span. -/
def spanTxt (n : Nat) (s : List UInt8) : List UInt8 := [97, 32] ++ List.replicate n 96 ++ [32] ++ s ++ 32 :: List.replicate n 96

theorem spanTxt_at (n : Nat) (s : List UInt8) (j : Nat) (h : j < s.length) : (spanTxt n s)[n + 3 + j]? = s[j]? := by
  unfold spanTxt
  rw [List.getElem?_append_left (by simp; omega), List.getElem?_append_right (by simp; try omega)]
  congr 1
  simp

theorem spanTxt_sp (n : Nat) (s : List UInt8) : (spanTxt n s)[n + 3 + s.length]? = some 32 := by
  unfold spanTxt
  rw [List.getElem?_append_right (by simp; omega)]
  have : n + 3 + s.length - ([97, 32] ++ List.replicate n 96 ++ [32] ++ s).length = 0 := by simp; omega
  rw [this]; rfl

theorem spanTxt_sp0 (n : Nat) (s : List UInt8) : (spanTxt n s)[n + 2]? = some 32 := by
  unfold spanTxt
  rw [List.getElem?_append_left (by simp; try omega), List.getElem?_append_left (by simp; try omega), List.getElem?_append_right (by simp; try omega)]
  have : n + 2 - ([97, 32] ++ List.replicate n (96 : UInt8)).length = 0 := by simp
  rw [this]; rfl

theorem spanTxt_len (n : Nat) (s : List UInt8) : (spanTxt n s).length = n + 3 + s.length + 1 + n := by
  unfold spanTxt; simp; omega

theorem spanTxt_front (n : Nat) (s : List UInt8) : tickRun (spanTxt n s) 2 = n := by
  refine tickRun_of (fun j hj => ?_) ?_
  · unfold spanTxt
    rw [List.getElem?_append_left (by simp; try omega), List.getElem?_append_left (by simp; try omega), List.getElem?_append_left (by simp; try omega), List.getElem?_append_right (by simp)]
    have : 2 + j - [(97 : UInt8), 32].length = j := by simp
    rw [this, List.getElem?_replicate, if_pos hj]
  · rw [Nat.add_comm, spanTxt_sp0]; decide

theorem spanTxt_back (n : Nat) (s : List UInt8) : tickRun (spanTxt n s) (n + 3 + s.length + 1) = n := by
  refine tickRun_of (fun j hj => ?_) ?_
  · unfold spanTxt
    rw [List.getElem?_append_right (by simp; omega)]
    have : n + 3 + s.length + 1 + j - ([97, 32] ++ List.replicate n 96 ++ [32] ++ s).length = j + 1 := by simp; omega
    rw [this, List.getElem?_cons_succ, List.getElem?_replicate, if_pos hj]
  · rw [List.getElem?_eq_none (by rw [spanTxt_len]; omega)]
    simp

theorem spanTxt_run (n : Nat) (s : List UInt8) {i : Nat} (hi : i < s.length) : tickRun (spanTxt n s) (n + 3 + i) = tickRun s i := by
  have hle := tickRun_le (s := s) (i := i) (by omega)
  refine tickRun_of (fun j hj => ?_) ?_
  · rw [Nat.add_assoc, spanTxt_at n s _ (by omega)]
    exact tickRun_at hj
  · by_cases h : i + tickRun s i < s.length
    · rw [Nat.add_assoc, spanTxt_at n s _ h]
      exact tickRun_end
    · rw [show n + 3 + i + tickRun s i = n + 3 + s.length by omega, spanTxt_sp]
      decide

theorem span_to (n : Nat) (s : List UInt8) {i : Nat} (h : NoRuns s n i) (hi : i ≤ s.length) : CodeTo (spanTxt n s) n (n + 3 + s.length + 1) (n + 3 + i) := by
  induction h with
  | stop h =>
    obtain rfl := Nat.le_antisymm hi h
    exact .skip (spanTxt_sp n s) (by decide) (.hit (spanTxt_back n s))
  | @step i hi' hm t ih =>
    have hle := tickRun_le (s := s) (i := i) (by omega)
    by_cases h0 : tickRun s i = 0
    · rw [h0] at ih
      have hc : s[i]? = some s[i] := by simp [hi']
      refine .skip (c := s[i]) ((spanTxt_at n s i hi').trans hc) (fun e => ?_) (ih (by omega))
      have := tickRun_end (s := s) (i := i)
      rw [h0, Nat.add_zero, hc, e] at this
      exact this rfl
    · have e1 : max (tickRun s i) 1 = tickRun s i := by omega
      rw [e1] at ih
      refine .run (by rw [spanTxt_run n s hi']; omega) (by rw [spanTxt_run n s hi']; exact hm) ?_
      rw [spanTxt_run n s hi', show n + 3 + i + tickRun s i = n + 3 + (i + tickRun s i) from Nat.add_assoc _ _ _]
      exact ih hle

theorem spanTxt_mid (n : Nat) (s : List UInt8) : ((spanTxt n s).take (n + 3 + s.length + 1)).drop (2 + n) = 32 :: (s ++ [32]) := by
  have e : spanTxt n s = ([97, 32] ++ List.replicate n 96) ++ ((32 :: (s ++ [32])) ++ List.replicate n 96) := by
    unfold spanTxt; simp
  rw [e, show n + 3 + s.length + 1 = ([97, 32] ++ List.replicate n (96 : UInt8)).length + (s.length + 2) by simp; omega, List.take_length_add_append,
    List.drop_left' (by simp; omega), List.take_left' (by simp)]

end Go.Proofs.YtbfmmikllelfeaaGreatDoor

/- HTML's signs. -/
namespace Go.Proofs.YtbfmmikllelfeaaGreatDoor
open Go.RowKit

theorem u8_lt {a b : UInt8} : decide ((a.toNat : Int) < (b.toNat : Int)) = decide (a < b) := by
  rw [decide_eq_decide, UInt8.lt_iff_toNat_lt]
  omega

theorem html_put (c : UInt8) : htmlPairs.put c = if c = 38 then [38, 97, 109, 112, 59] else if c = 60 then [38, 108, 116, 59] else if c = 62 then [38, 103, 116, 59] else if c = 34 then [38, 113, 117, 111, 116, 59] else [c] := by
  unfold Pairs.put htmlPairs
  simp only [List.find?_cons, List.find?_nil]
  by_cases h1 : c = 38
  · subst h1; rfl
  by_cases h2 : c = 60
  · subst h2; rfl
  by_cases h3 : c = 62
  · subst h3; rfl
  by_cases h4 : c = 34
  · subst h4; rfl
  rw [if_neg h1, if_neg h2, if_neg h3, if_neg h4, show ((34 : UInt8) == c) = false from by simpa using Ne.symm h4, show ((38 : UInt8) == c) = false from by simpa using Ne.symm h1, show ((60 : UInt8) == c) = false from by simpa using Ne.symm h2, show ((62 : UInt8) == c) = false from by simpa using Ne.symm h3]

theorem html_put_len (c : UInt8) : (htmlPairs.put c).length ≤ 6 := by
  rw [html_put]
  split
  · decide
  · split
    · decide
    · split
      · decide
      · split <;> simp
theorem html_esc_len (s : List UInt8) : (htmlPairs.esc s).length ≤ 6 * s.length := by
  induction s with
  | nil => exact Nat.zero_le _
  | cons a t ih =>
    have h1 := html_put_len a
    unfold Pairs.esc at *
    rw [List.flatMap_cons, List.length_append, List.length_cons]
    omega

set_option maxRecDepth 100000 in
set_option maxHeartbeats 1000000 in
theorem EscapeHTML_w (s : List UInt8) (w : World) (hs : s.length ≤ 1000000000) :
    Calls Tryz.prog 26 #[.string (B.bs s)] w fun e w' => e = .returned (.string (B.bs (htmlPairs.esc s))) ∧ w = w' := by
  have hz : (B.bs s).size = s.length := rfl
  go_enter Tryz.func26, Tryz.ntmps26
  go_wp2
  go_loopw [3, 4] (fun o i wr => ∃ k : Nat, k ≤ s.length ∧ i = .int .i64 k ∧ o = .string (B.bs (htmlPairs.esc (s.take k))) ∧ w = wr) (fun _ i _ => s.length - (intOf i).toNat)
  case atStart => exact ⟨0, Nat.zero_le _, rfl, rfl, rfl⟩
  case round =>
    obtain ⟨k, hk, rfl, rfl, rfl⟩ := hrel
    by_cases hlt : k < s.length
    · have hts := htmlPairs.esc_take s k hlt
      have hle := html_esc_len (s.take k)
      rw [List.length_take, Nat.min_eq_left hk] at hle
      generalize hc : s[k] = c at hts
      have hix : ∀ h, (B.bs s)[k]'h = c := fun _ => hc
      rw [html_put] at hts
      have hadd : ∀ x : List UInt8, x.length ≤ 6 → (Op.stringOp .add (B.bs (htmlPairs.esc (s.take k))) (B.bs x)).run Tryz.prog w = .ok (.string (B.bs (htmlPairs.esc (s.take k) ++ x))) w := fun x hx => by
        rw [run_string_add_sum (P := Tryz.prog) w _ _ (by rw [B.bs_size, B.bs_size]; omega), B.append]
      have hex : (B.bs s).extract k (k + 1) = B.bs [c] := by
        rw [B.extract_bs, B.bs_data, List.drop_eq_getElem_cons hlt, hc]
        simp
      have HTS := Lib.hid hts
      clear hts hle
      by_cases h1 : c = 38
      · subst h1
        have ha : (Op.stringOp .add (B.bs (htmlPairs.esc (s.take k))) ⟨#[38, 97, 109, 112, 59]⟩).run Tryz.prog w = _ := hadd [38, 97, 109, 112, 59] (by decide)
        clear hadd
        go_wp2
        go_roundw
        case rel => exact ⟨k + 1, by omega, by go_num, by rw [HTS.out]; rfl, by first | trivial | rfl⟩
        case measure => simp [intOf]; omega
      by_cases h2 : c = 60
      · subst h2
        have ha : (Op.stringOp .add (B.bs (htmlPairs.esc (s.take k))) ⟨#[38, 108, 116, 59]⟩).run Tryz.prog w = _ := hadd [38, 108, 116, 59] (by decide)
        clear hadd
        go_wp2
        go_roundw
        case rel => exact ⟨k + 1, by omega, by go_num, by rw [HTS.out]; rfl, by first | trivial | rfl⟩
        case measure => simp [intOf]; omega
      by_cases h3 : c = 62
      · subst h3
        have ha : (Op.stringOp .add (B.bs (htmlPairs.esc (s.take k))) ⟨#[38, 103, 116, 59]⟩).run Tryz.prog w = _ := hadd [38, 103, 116, 59] (by decide)
        clear hadd
        go_wp2
        go_roundw
        case rel => exact ⟨k + 1, by omega, by go_num, by rw [HTS.out]; rfl, by first | trivial | rfl⟩
        case measure => simp [intOf]; omega
      by_cases h4 : c = 34
      · subst h4
        have ha : (Op.stringOp .add (B.bs (htmlPairs.esc (s.take k))) ⟨#[38, 113, 117, 111, 116, 59]⟩).run Tryz.prog w = _ := hadd [38, 113, 117, 111, 116, 59] (by decide)
        clear hadd
        go_wp2
        go_roundw
        case rel => exact ⟨k + 1, by omega, by go_num, by rw [HTS.out]; rfl, by first | trivial | rfl⟩
        case measure => simp [intOf]; omega
      have e1 : ((c.toNat : Int) == 38) = false := u8_ne (b := 38) h1
      have e2 : ((c.toNat : Int) == 60) = false := u8_ne (b := 60) h2
      have e3 : ((c.toNat : Int) == 62) = false := u8_ne (b := 62) h3
      have e4 : ((c.toNat : Int) == 34) = false := u8_ne (b := 34) h4
      have ha := hadd [c] (by simp)
      clear hadd
      go_wp2
      go_roundw
      case rel => exact ⟨k + 1, by omega, by go_num, by rw [HTS.out, if_neg h1, if_neg h2, if_neg h3, if_neg h4], by first | trivial | rfl⟩
      case measure => simp [intOf]; omega
    · obtain rfl : k = s.length := by omega
      rw [List.take_of_length_le (Nat.le_refl _)]
      go_wp2
      go_ret
      first | exact ⟨rfl, rfl⟩ | simp

end Go.Proofs.YtbfmmikllelfeaaGreatDoor
