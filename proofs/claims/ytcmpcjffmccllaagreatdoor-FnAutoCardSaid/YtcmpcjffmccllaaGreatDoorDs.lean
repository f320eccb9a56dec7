/- The text of FnSmartDash: words, its line, its inlines, its HTML. -/
import Derived.Test.YtcmpcjffmccllaaGreatDoorQ5
import Derived.Test.YtcmpcjffmccllaaGreatDoorIx
namespace Go.Proofs.YtcmpcjffmccllaaGreatDoor
open Go.RowKit

def alph : List UInt8 := [97, 98, 122, 48, 49, 57]

theorem alph_cases {c : UInt8} (h : c ∈ alph) : c = 97 ∨ c = 98 ∨ c = 122 ∨ c = 48 ∨ c = 49 ∨ c = 57 := by
  unfold alph at h
  simpa using h

theorem alph_mark {c : UInt8} (h : c ∈ alph) : NoMark c := by
  rcases alph_cases h with rfl | rfl | rfl | rfl | rfl | rfl <;> constructor <;> decide
theorem alph_still {o : Opt} {c : UInt8} (h : c ∈ alph) : loud o c = false := by
  rcases alph_cases h with rfl | rfl | rfl | rfl | rfl | rfl <;> exact loud_still (by decide) (by decide)
theorem alph_isST {c : UInt8} (h : c ∈ alph) : B.isST c = false := by
  rcases alph_cases h with rfl | rfl | rfl | rfl | rfl | rfl <;> decide

def wordB (s : List UInt8) : Bool := decide (s ≠ []) && (decide (s.length ≤ 20) && s.all fun c => alph.contains c)

structure WordOk (s : List UInt8) : Prop where
  ne : s ≠ []
  len : s.length ≤ 20
  all : ∀ c ∈ s, c ∈ alph

theorem wordB_ok {s : List UInt8} (h : wordB s = true) : WordOk s := by
  unfold wordB at h
  rw [Bool.and_eq_true, Bool.and_eq_true, decide_eq_true_eq, decide_eq_true_eq] at h
  refine ⟨h.1, h.2.1, fun c hc => ?_⟩
  have := List.all_eq_true.1 h.2.2 c hc
  exact List.contains_iff_mem.1 this

set_option maxRecDepth 100000 in
set_option maxHeartbeats 1000000 in
theorem word_w (s : List UInt8) (w : World) (hs : s.length ≤ 1000000000000) :
    Calls Tryz.prog 17 #[.string (B.bs s)] w fun e w' => e = .returned (.bool (wordB s)) ∧ w = w' := by
  by_cases hne : s = []
  · subst hne
    have he : (B.bs ([] : List UInt8)).toList.isEmpty = true := by rw [Lib.toList_data]; rfl
    go_enter Tryz.func17, Tryz.ntmps17
    go_wp2
    go_ret
    exact ⟨rfl, rfl⟩
  · have he : (B.bs s).toList.isEmpty = false := by
      rw [Lib.toList_data, B.bs_data]
      cases s with
      | nil => exact absurd rfl hne
      | cons => rfl
    have ho := only_w s ⟨#[97, 98, 122, 48, 49, 57]⟩ 20 w (by decide) hs
    have hb : wordB s = (decide (s.length ≤ 20) && s.all fun c => alph.contains c) := by
      unfold wordB
      rw [show decide (s ≠ []) = true by simpa using hne, Bool.true_and]
    rw [hb]
    have HO := Lib.hid ho
    clear ho hb
    show Calls _ _ _ _ fun e w' => e = .returned (.bool (decide (s.length ≤ 20) && s.all fun c => (⟨#[97, 98, 122, 48, 49, 57]⟩ : ByteArray).data.toList.contains c)) ∧ w = w'
    generalize (decide (s.length ≤ 20) && s.all fun c => (⟨#[97, 98, 122, 48, 49, 57]⟩ : ByteArray).data.toList.contains c) = b at HO ⊢
    go_enter Tryz.func17, Tryz.ntmps17
    go_wp2_with fail
    refine HO.out.mono ?_
    rintro e w1 ⟨rfl, rfl⟩
    go_wp2
    go_ret
    exact ⟨rfl, rfl⟩

/-- Texts in which nothing is escaped in HTML. -/
theorem esc_id : ∀ {s : List UInt8}, (∀ c ∈ s, c ≠ 34 ∧ c ≠ 38 ∧ c ≠ 60 ∧ c ≠ 62) → htmlPairs.esc s = s
  | [], _ => rfl
  | c :: t, h => by
    obtain ⟨h1, h2, h3, h4⟩ := h c (by simp)
    show htmlPairs.put c ++ htmlPairs.esc t = _
    rw [html_put, if_neg h2, if_neg h3, if_neg h4, if_neg h1, esc_id fun x hx => h x (by simp [hx])]
    rfl

theorem txts_append (a b : List Tok) : txts (a ++ b) = txts a ++ txts b := by unfold txts; rw [List.flatMap_append]
theorem runs_small {ts : List Tok} (h : (txts ts).length ≤ 1000000) : Runs (fun r => (txts r).length ≤ 1000000) ts := by
  intro st i _ _ _
  show (txts ((ts.take i).drop st)).length ≤ _
  have e1 : txts ts = txts (ts.take i) ++ txts (ts.drop i) := by rw [← txts_append, List.take_append_drop]
  have e2 : txts (ts.take i) = txts ((ts.take i).take st) ++ txts ((ts.take i).drop st) := by rw [← txts_append, List.take_append_drop]
  have l1 := congrArg List.length e1
  have l2 := congrArg List.length e2
  rw [List.length_append] at l1 l2
  omega

theorem noDot_all {r : List UInt8} (h : ∀ x ∈ r, x ≠ 46 ∧ x ≠ 41) : NoDot r := by
  constructor <;> intro e
  · exact (h 46 (List.mem_of_getElem? e)).1 rfl
  · exact (h 41 (List.mem_of_getElem? e)).2 rfl

/-- A line that begins with a word's letter is no list's item, if behind its digits no mark stands. -/
theorem alph_item {c : UInt8} {t : List UInt8} (hc : c ∈ alph) (hl : t.length ≤ 1000000) (hno : NoDot (c :: t)) : NoItemL (LineOf (c :: t, 0)) := by
  have hok : (LineOf (c :: t, 0)).OK := lineOf_ok _ _ (by simp only [List.length_cons]; omega)
  have hh : Heads (LineOf (c :: t, 0)) c := heads_lineOf (by rcases alph_cases hc with rfl | rfl | rfl | rfl | rfl | rfl <;> decide) (by rcases alph_cases hc with rfl | rfl | rfl | rfl | rfl | rfl <;> decide)
  have hno' : NoDot (LineOf (c :: t, 0)).rest := by rw [lineOf_rest]; exact hno
  rcases alph_cases hc with rfl | rfl | rfl | rfl | rfl | rfl
  · exact noItemL hok hh (by unfold Ln.noItem; decide)
  · exact noItemL hok hh (by unfold Ln.noItem; decide)
  · exact noItemL hok hh (by unfold Ln.noItem; decide)
  · exact noItemL_dig hok hh (.inl rfl) hno'
  · exact noItemL_dig hok hh (.inr (.inl rfl)) hno'
  · exact noItemL_dig hok hh (.inr (.inr rfl)) hno'

/-- A text of one line that begins with a word. -/
theorem word_text {s t : List UInt8} (hs : WordOk s) (hl : (s ++ t).length ≤ 1000000) (hno : ∀ x ∈ t, x ≠ 10 ∧ x ≠ 13) (hd : NoDot (s ++ t)) : ∃ c u, s ++ t = c :: u ∧ PaText (s ++ t) c u ∧ B.isST c = false := by
  obtain ⟨c, s', rfl⟩ : ∃ c s', s = c :: s' := by
    cases s with
    | nil => exact absurd rfl hs.ne
    | cons c s' => exact ⟨c, s', rfl⟩
  have hc := hs.all c (by simp)
  refine ⟨c, s' ++ t, rfl, ?_, alph_isST hc⟩
  have hal : ∀ x ∈ c :: (s' ++ t), x ≠ 10 ∧ x ≠ 13 := by
    intro x hx
    rcases List.mem_append.1 (show x ∈ (c :: s') ++ t from hx) with hx | hx
    · rcases alph_cases (hs.all x hx) with rfl | rfl | rfl | rfl | rfl | rfl <;> decide
    · exact hno x hx
  have hl' : (s' ++ t).length ≤ 1000000 := by
    have : (c :: (s' ++ t)).length ≤ 1000000 := hl
    simp only [List.length_cons] at this
    omega
  exact pa_text hl' (by rcases alph_cases hc with rfl | rfl | rfl | rfl | rfl | rfl <;> decide) (by rcases alph_cases hc with rfl | rfl | rfl | rfl | rfl | rfl <;> decide) (alph_mark hc) hal (alph_item hc hl' hd)

theorem word_last {s : List UInt8} (hs : WordOk s) (p : List UInt8) : ∃ d, (p ++ s).getLast? = some d ∧ B.isST d = false := by
  refine ⟨s.getLast hs.ne, ?_, alph_isST (hs.all _ (List.getLast_mem hs.ne))⟩
  rw [List.getLast?_append, List.getLast?_eq_some_getLast hs.ne]
  rfl

def dashO : Opt := ⟨false, false, false, false, false, false, true, false, false, false⟩
def dashOf (n : Nat) : List UInt8 := if n = 1 then [45] else dashTok n
def dashTxt (a g : List UInt8) (n : Nat) (b : List UInt8) : List UInt8 := a ++ (g ++ (List.replicate n 45 ++ (g ++ b)))
def dashOut (a g : List UInt8) (n : Nat) (b : List UInt8) : List UInt8 := a ++ (g ++ (dashOf n ++ (g ++ b)))

structure DashOk (a g : List UInt8) (n : Nat) (b : List UInt8) : Prop where
  a : WordOk a
  b : WordOk b
  g : g = [] ∨ g = [32]
  n : n = 1 ∨ n = 2 ∨ n = 3

theorem DashOk.mem {a g b : List UInt8} {n : Nat} (h : DashOk a g n b) : ∀ c ∈ dashTxt a g n b, c ∈ alph ∨ c = 32 ∨ c = 45 := by
  intro c hc
  have hg : ∀ c ∈ g, c = 32 := by
    intro c hc
    rcases h.g with rfl | rfl
    · cases hc
    · simpa using hc
  unfold dashTxt at hc
  simp only [List.mem_append, List.mem_replicate] at hc
  rcases hc with hc | hc | hc | hc | hc
  · exact .inl (h.a.all c hc)
  · exact .inr (.inl (hg c hc))
  · exact .inr (.inr hc.2)
  · exact .inr (.inl (hg c hc))
  · exact .inl (h.b.all c hc)

theorem DashOk.len {a g b : List UInt8} {n : Nat} (h : DashOk a g n b) : (dashTxt a g n b).length ≤ 100 := by
  have h1 := h.a.len
  have h2 := h.b.len
  have h3 : g.length ≤ 1 := by rcases h.g with rfl | rfl <;> simp
  have h4 : n ≤ 3 := by rcases h.n with h | h | h <;> omega
  unfold dashTxt
  simp; omega

theorem DashOk.text {a g b : List UInt8} {n : Nat} (h : DashOk a g n b) : ∃ c u, dashTxt a g n b = c :: u ∧ PaText (dashTxt a g n b) c u ∧ B.isST c = false := by
  have hm := h.mem
  have hl := h.len
  refine word_text h.a (by show (dashTxt a g n b).length ≤ _; omega) (fun x hx => ?_) (noDot_all fun x hx => ?_)
  · have : x ∈ dashTxt a g n b := List.mem_append_right _ hx
    rcases hm x this with h1 | rfl | rfl
    · rcases alph_cases h1 with rfl | rfl | rfl | rfl | rfl | rfl <;> decide
    · decide
    · decide
  · rcases hm x hx with h1 | rfl | rfl
    · rcases alph_cases h1 with rfl | rfl | rfl | rfl | rfl | rfl <;> decide
    · decide
    · decide

theorem DashOk.trim {a g b : List UInt8} {n : Nat} (h : DashOk a g n b) : B.trimR (B.trimL (dashTxt a g n b)) = dashTxt a g n b := by
  obtain ⟨c, u, e, _, hst⟩ := h.text
  obtain ⟨d, hd, hst2⟩ := word_last h.b (a ++ (g ++ (List.replicate n 45 ++ g)))
  have e2 : dashTxt a g n b = a ++ (g ++ (List.replicate n 45 ++ g)) ++ b := by unfold dashTxt; simp
  rw [← e2, e] at hd
  rw [e]
  exact trim_both hst hd hst2

theorem still_scan {o : Opt} {s : List UInt8} (h : ∀ c ∈ s, loud o c = false) : Scan o s 0 0 (flush s) := by
  have h0 := Scan.stop (o := o) (s := s) 0 (Nat.zero_le _)
  refine scan_still s.length 0 (Nat.le_refl _) (by omega) (fun j hj => ?_) (by rw [Nat.zero_add]; exact h0)
  rw [Nat.zero_add]
  exact ⟨s[j], by simp [hj], h _ (List.getElem_mem hj)⟩

theorem DashOk.quiet {a g b : List UInt8} {n : Nat} (h : DashOk a g n b) {o : Opt} {c : UInt8} (hc : c ∈ dashTxt a g n b) (h45 : c ≠ 45) : loud o c = false := by
  rcases h.mem c hc with h1 | rfl | rfl
  · exact alph_still h1
  · exact loud_still (by decide) (by decide)
  · exact absurd rfl h45

theorem flush_ne {s : List UInt8} (h : s ≠ []) : flush s = [.plain s] := if_neg h

theorem DashOk.ne {a g b : List UInt8} {n : Nat} (h : DashOk a g n b) : dashTxt a g n b ≠ [] := by
  intro e
  unfold dashTxt at e
  exact h.a.ne (List.append_eq_nil_iff.1 e).1

/-- Without smart dashes. -/
theorem DashOk.inlOff {a g b : List UInt8} {n : Nat} (h : DashOk a g n b) : InlOf plainO (dashTxt a g n b) [.plain (dashTxt a g n b)] := by
  have hl := h.len
  have hsc := still_scan (o := plainO) (s := dashTxt a g n b) (fun c hc => by
    by_cases h45 : c = 45
    · subst h45; decide
    · exact h.quiet hc h45)
  rw [flush_ne h.ne] at hsc
  exact inl_of_scan merges_some rfl (by omega) h.trim (by simp) hsc (runs_small (by
    show (txts [Tok.plain _]).length ≤ _
    rw [show txts [Tok.plain (dashTxt a g n b)] = dashTxt a g n b from List.append_nil _]; omega))

theorem alph_ne45 {c : UInt8} (h : c ∈ alph) : c ≠ 45 := by rcases alph_cases h with rfl | rfl | rfl | rfl | rfl | rfl <;> decide

/-- With smart dashes. -/
theorem DashOk.inlOn {a g b : List UInt8} {n : Nat} (h : DashOk a g n b) : InlOf dashO (dashTxt a g n b) [.plain (dashOut a g n b)] := by
  have hl := h.len
  have hg : ∀ c ∈ g, c = 32 := by
    intro c hc
    rcases h.g with rfl | rfl
    · cases hc
    · simpa using hc
  have hfront : ∀ j, j < (a ++ g).length → ∃ c, (dashTxt a g n b)[j]? = some c ∧ loud dashO c = false := by
    intro j hj
    have e : dashTxt a g n b = (a ++ g) ++ (List.replicate n 45 ++ (g ++ b)) := by unfold dashTxt; simp
    refine ⟨(a ++ g)[j], by rw [e, List.getElem?_append_left hj]; exact List.getElem?_eq_getElem hj, ?_⟩
    have hm : (a ++ g)[j] ∈ a ++ g := List.getElem_mem hj
    rcases List.mem_append.1 hm with hm | hm
    · exact alph_still (h.a.all _ hm)
    · rw [hg _ hm]; exact loud_still (by decide) (by decide)
  have hback : ∀ j, j < (g ++ b).length → ∃ c, (dashTxt a g n b)[(a ++ g).length + n + j]? = some c ∧ loud dashO c = false ∧ c ≠ 45 := by
    intro j hj
    have e : dashTxt a g n b = ((a ++ g) ++ List.replicate n 45) ++ (g ++ b) := by unfold dashTxt; simp
    have hp : ((a ++ g) ++ List.replicate n (45 : UInt8)).length = (a ++ g).length + n := by simp only [List.length_append, List.length_replicate]
    refine ⟨(g ++ b)[j], ?_, ?_⟩
    · rw [e, List.getElem?_append_right (by rw [hp]; omega), hp, show (a ++ g).length + n + j - ((a ++ g).length + n) = j by omega, List.getElem?_eq_getElem hj]
    · have hm : (g ++ b)[j] ∈ g ++ b := List.getElem_mem hj
      rcases List.mem_append.1 hm with hm | hm
      · exact ⟨by rw [hg _ hm]; exact loud_still (by decide) (by decide), by rw [hg _ hm]; decide⟩
      · exact ⟨alph_still (h.b.all _ hm), alph_ne45 (h.b.all _ hm)⟩
  have hmid : ∀ j, j < n → (dashTxt a g n b)[(a ++ g).length + j]? = some 45 := by
    intro j hj
    have e : dashTxt a g n b = (a ++ g) ++ (List.replicate n 45 ++ (g ++ b)) := by unfold dashTxt; simp
    rw [e, List.getElem?_append_right (by simp), List.getElem?_append_left (by simp; omega)]
    simp [hj]
  have hlen : (dashTxt a g n b).length = (a ++ g).length + n + (g ++ b).length := by unfold dashTxt; simp; omega
  have hbl : 0 < (g ++ b).length := by
    have := List.length_pos_iff.2 h.b.ne
    simp; omega
  have hnext : (dashTxt a g n b)[(a ++ g).length + n]? ≠ some 45 := by
    obtain ⟨c, h1, _, h3⟩ := hback 0 hbl
    rw [Nat.add_zero] at h1
    rw [h1]
    simpa using h3
  have hstop : ∀ e, e ≤ (a ++ g).length + n → Scan dashO (dashTxt a g n b) ((a ++ g).length + n) e (flush ((dashTxt a g n b).drop e)) := by
    intro e he
    have h0 := Scan.stop (o := dashO) (s := dashTxt a g n b) e (by omega)
    refine scan_still (g ++ b).length _ he (by omega) (fun j hj => ?_) (by rw [← hlen]; exact h0)
    obtain ⟨c, h1, h2, _⟩ := hback j hj
    exact ⟨c, h1, h2⟩
  have htake : (dashTxt a g n b).take (a ++ g).length = a ++ g := by
    have e : dashTxt a g n b = (a ++ g) ++ (List.replicate n 45 ++ (g ++ b)) := by unfold dashTxt; simp
    rw [e, List.take_left]
  have hdrop : (dashTxt a g n b).drop ((a ++ g).length + n) = g ++ b := by
    have e : dashTxt a g n b = ((a ++ g) ++ List.replicate n 45) ++ (g ++ b) := by unfold dashTxt; simp
    rw [e, List.drop_left' (by simp only [List.length_append, List.length_replicate])]
  have hagne : a ++ g ≠ [] := fun e => h.a.ne (List.append_eq_nil_iff.1 e).1
  have hgbne : g ++ b ≠ [] := fun e => h.b.ne (List.append_eq_nil_iff.1 e).2
  rcases Nat.lt_or_ge 1 n with hn | hn
  · have hn23 : n = 2 ∨ n = 3 := by rcases h.n with h | h | h <;> omega
    have hsc1 := Scan.tok (o := dashO) (s := dashTxt a g n b) (i := (a ++ g).length) (e := 0) (j := (a ++ g).length + n) (by omega) (Nat.zero_le _) (by omega) (by omega) (.dash n rfl hn23 hmid hnext) (hstop _ (Nat.le_refl _))
    have hsc := scan_still (s := dashTxt a g n b) (e := 0) (a ++ g).length 0 (Nat.le_refl _) (by omega) (fun j hj => by rw [Nat.zero_add]; exact hfront j hj) (by rw [Nat.zero_add]; exact hsc1)
    rw [htake, List.drop_zero, hdrop, flush_ne hagne, flush_ne hgbne] at hsc
    have hm : mergeT ([.plain (a ++ g)] ++ .plain (dashTok n) :: [.plain (g ++ b)]) = [.plain (dashOut a g n b)] := by
      show [Tok.plain ((a ++ g) ++ (dashTok n ++ (g ++ b)))] = _
      unfold dashOut dashOf
      rw [if_neg (by omega), List.append_assoc]
    rw [← hm]
    refine inl_of_scan merges_some rfl (by omega) h.trim (by simp) hsc (runs_small ?_)
    have e : txts ([.plain (a ++ g)] ++ .plain (dashTok n) :: [.plain (g ++ b)]) = (a ++ g) ++ (dashTok n ++ (g ++ b)) := by
      unfold txts
      simp [Tok.txt]
    rw [e]
    have hd3 : (dashTok n).length = 3 := by unfold dashTok; split <;> rfl
    simp only [List.length_append] at hlen ⊢
    omega
  · obtain rfl : n = 1 := by rcases h.n with h | h | h <;> omega
    have hsc1 := Scan.quiet (o := dashO) (s := dashTxt a g 1 b) (i := (a ++ g).length) (e := 0) (by omega) (Nat.zero_le _) (.dash rfl (by have := hmid 0 (by decide); rwa [Nat.add_zero] at this) hnext) (hstop 0 (Nat.zero_le _))
    have hsc := scan_still (s := dashTxt a g 1 b) (e := 0) (a ++ g).length 0 (Nat.le_refl _) (by omega) (fun j hj => by rw [Nat.zero_add]; exact hfront j hj) (by rw [Nat.zero_add]; exact hsc1)
    rw [List.drop_zero, flush_ne h.ne] at hsc
    have he : dashOut a g 1 b = dashTxt a g 1 b := rfl
    rw [he]
    exact inl_of_scan merges_some rfl (by omega) h.trim (by simp) hsc (runs_small (by
      show (txts [Tok.plain _]).length ≤ _
      rw [show txts [Tok.plain (dashTxt a g 1 b)] = dashTxt a g 1 b from List.append_nil _]; omega))

theorem DashOk.outLen {a g b : List UInt8} {n : Nat} (h : DashOk a g n b) : (dashOut a g n b).length ≤ 100 := by
  have h1 := h.a.len
  have h2 := h.b.len
  have h3 : g.length ≤ 1 := by rcases h.g with rfl | rfl <;> simp
  have h4 : (dashOf n).length ≤ 3 := by unfold dashOf dashTok; split <;> (try split) <;> simp
  unfold dashOut
  simp; omega

theorem DashOk.nul {a g b : List UInt8} {n : Nat} (h : DashOk a g n b) : (0 : UInt8) ∉ dashTxt a g n b := by
  intro hc
  rcases h.mem 0 hc with h1 | h1 | h1
  · rcases alph_cases h1 with h | h | h | h | h | h <;> exact absurd h (by decide)
  · exact absurd h1 (by decide)
  · exact absurd h1 (by decide)

theorem DashOk.escTxt {a g b : List UInt8} {n : Nat} (h : DashOk a g n b) : htmlPairs.esc (dashTxt a g n b) = dashTxt a g n b := esc_id fun c hc => by
  rcases h.mem c hc with h1 | rfl | rfl
  · rcases alph_cases h1 with rfl | rfl | rfl | rfl | rfl | rfl <;> decide
  · decide
  · decide

theorem DashOk.escOut {a g b : List UInt8} {n : Nat} (h : DashOk a g n b) : htmlPairs.esc (dashOut a g n b) = dashOut a g n b := esc_id fun c hc => by
  unfold dashOut at hc
  simp only [List.mem_append] at hc
  have hg : ∀ c ∈ g, c = 32 := by
    intro c hc
    rcases h.g with rfl | rfl
    · cases hc
    · simpa using hc
  have hal : ∀ c ∈ alph, c ≠ 34 ∧ c ≠ 38 ∧ c ≠ 60 ∧ c ≠ 62 := by
    intro c h1
    rcases alph_cases h1 with rfl | rfl | rfl | rfl | rfl | rfl <;> decide
  rcases hc with hc | hc | hc | hc | hc
  · exact hal c (h.a.all c hc)
  · rw [hg c hc]; decide
  · unfold dashOf dashTok at hc
    split at hc
    · simp at hc; subst hc; decide
    · split at hc
      · simp at hc; rcases hc with rfl | rfl | rfl <;> decide
      · simp at hc; rcases hc with rfl | rfl | rfl <;> decide
  · rw [hg c hc]; decide
  · exact hal c (h.b.all c hc)

theorem DashOk.off {a g b : List UInt8} {n : Nat} (h : DashOk a g n b) (G0 : Sl.HP) : PrintsP plainO.pcells G0 (B.bs (dashTxt a g n b)) (B.bs (paraHTML (dashTxt a g n b))) := by
  obtain ⟨c, u, _, ht, _⟩ := h.text
  have hl := h.len
  have hh : htmls [.plain (dashTxt a g n b)] = dashTxt a g n b := by
    show htmlPairs.esc (dashTxt a g n b) ++ [] = _
    rw [List.append_nil, h.escTxt]
  have := para_prints plainO G0 _ c u _ rfl ht h.inlOff h.nul (by simp) (fun x hx => by
    obtain rfl := List.mem_singleton.1 hx
    show (dashTxt a g n b).length ≤ _; omega) (by rw [hh]; unfold paraHTML; simp; omega)
  rw [hh] at this
  exact this

theorem DashOk.on {a g b : List UInt8} {n : Nat} (h : DashOk a g n b) (G0 : Sl.HP) : PrintsP dashO.pcells G0 (B.bs (dashTxt a g n b)) (B.bs (paraHTML (dashOut a g n b))) := by
  obtain ⟨c, u, _, ht, _⟩ := h.text
  have hl := h.outLen
  have hh : htmls [.plain (dashOut a g n b)] = dashOut a g n b := by
    show htmlPairs.esc (dashOut a g n b) ++ [] = _
    rw [List.append_nil, h.escOut]
  have := para_prints dashO G0 _ c u _ rfl ht h.inlOn h.nul (by simp) (fun x hx => by
    obtain rfl := List.mem_singleton.1 hx
    show (dashOut a g n b).length ≤ _; omega) (by rw [hh]; unfold paraHTML; simp; omega)
  rw [hh] at this
  exact this

end Go.Proofs.YtcmpcjffmccllaaGreatDoor
