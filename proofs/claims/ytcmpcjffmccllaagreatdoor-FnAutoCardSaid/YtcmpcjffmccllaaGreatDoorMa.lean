/- The text of FnMail: an address among words; its inlines with automatic links and without; its HTML. -/
import Derived.Test.YtcmpcjffmccllaaGreatDoorDs
import Derived.Test.YtcmpcjffmccllaaGreatDoorAx
namespace Go.Proofs.YtcmpcjffmccllaaGreatDoor
open Go.RowKit

def autoO : Opt := ⟨false, false, true, false, false, false, false, false, false, false⟩

def mailM (n h e : List UInt8) : List UInt8 := n ++ 64 :: (h ++ 46 :: e)
def mailTxt (a n h e b : List UInt8) : List UInt8 := a ++ 32 :: (mailM n h e ++ 32 :: b)
def mailOut (a n h e b : List UInt8) : List UInt8 := a ++ 32 :: (aOpen ++ (mailto ++ mailM n h e) ++ [34] ++ [62] ++ mailM n h e ++ [60, 47, 97, 62] ++ 32 :: b)

structure MailOk (a n h e b : List UInt8) : Prop where
  a : WordOk a
  b : WordOk b
  n : WordOk n
  h : WordOk h
  e : WordOk e

variable {a n h e b : List UInt8}

theorem noDot_word : ∀ {a : List UInt8} (r : List UInt8), (∀ c ∈ a, c ≠ 46 ∧ c ≠ 41) → NoDot (a ++ 32 :: r)
  | [], r, _ => by
    have : (([] : List UInt8) ++ 32 :: r).takeWhile isDg = [] := by
      rw [List.nil_append, List.takeWhile_cons_of_neg (by decide)]
    unfold NoDot
    rw [this]
    exact ⟨by simp, by simp⟩
  | c :: t, r, hc => by
    by_cases hd : isDg c = true
    · have ih := noDot_word (a := t) r fun x hx => hc x (List.mem_cons_of_mem _ hx)
      have : (c :: t ++ 32 :: r).takeWhile isDg = c :: (t ++ 32 :: r).takeWhile isDg := by
        rw [List.cons_append, List.takeWhile_cons_of_pos hd]
      unfold NoDot at ih ⊢
      rw [this, List.length_cons, List.cons_append, List.getElem?_cons_succ]
      exact ih
    · have : (c :: t ++ 32 :: r).takeWhile isDg = [] := by
        rw [List.cons_append, List.takeWhile_cons_of_neg hd]
      have h1 := hc c (by simp)
      unfold NoDot
      rw [this]
      exact ⟨by simpa using h1.1, by simpa using h1.2⟩

theorem MailOk.mem (h1 : MailOk a n h e b) : ∀ c ∈ mailTxt a n h e b, c ∈ alph ∨ c = 32 ∨ c = 64 ∨ c = 46 := by
  intro c hc
  unfold mailTxt mailM at hc
  simp only [List.mem_append, List.mem_cons] at hc
  rcases hc with hc | hc | ((hc | hc | hc | hc | hc) | hc | hc)
  · exact .inl (h1.a.all c hc)
  · exact .inr (.inl hc)
  · exact .inl (h1.n.all c hc)
  · exact .inr (.inr (.inl hc))
  · exact .inl (h1.h.all c hc)
  · exact .inr (.inr (.inr hc))
  · exact .inl (h1.e.all c hc)
  · exact .inr (.inl hc)
  · exact .inl (h1.b.all c hc)

theorem MailOk.memM (h1 : MailOk a n h e b) : ∀ c ∈ mailM n h e, c ∈ alph ∨ c = 64 ∨ c = 46 := by
  intro c hc
  unfold mailM at hc
  simp only [List.mem_append, List.mem_cons] at hc
  rcases hc with hc | hc | hc | hc | hc
  · exact .inl (h1.n.all c hc)
  · exact .inr (.inl hc)
  · exact .inl (h1.h.all c hc)
  · exact .inr (.inr hc)
  · exact .inl (h1.e.all c hc)

theorem MailOk.lenM (h1 : MailOk a n h e b) : (mailM n h e).length ≤ 62 := by
  have := h1.n.len; have := h1.h.len; have := h1.e.len
  unfold mailM
  simp only [List.length_append, List.length_cons]; omega

theorem MailOk.len (h1 : MailOk a n h e b) : (mailTxt a n h e b).length ≤ 110 := by
  have := h1.a.len; have := h1.b.len; have := h1.lenM
  unfold mailTxt
  simp only [List.length_append, List.length_cons]; omega

theorem MailOk.ne (_ : MailOk a n h e b) : mailTxt a n h e b ≠ [] := by
  unfold mailTxt
  intro e
  have := (List.append_eq_nil_iff.1 e).2
  cases this

theorem MailOk.text (h1 : MailOk a n h e b) : ∃ c u, mailTxt a n h e b = c :: u ∧ PaText (mailTxt a n h e b) c u ∧ B.isST c = false := by
  have hm := h1.mem
  have hl := h1.len
  refine word_text h1.a (by show (mailTxt a n h e b).length ≤ _; omega) (fun x hx => ?_) (noDot_word _ fun c hc => ?_)
  · rcases hm x (List.mem_append_right _ hx) with h1 | rfl | rfl | rfl
    · rcases alph_cases h1 with rfl | rfl | rfl | rfl | rfl | rfl <;> decide
    · decide
    · decide
    · decide
  · rcases alph_cases (h1.a.all c hc) with rfl | rfl | rfl | rfl | rfl | rfl <;> decide

theorem MailOk.trim (h1 : MailOk a n h e b) : B.trimR (B.trimL (mailTxt a n h e b)) = mailTxt a n h e b := by
  obtain ⟨c, u, e1, _, hst⟩ := h1.text
  obtain ⟨d, hd, hst2⟩ := word_last h1.b (a ++ 32 :: (mailM n h e ++ [32]))
  have e2 : mailTxt a n h e b = a ++ 32 :: (mailM n h e ++ [32]) ++ b := by unfold mailTxt; simp
  rw [← e2, e1] at hd
  rw [e1]
  exact trim_both hst hd hst2

theorem MailOk.scan (h1 : MailOk a n h e b) (o : Opt) (ho : o.dots = false) : Scan o (mailTxt a n h e b) 0 0 [.plain (mailTxt a n h e b)] := by
  have hsc := still_scan (o := o) (s := mailTxt a n h e b) (fun c hc => by
    rcases h1.mem c hc with h2 | rfl | rfl | rfl
    · exact alph_still h2
    · exact loud_still (by decide) (by decide)
    · unfold loud; simp
    · unfold loud; simp [ho])
  rw [flush_ne h1.ne] at hsc
  exact hsc

theorem MailOk.runs (h1 : MailOk a n h e b) : Runs (fun r => (txts r).length ≤ 1000000) [.plain (mailTxt a n h e b)] := runs_small (by
  have := h1.len
  show (txts [Tok.plain _]).length ≤ _
  rw [show txts [Tok.plain (mailTxt a n h e b)] = mailTxt a n h e b from List.append_nil _]; omega)

theorem MailOk.inlOff (h1 : MailOk a n h e b) : InlOf plainO (mailTxt a n h e b) [.plain (mailTxt a n h e b)] :=
  inl_of_scan merges_some rfl (by have := h1.len; omega) h1.trim (by simp) (h1.scan plainO rfl) h1.runs

theorem get_mid {p r : List UInt8} {c : UInt8} {k : Nat} (h : k = p.length) : (p ++ c :: r)[k]? = some c := by
  subst h
  rw [List.getElem?_append_right (Nat.le_refl _), Nat.sub_self]; rfl

theorem get_in {p m r : List UInt8} {k : Nat} (h1 : p.length ≤ k) (h2 : k < p.length + m.length) : ∃ c, (p ++ (m ++ r))[k]? = some c ∧ c ∈ m := by
  refine ⟨m[k - p.length]'(by omega), ?_, List.getElem_mem _⟩
  rw [List.getElem?_append_right h1, List.getElem?_append_left (by omega)]
  exact List.getElem?_eq_getElem _

theorem alph_alnum {c : UInt8} (h : c ∈ alph) : alnum c = true := by
  rcases alph_cases h with rfl | rfl | rfl | rfl | rfl | rfl <;> decide

theorem MailOk.at_ (h1 : MailOk a n h e b) : MailAt (mailTxt a n h e b) (a.length + 1) (a.length + 1 + n.length) (a.length + 1 + n.length + 1 + h.length) (a.length + 1 + n.length + 1 + h.length + 1 + e.length) := by
  have ln := List.length_pos_iff.2 h1.n.ne
  have lh := List.length_pos_iff.2 h1.h.ne
  have le := List.length_pos_iff.2 h1.e.ne
  have hl := h1.len
  have e0 : mailTxt a n h e b = a ++ 32 :: (mailM n h e ++ 32 :: b) := rfl
  have e1 : mailTxt a n h e b = (a ++ [32]) ++ (n ++ (64 :: (h ++ 46 :: e) ++ 32 :: b)) := by unfold mailTxt mailM; simp
  have e2 : mailTxt a n h e b = (a ++ [32] ++ n) ++ 64 :: ((h ++ 46 :: e) ++ 32 :: b) := by unfold mailTxt mailM; simp
  have e3 : mailTxt a n h e b = (a ++ [32] ++ n ++ [64]) ++ (h ++ (46 :: e ++ 32 :: b)) := by unfold mailTxt mailM; simp
  have e4 : mailTxt a n h e b = (a ++ [32] ++ n ++ [64] ++ h) ++ 46 :: (e ++ 32 :: b) := by unfold mailTxt mailM; simp
  have e5 : mailTxt a n h e b = (a ++ [32] ++ n ++ [64] ++ h ++ [46]) ++ (e ++ 32 :: b) := by unfold mailTxt mailM; simp
  have e6 : mailTxt a n h e b = (a ++ [32] ++ n ++ [64] ++ h ++ [46] ++ e) ++ 32 :: b := by unfold mailTxt mailM; simp
  refine ⟨by omega, by omega, by omega, by omega, ?_, by omega, ?_, ?_, ?_, ?_, ?_, ?_, ?_⟩
  · rw [e6]; simp; omega
  · rw [e0]; exact get_mid (by omega)
  · intro k k1 k2
    rw [e1]
    obtain ⟨c, hc, hm⟩ := get_in (p := a ++ [32]) (m := n) (r := 64 :: (h ++ 46 :: e) ++ 32 :: b) (k := k) (by simp; omega) (by simp; omega)
    exact ⟨c, hc, alph_alnum (h1.n.all c hm)⟩
  · rw [e2]; exact get_mid (by simp; omega)
  · intro k k1 k2
    rw [e3]
    obtain ⟨c, hc, hm⟩ := get_in (p := a ++ [32] ++ n ++ [64]) (m := h) (r := 46 :: e ++ 32 :: b) (k := k) (by simp; omega) (by simp; omega)
    exact ⟨c, hc, alph_alnum (h1.h.all c hm)⟩
  · rw [e4]; exact get_mid (by simp; omega)
  · intro k k1 k2
    rw [e5]
    obtain ⟨c, hc, hm⟩ := get_in (p := a ++ [32] ++ n ++ [64] ++ h ++ [46]) (m := e) (r := 32 :: b) (k := k) (by simp; omega) (by simp; omega)
    exact ⟨c, hc, alph_alnum (h1.e.all c hm)⟩
  · rw [e6]; exact get_mid (by simp; omega)

theorem MailOk.calm (h1 : MailOk a n h e b) : Calm (mailTxt a n h e b) := by
  intro k c hk
  rcases h1.mem c (List.mem_of_getElem? hk) with h2 | rfl | rfl | rfl
  · rcases alph_cases h2 with rfl | rfl | rfl | rfl | rfl | rfl <;> decide
  · decide
  · decide
  · decide

theorem MailOk.only (h1 : MailOk a n h e b) : ∀ k c, (mailTxt a n h e b)[k]? = some c → k ≠ a.length + 1 + n.length → ((c.toNat : Int) == 64) = false := by
  intro k c hk hne
  have hal : ∀ {c : UInt8}, c ∈ alph ∨ c = 32 ∨ c = 46 → ((c.toNat : Int) == 64) = false := by
    intro c hc
    rcases hc with hc | rfl | rfl
    · rcases alph_cases hc with rfl | rfl | rfl | rfl | rfl | rfl <;> decide
    · decide
    · decide
  apply hal
  have e2 : mailTxt a n h e b = (a ++ [32] ++ n) ++ (64 :: ((h ++ 46 :: e) ++ 32 :: b)) := by unfold mailTxt mailM; simp
  rw [e2] at hk
  have hp : (a ++ [32] ++ n).length = a.length + 1 + n.length := by simp; omega
  by_cases hlt : k < (a ++ [32] ++ n).length
  · rw [List.getElem?_append_left hlt] at hk
    have hm := List.mem_of_getElem? hk
    simp only [List.mem_append, List.mem_singleton] at hm
    rcases hm with (hm | hm) | hm
    · exact .inl (h1.a.all c hm)
    · exact .inr (.inl hm)
    · exact .inl (h1.n.all c hm)
  · rw [List.getElem?_append_right (by omega)] at hk
    obtain ⟨j, hj⟩ : ∃ j, k - (a ++ [32] ++ n).length = j + 1 := ⟨k - (a ++ [32] ++ n).length - 1, by omega⟩
    rw [hj, List.getElem?_cons_succ] at hk
    have hm := List.mem_of_getElem? hk
    simp only [List.mem_append, List.mem_cons] at hm
    rcases hm with (hm | hm | hm) | hm | hm
    · exact .inl (h1.h.all c hm)
    · exact .inr (.inr hm)
    · exact .inl (h1.e.all c hm)
    · exact .inr (.inl hm)
    · exact .inl (h1.b.all c hm)

def mailToks (a n h e b : List UInt8) : List Tok := [.plain (a ++ [32]), .link (mailto ++ mailM n h e) (mailM n h e), .plain (32 :: b)]

theorem MailOk.inlOn (h1 : MailOk a n h e b) : InlOf autoO (mailTxt a n h e b) (mailToks a n h e b) := by
  have hA := autoOf_mail autoO rfl _ _ _ _ _ h1.at_ h1.calm h1.only
  have e1 : mailTxt a n h e b = (a ++ [32]) ++ (mailM n h e ++ 32 :: b) := by unfold mailTxt; simp
  have e6 : mailTxt a n h e b = ((a ++ [32]) ++ mailM n h e) ++ 32 :: b := by unfold mailTxt; simp
  have lm : ((a ++ [32]) ++ mailM n h e).length = a.length + 1 + n.length + 1 + h.length + 1 + e.length := by unfold mailM; simp; omega
  have la : (a ++ [32]).length = a.length + 1 := by simp
  have t1 : (mailTxt a n h e b).take (a.length + 1) = a ++ [32] := by rw [e1, ← la, List.take_left]
  have t2 : (mailTxt a n h e b).take (a.length + 1 + n.length + 1 + h.length + 1 + e.length) = (a ++ [32]) ++ mailM n h e := by rw [e6, ← lm, List.take_left]
  have t3 : (mailTxt a n h e b).drop (a.length + 1 + n.length + 1 + h.length + 1 + e.length) = 32 :: b := by rw [e6, ← lm, List.drop_left]
  rw [t1, t2, t3, ← la, List.drop_left] at hA
  exact inl_of_scanA (ts := [.plain (mailTxt a n h e b)]) merges_some hA (by have := h1.len; omega) h1.trim (by simp) (h1.scan autoO rfl) h1.runs

theorem MailOk.nul (h1 : MailOk a n h e b) : (0 : UInt8) ∉ mailTxt a n h e b := by
  intro hc
  rcases h1.mem 0 hc with h1 | h1 | h1 | h1
  · rcases alph_cases h1 with h | h | h | h | h | h <;> exact absurd h (by decide)
  · exact absurd h1 (by decide)
  · exact absurd h1 (by decide)
  · exact absurd h1 (by decide)

theorem plain_ne {c : UInt8} (h : c ∈ alph ∨ c = 32 ∨ c = 64 ∨ c = 46) : c ≠ 34 ∧ c ≠ 38 ∧ c ≠ 60 ∧ c ≠ 62 := by
  rcases h with h | rfl | rfl | rfl
  · rcases alph_cases h with rfl | rfl | rfl | rfl | rfl | rfl <;> decide
  · decide
  · decide
  · decide

theorem MailOk.esc (h1 : MailOk a n h e b) : htmlPairs.esc (mailTxt a n h e b) = mailTxt a n h e b := esc_id fun c hc => plain_ne (h1.mem c hc)
theorem MailOk.escM (h1 : MailOk a n h e b) : htmlPairs.esc (mailM n h e) = mailM n h e := esc_id fun c hc => plain_ne ((h1.memM c hc).imp_right .inr)
theorem MailOk.escA (h1 : MailOk a n h e b) : htmlPairs.esc (a ++ [32]) = a ++ [32] := esc_id fun c hc => plain_ne (by
  rcases List.mem_append.1 hc with hc | hc
  · exact .inl (h1.a.all c hc)
  · exact .inr (.inl (List.mem_singleton.1 hc)))
theorem MailOk.escB (h1 : MailOk a n h e b) : htmlPairs.esc (32 :: b) = 32 :: b := esc_id fun c hc => plain_ne (by
  rcases List.mem_cons.1 hc with hc | hc
  · exact .inr (.inl hc)
  · exact .inl (h1.b.all c hc))

theorem link_id : ∀ {s : List UInt8}, (∀ c ∈ s, linkPairs.put c = [c]) → linkPairs.esc s = s
  | [], _ => rfl
  | c :: t, h => by
    show linkPairs.put c ++ linkPairs.esc t = _
    rw [h c (by simp), link_id fun x hx => h x (by simp [hx])]
    rfl

theorem MailOk.escU (h1 : MailOk a n h e b) : linkPairs.esc (mailto ++ mailM n h e) = mailto ++ mailM n h e := link_id fun c hc => by
  rcases List.mem_append.1 hc with hc | hc
  · unfold mailto at hc
    simp only [List.mem_cons, List.not_mem_nil, or_false] at hc
    rcases hc with rfl | rfl | rfl | rfl | rfl | rfl | rfl <;> rfl
  · rcases h1.memM c hc with h2 | rfl | rfl
    · rcases alph_cases h2 with rfl | rfl | rfl | rfl | rfl | rfl <;> rfl
    · rfl
    · rfl

theorem MailOk.html (h1 : MailOk a n h e b) : htmls (mailToks a n h e b) = mailOut a n h e b := by
  have h2 : htmls (mailToks a n h e b) = htmlPairs.esc (a ++ [32]) ++ ((aOpen ++ linkPairs.esc (mailto ++ mailM n h e) ++ [34] ++ [62] ++ htmlPairs.esc (mailM n h e) ++ [60, 47, 97, 62]) ++ (htmlPairs.esc (32 :: b) ++ [])) := rfl
  rw [h2, h1.escA, h1.escB, h1.escM, h1.escU, List.append_nil]
  unfold mailOut
  simp

theorem MailOk.off (h1 : MailOk a n h e b) (G0 : Sl.HP) : PrintsP plainO.pcells G0 (B.bs (mailTxt a n h e b)) (B.bs (paraHTML (mailTxt a n h e b))) := by
  obtain ⟨c, u, _, ht, _⟩ := h1.text
  have hl := h1.len
  have hh : htmls [.plain (mailTxt a n h e b)] = mailTxt a n h e b := by
    show htmlPairs.esc (mailTxt a n h e b) ++ [] = _
    rw [List.append_nil, h1.esc]
  have := para_prints plainO G0 _ c u _ rfl ht h1.inlOff h1.nul (by simp) (fun x hx => by
    obtain rfl := List.mem_singleton.1 hx
    show (mailTxt a n h e b).length ≤ _; omega) (by rw [hh]; unfold paraHTML; simp; omega)
  rw [hh] at this
  exact this

theorem MailOk.outLen (h1 : MailOk a n h e b) : (mailOut a n h e b).length ≤ 300 := by
  have := h1.a.len; have := h1.b.len; have := h1.lenM
  unfold mailOut aOpen mailto
  simp only [List.length_append, List.length_cons, List.length_nil]; omega

theorem MailOk.on (h1 : MailOk a n h e b) (G0 : Sl.HP) : PrintsP autoO.pcells G0 (B.bs (mailTxt a n h e b)) (B.bs (paraHTML (mailOut a n h e b))) := by
  obtain ⟨c, u, _, ht, _⟩ := h1.text
  have hl := h1.outLen
  have := para_prints autoO G0 _ c u _ rfl ht h1.inlOn h1.nul (by unfold mailToks; simp) (fun x hx => by
    have := h1.lenM; have := h1.a.len; have := h1.b.len
    unfold mailToks at hx
    simp only [List.mem_cons, List.not_mem_nil, or_false] at hx
    rcases hx with rfl | rfl | rfl
    · show (a ++ [32]).length ≤ _
      simp; omega
    · show (mailto ++ mailM n h e ++ mailM n h e).length ≤ _
      unfold mailto
      simp; omega
    · show (32 :: b).length ≤ _
      simp; omega) (by rw [h1.html]; unfold paraHTML; simp; omega)
  rw [h1.html] at this
  exact this

end Go.Proofs.YtcmpcjffmccllaaGreatDoor
