/- The text of FnAuto: an address that begins with http among words; its inlines with automatic links and without; its HTML. -/
import Derived.Test.YtcmpcjffmccllaaGreatDoorMa
import Derived.Test.YtcmpcjffmccllaaGreatDoorAy
namespace Go.Proofs.YtcmpcjffmccllaaGreatDoor
open Go.RowKit

def httpM (q : Bool) (d e p : List UInt8) : List UInt8 := httpS q ++ (d ++ 46 :: (e ++ 47 :: p))
def httpTxt (a : List UInt8) (q : Bool) (d e p b : List UInt8) : List UInt8 := a ++ 32 :: (httpM q d e p ++ 32 :: b)
def httpOut (a : List UInt8) (q : Bool) (d e p b : List UInt8) : List UInt8 := a ++ 32 :: (aOpen ++ httpM q d e p ++ [34] ++ [62] ++ httpM q d e p ++ [60, 47, 97, 62] ++ 32 :: b)

structure HttpOk (a d e p b : List UInt8) : Prop where
  a : WordOk a
  b : WordOk b
  d : WordOk d
  e : WordOk e
  pl : p.length ≤ 20
  pm : ∀ c ∈ p, c = 97 ∨ c = 98 ∨ c = 47

variable {a d e p b : List UInt8} {q : Bool}

/-- The signs of the text beside the words' letters. -/
def extra : List UInt8 := [32, 104, 116, 112, 115, 58, 47, 46]

theorem extra_cases {c : UInt8} (h : c ∈ extra) : c = 32 ∨ c = 104 ∨ c = 116 ∨ c = 112 ∨ c = 115 ∨ c = 58 ∨ c = 47 ∨ c = 46 := by
  unfold extra at h
  simpa using h

theorem httpS_mem {c : UInt8} (h : c ∈ httpS q) : c ∈ extra := by
  cases q
  · have h2 : c ∈ ([104, 116, 116, 112, 58, 47, 47] : List UInt8) := h
    simp only [List.mem_cons, List.not_mem_nil, or_false] at h2
    rcases h2 with rfl | rfl | rfl | rfl | rfl | rfl | rfl <;> decide
  · have h2 : c ∈ ([104, 116, 116, 112, 115, 58, 47, 47] : List UInt8) := h
    simp only [List.mem_cons, List.not_mem_nil, or_false] at h2
    rcases h2 with rfl | rfl | rfl | rfl | rfl | rfl | rfl | rfl <;> decide

theorem httpS_len : (httpS q).length ≤ 8 ∧ 0 < (httpS q).length := by cases q <;> decide

theorem HttpOk.path (h1 : HttpOk a d e p b) {c : UInt8} (hc : c ∈ p) : c ∈ alph ∨ c ∈ extra := by
  rcases h1.pm c hc with rfl | rfl | rfl
  · exact .inl (by decide)
  · exact .inl (by decide)
  · exact .inr (by decide)

theorem HttpOk.memM (h1 : HttpOk a d e p b) : ∀ c ∈ httpM q d e p, c ∈ alph ∨ c ∈ extra := by
  intro c hc
  unfold httpM at hc
  simp only [List.mem_append, List.mem_cons] at hc
  rcases hc with hc | hc | hc | hc | hc | hc
  · exact .inr (httpS_mem hc)
  · exact .inl (h1.d.all c hc)
  · exact .inr (by rw [hc]; decide)
  · exact .inl (h1.e.all c hc)
  · exact .inr (by rw [hc]; decide)
  · exact h1.path hc

theorem HttpOk.mem (h1 : HttpOk a d e p b) : ∀ c ∈ httpTxt a q d e p b, c ∈ alph ∨ c ∈ extra := by
  intro c hc
  unfold httpTxt at hc
  simp only [List.mem_append, List.mem_cons] at hc
  rcases hc with hc | hc | hc | hc | hc
  · exact .inl (h1.a.all c hc)
  · exact .inr (by rw [hc]; decide)
  · exact h1.memM c hc
  · exact .inr (by rw [hc]; decide)
  · exact .inl (h1.b.all c hc)

theorem HttpOk.lenM (h1 : HttpOk a d e p b) : (httpM q d e p).length ≤ 70 := by
  have := h1.d.len; have := h1.e.len; have := h1.pl; have := (httpS_len (q := q)).1
  unfold httpM
  simp only [List.length_append, List.length_cons]; omega

theorem HttpOk.len (h1 : HttpOk a d e p b) : (httpTxt a q d e p b).length ≤ 120 := by
  have := h1.a.len; have := h1.b.len; have := h1.lenM (q := q)
  unfold httpTxt
  simp only [List.length_append, List.length_cons]; omega

theorem HttpOk.ne (_ : HttpOk a d e p b) : httpTxt a q d e p b ≠ [] := by
  unfold httpTxt
  intro e
  have := (List.append_eq_nil_iff.1 e).2
  cases this

theorem HttpOk.text (h1 : HttpOk a d e p b) : ∃ c u, httpTxt a q d e p b = c :: u ∧ PaText (httpTxt a q d e p b) c u ∧ B.isST c = false := by
  have hm := h1.mem (q := q)
  have hl := h1.len (q := q)
  refine word_text h1.a (by show (httpTxt a q d e p b).length ≤ _; omega) (fun x hx => ?_) (noDot_word _ fun c hc => ?_)
  · rcases hm x (List.mem_append_right _ hx) with h1 | h1
    · rcases alph_cases h1 with rfl | rfl | rfl | rfl | rfl | rfl <;> decide
    · rcases extra_cases h1 with rfl | rfl | rfl | rfl | rfl | rfl | rfl | rfl <;> decide
  · rcases alph_cases (h1.a.all c hc) with rfl | rfl | rfl | rfl | rfl | rfl <;> decide

theorem HttpOk.trim (h1 : HttpOk a d e p b) : B.trimR (B.trimL (httpTxt a q d e p b)) = httpTxt a q d e p b := by
  obtain ⟨c, u, e1, _, hst⟩ := h1.text (q := q)
  obtain ⟨z, hd, hst2⟩ := word_last h1.b (a ++ 32 :: (httpM q d e p ++ [32]))
  have e2 : httpTxt a q d e p b = a ++ 32 :: (httpM q d e p ++ [32]) ++ b := by unfold httpTxt; simp
  rw [← e2, e1] at hd
  rw [e1]
  exact trim_both hst hd hst2

theorem HttpOk.scan (h1 : HttpOk a d e p b) (o : Opt) (ho : o.dots = false) (he : o.emoji = false) : Scan o (httpTxt a q d e p b) 0 0 [.plain (httpTxt a q d e p b)] := by
  have hsc := still_scan (o := o) (s := httpTxt a q d e p b) (fun c hc => by
    rcases h1.mem c hc with h2 | h2
    · exact alph_still h2
    · rcases extra_cases h2 with rfl | rfl | rfl | rfl | rfl | rfl | rfl | rfl <;> simp [loud, ho, he])
  rw [flush_ne h1.ne] at hsc
  exact hsc

theorem HttpOk.runs (h1 : HttpOk a d e p b) : Runs (fun r => (txts r).length ≤ 1000000) [.plain (httpTxt a q d e p b)] := runs_small (by
  have := h1.len (q := q)
  show (txts [Tok.plain _]).length ≤ _
  rw [show txts [Tok.plain (httpTxt a q d e p b)] = httpTxt a q d e p b from List.append_nil _]; omega)

theorem HttpOk.inlOff (h1 : HttpOk a d e p b) : InlOf plainO (httpTxt a q d e p b) [.plain (httpTxt a q d e p b)] :=
  inl_of_scan merges_some rfl (by have := h1.len (q := q); omega) h1.trim (by simp) (h1.scan plainO rfl rfl) h1.runs

theorem HttpOk.at_ (h1 : HttpOk a d e p b) : HttpAt (httpTxt a q d e p b) (a.length + 1) (a.length + 1 + (httpS q).length) (a.length + 1 + (httpS q).length + d.length) (a.length + 1 + (httpS q).length + d.length + 1 + e.length) (a.length + 1 + (httpS q).length + d.length + 1 + e.length + 1 + p.length) := by
  have ld := List.length_pos_iff.2 h1.d.ne
  have le := List.length_pos_iff.2 h1.e.ne
  have hl := h1.len (q := q)
  have hs := (httpS_len (q := q)).2
  have e0 : httpTxt a q d e p b = a ++ 32 :: (httpM q d e p ++ 32 :: b) := rfl
  have e1 : httpTxt a q d e p b = (a ++ [32] ++ httpS q) ++ (d ++ (46 :: (e ++ 47 :: p) ++ 32 :: b)) := by unfold httpTxt httpM; simp
  have e2 : httpTxt a q d e p b = (a ++ [32] ++ httpS q ++ d) ++ 46 :: ((e ++ 47 :: p) ++ 32 :: b) := by unfold httpTxt httpM; simp
  have e3 : httpTxt a q d e p b = (a ++ [32] ++ httpS q ++ d ++ [46]) ++ (e ++ (47 :: p ++ 32 :: b)) := by unfold httpTxt httpM; simp
  have e4 : httpTxt a q d e p b = (a ++ [32] ++ httpS q ++ d ++ [46] ++ e) ++ 47 :: (p ++ 32 :: b) := by unfold httpTxt httpM; simp
  have e5 : httpTxt a q d e p b = (a ++ [32] ++ httpS q ++ d ++ [46] ++ e ++ [47]) ++ (p ++ 32 :: b) := by unfold httpTxt httpM; simp
  have e6 : httpTxt a q d e p b = (a ++ [32] ++ httpS q ++ d ++ [46] ++ e ++ [47] ++ p) ++ 32 :: b := by unfold httpTxt httpM; simp
  refine ⟨by omega, by omega, by omega, by omega, by omega, ?_, by omega, ?_, ?_, ?_, ?_, ?_, ?_, ?_⟩
  · rw [e6]; simp; omega
  · rw [e0]; exact get_mid (by omega)
  · intro k k1 k2
    rw [e1]
    obtain ⟨c, hc, hm⟩ := get_in (p := a ++ [32] ++ httpS q) (m := d) (r := 46 :: (e ++ 47 :: p) ++ 32 :: b) (k := k) (by simp; omega) (by simp; omega)
    exact ⟨c, hc, alph_alnum (h1.d.all c hm)⟩
  · rw [e2]; exact get_mid (by simp; omega)
  · intro k k1 k2
    rw [e3]
    obtain ⟨c, hc, hm⟩ := get_in (p := a ++ [32] ++ httpS q ++ d ++ [46]) (m := e) (r := 47 :: p ++ 32 :: b) (k := k) (by simp; omega) (by simp; omega)
    exact ⟨c, hc, alph_alnum (h1.e.all c hm)⟩
  · rw [e4]; exact get_mid (by simp; omega)
  · intro k k1 k2
    rw [e5]
    obtain ⟨c, hc, hm⟩ := get_in (p := a ++ [32] ++ httpS q ++ d ++ [46] ++ e ++ [47]) (m := p) (r := 32 :: b) (k := k) (by simp; omega) (by simp; omega)
    exact ⟨c, hc, h1.pm c hm⟩
  · rw [e6]; exact get_mid (by simp; omega)

theorem alph_rest {c : UInt8} (h : c ∈ alph ∨ c = 32) : Rest c := by
  rcases h with h | rfl
  · rcases alph_cases h with rfl | rfl | rfl | rfl | rfl | rfl <;> (unfold Rest; decide)
  · unfold Rest; decide

theorem HttpOk.rest (h1 : HttpOk a d e p b) : ∀ (k : Nat) (c : UInt8), (httpTxt a q d e p b)[k]? = some c → k < a.length + 1 ∨ a.length + 1 + (httpS q).length + d.length + 1 + e.length + 1 + p.length ≤ k → Rest c := by
  intro k c hk hr
  rcases hr with hr | hr
  · have e1 : httpTxt a q d e p b = (a ++ [32]) ++ (httpM q d e p ++ 32 :: b) := by unfold httpTxt; simp
    rw [e1, List.getElem?_append_left (by simp; omega)] at hk
    rcases List.mem_append.1 (List.mem_of_getElem? hk) with hm | hm
    · exact alph_rest (.inl (h1.a.all c hm))
    · exact alph_rest (.inr (List.mem_singleton.1 hm))
  · have e6 : httpTxt a q d e p b = (a ++ [32] ++ httpS q ++ d ++ [46] ++ e ++ [47] ++ p) ++ 32 :: b := by unfold httpTxt httpM; simp
    rw [e6, List.getElem?_append_right (by simp; omega)] at hk
    rcases List.mem_cons.1 (List.mem_of_getElem? hk) with hm | hm
    · exact alph_rest (.inr hm)
    · exact alph_rest (.inl (h1.b.all c hm))

def httpToks (a : List UInt8) (q : Bool) (d e p b : List UInt8) : List Tok := [.plain (a ++ [32]), .link (httpM q d e p) (httpM q d e p), .plain (32 :: b)]

theorem HttpOk.inlOn (h1 : HttpOk a d e p b) : InlOf autoO (httpTxt a q d e p b) (httpToks a q d e p b) := by
  have la : (a ++ [32]).length = a.length + 1 := by simp
  have e1 : httpTxt a q d e p b = (a ++ [32]) ++ (httpM q d e p ++ 32 :: b) := by unfold httpTxt; simp
  have hd : (httpTxt a q d e p b).drop (a.length + 1) = httpS q ++ ((d ++ 46 :: (e ++ 47 :: p)) ++ 32 :: b) := by
    rw [e1, ← la, List.drop_left]; unfold httpM; rw [List.append_assoc]
  have hA := autoOf_http autoO rfl _ q _ _ _ _ _ h1.at_ hd h1.rest
  have e6 : httpTxt a q d e p b = ((a ++ [32]) ++ httpM q d e p) ++ 32 :: b := by unfold httpTxt; simp
  have lm : ((a ++ [32]) ++ httpM q d e p).length = a.length + 1 + (httpS q).length + d.length + 1 + e.length + 1 + p.length := by unfold httpM; simp; omega
  have t1 : (httpTxt a q d e p b).take (a.length + 1) = a ++ [32] := by rw [e1, ← la, List.take_left]
  have t2 : (httpTxt a q d e p b).take (a.length + 1 + (httpS q).length + d.length + 1 + e.length + 1 + p.length) = (a ++ [32]) ++ httpM q d e p := by rw [e6, ← lm, List.take_left]
  have t3 : (httpTxt a q d e p b).drop (a.length + 1 + (httpS q).length + d.length + 1 + e.length + 1 + p.length) = 32 :: b := by rw [e6, ← lm, List.drop_left]
  rw [t1, t2, t3, ← la, List.drop_left] at hA
  exact inl_of_scanA (ts := [.plain (httpTxt a q d e p b)]) merges_some hA (by have := h1.len (q := q); omega) h1.trim (by simp) (h1.scan autoO rfl rfl) h1.runs

theorem HttpOk.nul (h1 : HttpOk a d e p b) : (0 : UInt8) ∉ httpTxt a q d e p b := by
  intro hc
  rcases h1.mem 0 hc with h1 | h1
  · rcases alph_cases h1 with h | h | h | h | h | h <;> exact absurd h (by decide)
  · exact absurd h1 (by decide)

theorem extra_ne {c : UInt8} (h : c ∈ alph ∨ c ∈ extra) : c ≠ 34 ∧ c ≠ 38 ∧ c ≠ 60 ∧ c ≠ 62 := by
  rcases h with h | h
  · rcases alph_cases h with rfl | rfl | rfl | rfl | rfl | rfl <;> decide
  · rcases extra_cases h with rfl | rfl | rfl | rfl | rfl | rfl | rfl | rfl <;> decide

theorem HttpOk.esc (h1 : HttpOk a d e p b) : htmlPairs.esc (httpTxt a q d e p b) = httpTxt a q d e p b := esc_id fun c hc => extra_ne (h1.mem c hc)
theorem HttpOk.escM (h1 : HttpOk a d e p b) : htmlPairs.esc (httpM q d e p) = httpM q d e p := esc_id fun c hc => extra_ne (h1.memM c hc)
theorem HttpOk.escA (h1 : HttpOk a d e p b) : htmlPairs.esc (a ++ [32]) = a ++ [32] := esc_id fun c hc => plain_ne (by
  rcases List.mem_append.1 hc with hc | hc
  · exact .inl (h1.a.all c hc)
  · exact .inr (.inl (List.mem_singleton.1 hc)))
theorem HttpOk.escB (h1 : HttpOk a d e p b) : htmlPairs.esc (32 :: b) = 32 :: b := esc_id fun c hc => plain_ne (by
  rcases List.mem_cons.1 hc with hc | hc
  · exact .inr (.inl hc)
  · exact .inl (h1.b.all c hc))

theorem HttpOk.escU (h1 : HttpOk a d e p b) : linkPairs.esc (httpM q d e p) = httpM q d e p := by
  unfold httpM
  refine link_id fun c hc => ?_
  have hx : c ∈ alph ∨ (c ∈ extra ∧ c ≠ 32) := by
    simp only [List.mem_append, List.mem_cons] at hc
    rcases hc with hc | hc | hc | hc | hc | hc
    · refine .inr ⟨httpS_mem hc, ?_⟩
      rintro rfl
      cases q <;> exact absurd hc (by decide)
    · exact .inl (h1.d.all c hc)
    · exact .inr (by rw [hc]; decide)
    · exact .inl (h1.e.all c hc)
    · exact .inr (by rw [hc]; decide)
    · rcases h1.pm c hc with rfl | rfl | rfl
      · exact .inl (by decide)
      · exact .inl (by decide)
      · exact .inr (by decide)
  rcases hx with h2 | ⟨h2, h3⟩
  · rcases alph_cases h2 with rfl | rfl | rfl | rfl | rfl | rfl <;> rfl
  · rcases extra_cases h2 with rfl | rfl | rfl | rfl | rfl | rfl | rfl | rfl
    · exact absurd rfl h3
    all_goals rfl

theorem HttpOk.html (h1 : HttpOk a d e p b) : htmls (httpToks a q d e p b) = httpOut a q d e p b := by
  have h2 : htmls (httpToks a q d e p b) = htmlPairs.esc (a ++ [32]) ++ ((aOpen ++ linkPairs.esc (httpM q d e p) ++ [34] ++ [62] ++ htmlPairs.esc (httpM q d e p) ++ [60, 47, 97, 62]) ++ (htmlPairs.esc (32 :: b) ++ [])) := rfl
  rw [h2, h1.escA, h1.escB, h1.escM, h1.escU, List.append_nil]
  unfold httpOut
  simp

theorem HttpOk.off (h1 : HttpOk a d e p b) (G0 : Sl.HP) : PrintsP plainO.pcells G0 (B.bs (httpTxt a q d e p b)) (B.bs (paraHTML (httpTxt a q d e p b))) := by
  obtain ⟨c, u, _, ht, _⟩ := h1.text (q := q)
  have hl := h1.len (q := q)
  have hh : htmls [.plain (httpTxt a q d e p b)] = httpTxt a q d e p b := by
    show htmlPairs.esc (httpTxt a q d e p b) ++ [] = _
    rw [List.append_nil, h1.esc]
  have := para_prints plainO G0 _ c u _ rfl ht h1.inlOff h1.nul (by simp) (fun x hx => by
    obtain rfl := List.mem_singleton.1 hx
    show (httpTxt a q d e p b).length ≤ _; omega) (by rw [hh]; unfold paraHTML; simp; omega)
  rw [hh] at this
  exact this

theorem HttpOk.outLen (h1 : HttpOk a d e p b) : (httpOut a q d e p b).length ≤ 300 := by
  have := h1.a.len; have := h1.b.len; have := h1.lenM (q := q)
  unfold httpOut aOpen
  simp only [List.length_append, List.length_cons, List.length_nil]; omega

theorem HttpOk.on (h1 : HttpOk a d e p b) (G0 : Sl.HP) : PrintsP autoO.pcells G0 (B.bs (httpTxt a q d e p b)) (B.bs (paraHTML (httpOut a q d e p b))) := by
  obtain ⟨c, u, _, ht, _⟩ := h1.text (q := q)
  have hl := h1.outLen (q := q)
  have := para_prints autoO G0 _ c u _ rfl ht h1.inlOn h1.nul (by unfold httpToks; simp) (fun x hx => by
    have := h1.lenM (q := q); have := h1.a.len; have := h1.b.len
    unfold httpToks at hx
    simp only [List.mem_cons, List.not_mem_nil, or_false] at hx
    rcases hx with rfl | rfl | rfl
    · show (a ++ [32]).length ≤ _
      simp; omega
    · show (httpM q d e p ++ httpM q d e p).length ≤ _
      simp; omega
    · show (32 :: b).length ≤ _
      simp; omega) (by rw [h1.html]; unfold paraHTML; simp; omega)
  rw [h1.html] at this
  exact this

end Go.Proofs.YtcmpcjffmccllaaGreatDoor
