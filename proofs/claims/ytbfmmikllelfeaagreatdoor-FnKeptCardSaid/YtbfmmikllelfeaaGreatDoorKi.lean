/- Walks: closing blocks down to a depth. -/
import Derived.Test.YtbfmmikllelfeaaGreatDoorP1
import Derived.Test.YtbfmmikllelfeaaGreatDoorN3
import Derived.Test.YtbfmmikllelfeaaGreatDoorN8
import Derived.Deep.LoopGhost
namespace Go.Proofs.YtbfmmikllelfeaaGreatDoor
open Go.RowKit Sl

set_option maxRecDepth 100000 in
set_option maxHeartbeats 400000 in
theorem trimStack_w (p d n : Nat) (hdn : d ≤ n) (_hn : n ≤ 1000000000) (S : Nat → HP) (F : HP)
    (hlen : ∀ k w, d ≤ k → k ≤ n → Sat w (S k * F) → ∃ a c, w.cell? ⟨p, 4, none⟩ = some (.slice a k c))
    (hclose : ∀ k w, d ≤ k → k < n → Sat w (S (k + 1) * F) → Calls Tryz.prog 107 #[.pointer (some ⟨p, 0, none⟩)] w fun e w' => ∃ v, e = .returned v ∧ Sat w' (S k * F))
    (w : World) (hs : Sat w (S n * F)) :
    Calls Tryz.prog 91 #[.pointer (some ⟨p, 0, none⟩), .int .i64 d] w fun e w' => e = .returned (.tuple #[]) ∧ Sat w' (S d * F) := by
  obtain ⟨a0, c0, h40⟩ := hlen n w hdn (Nat.le_refl _) hs
  have hdec : decide (n < d) = false := by simp; omega
  go_enter Tryz.func91, Tryz.ntmps91
  go_wp2
  clear h40
  go_loopg [] n (fun k wr => d ≤ k ∧ k ≤ n ∧ Sat wr (S k * F))
  case atStart => exact ⟨hdn, Nat.le_refl _, hs⟩
  case round =>
    obtain ⟨h1, h2, h3⟩ := hrel
    obtain ⟨a, c, h4⟩ := hlen gk wr h1 h2 h3
    by_cases hlt : d < gk
    · obtain ⟨k, rfl⟩ : ∃ k, gk = k + 1 := ⟨gk - 1, by omega⟩
      go_wp2_with fail
      refine (hclose k wr (by omega) (by omega) h3).mono ?_
      rintro e w' ⟨v, rfl, h5⟩
      go_wp2
      go_roundg k
      case measure => omega
      case rel => exact ⟨by omega, by omega, h5⟩
    · obtain rfl : gk = d := by omega
      go_wp2
      go_end0
      exact ⟨rfl, h3⟩

end Go.Proofs.YtbfmmikllelfeaaGreatDoor

/- What parse does to a blank text: the state line by line, and what closing the root leaves. -/
namespace Go.Proofs.YtbfmmikllelfeaaGreatDoor
open Go.RowKit Sl

/-- The state while the root alone is open, and nothing lies in it: after n lines. -/
def RootOnly (pb : Nat) (p : Nat) (done : List (List UInt8 × UInt8)) : HP :=
  Sl.ex fun r : Nat => Sl.ex fun g : Nat => Sl.ex fun cap : Nat => Sl.ex fun d : Int =>
    row p 173 { PSt.first pb g cap bt0 with lineno := done.length, depth := d }.cells *
      arr 197 4 (.slice (some ⟨g, 0, none⟩) 1 cap) 1 [.iface 176 (.pointer (some ⟨r, 0, none⟩)), .slice none 0 0, .int .i64 0, .int .i64 0]

theorem ex4 {w : World} {α β γ δ : Type} {P : α → β → γ → δ → HP} {F : HP} : Sat w ((Sl.ex fun a => Sl.ex fun b => Sl.ex fun c => Sl.ex fun d => P a b c d) * F) ↔ ∃ a b c d, Sat w (P a b c d * F) := by
  constructor
  · intro h
    obtain ⟨a, h⟩ := h.ex
    obtain ⟨b, h⟩ := h.ex
    obtain ⟨c, h⟩ := h.ex
    obtain ⟨d, h⟩ := h.ex
    exact ⟨a, b, c, d, h⟩
  · rintro ⟨a, b, c, d, h⟩
    exact (((h.ex_mk d).ex_mk c).ex_mk b).ex_mk a

theorem blank_lines (pb : Nat) (text : List UInt8) (hb : ∀ l ∈ B.lines text, (LineOf l).blank = true) (hsz : ∀ l ∈ B.lines text, l.1.length ≤ 1000000000) : Lines (RootOnly pb) pb text where
  first := by
    intro p r g cap w F h
    exact ex4.2 ⟨r, g, cap, -1, h.cast (star_assoc _ _ _).symm⟩
  next := by
    intro p done l rest w F hl hs
    obtain ⟨r, g, cap, d, h⟩ := ex4.1 hs
    refine ⟨_, _, rfl, h.cast (star_assoc _ _ _), fun w' hs' => ?_⟩
    have hm : l ∈ B.lines text := by rw [hl]; simp
    refine (addLine_blank p (LineOf l) _ _ w' rfl (hb l hm) (Nat.zero_le _) ?_ hs').mono ?_
    · have := hsz l hm
      show (B.bs l.1).size ≤ _
      rw [B.bs_size]; omega
    rintro e w'' ⟨rfl, h5⟩
    refine ⟨rfl, ex4.2 ⟨r, g, cap, 0, (h5.cast (star_assoc _ _ _).symm).cast ?_⟩⟩
    simp only [List.length_append, List.length_singleton, Int.natCast_add, Int.cast_ofNat_Int]

/-- The state when the root has been closed, nothing in it: the document lies in block d. -/
def Emptied (pb : Nat) (m : Nat) (p : Nat) (tx : SV) (_ : Nat) : HP :=
  Sl.pur (tx = ⟨none, 0, 0⟩) * Sl.ex fun g : Nat => Sl.ex fun cap : Nat => Sl.ex fun dep : Int => Sl.ex fun d : Nat =>
    row p 173 { PSt.first pb g cap bt0 with lineno := m, depth := dep, stack := ⟨some ⟨g, 0, none⟩, 0, cap⟩, root := some ⟨d, 0, none⟩ }.cells * row d 117 [.int .i64 0, .int .i64 0, .slice none 0 0, .map none]

theorem emptied_iff {w : World} {pb m p i : Nat} {tx : SV} {F : HP} : Sat w (Emptied pb m p tx i * F) ↔ tx = ⟨none, 0, 0⟩ ∧ ∃ g cap dep d,
    Sat w (row p 173 { PSt.first pb g cap bt0 with lineno := m, depth := dep, stack := ⟨some ⟨g, 0, none⟩, 0, cap⟩, root := some ⟨d, 0, none⟩ }.cells * row d 117 [.int .i64 0, .int .i64 0, .slice none 0 0, .map none] * F) := by
  unfold Emptied
  constructor
  · intro h
    obtain ⟨h1, h2⟩ := (h.cast (star_assoc _ _ _)).pur
    exact ⟨h1, ex4.1 h2⟩
  · rintro ⟨h1, h2⟩
    rw [star_assoc, pur_star h1]
    exact ex4.2 h2

theorem blank_ends (pb : Nat) (text : List UInt8) : Ends (RootOnly pb) (Emptied pb (B.lines text).length) text where
  close := by
    intro p w F hs
    refine (trimStack_w p 0 1 (by decide) (by decide) (fun k => if k = 1 then RootOnly pb p (B.lines text) else Emptied pb (B.lines text).length p ⟨none, 0, 0⟩ 0) F ?_ ?_ w hs).mono ?_
    · intro k w _ h1 h
      by_cases hk : k = 1
      · subst hk
        obtain ⟨r, g, cap, d, h⟩ := ex4.1 h
        exact ⟨_, _, (PSt.facts (h.cast (star_assoc _ _ _))).2.2.2.2.1⟩
      · obtain rfl : k = 0 := by omega
        obtain ⟨_, g, cap, dep, d, h⟩ := (emptied_iff (i := 0)).1 h
        exact ⟨_, _, (PSt.facts (h.cast (star_assoc _ _ _))).2.2.2.2.1⟩
    · intro k w _ h1 h
      obtain rfl : k = 0 := by omega
      obtain ⟨r, g, cap, d, h⟩ := ex4.1 h
      obtain ⟨junk, _, _, _, _, h2⟩ := ((h.cast (star_assoc _ _ _)).swap).arr_row
      refine (closeRoot_w ⟨r, 0, none⟩ p g cap 0 0 none 0 0 _ junk F w rfl h2.swap).mono ?_
      rintro e w' ⟨d, rfl, h5⟩
      exact ⟨_, rfl, (emptied_iff (i := 0)).2 ⟨rfl, g, cap, _, d, h5.cast (star_assoc _ _ _).symm⟩⟩
    · rintro e w' ⟨rfl, h⟩
      exact ⟨rfl, ⟨none, 0, 0⟩, by decide, h⟩
  state := by
    intro p tx i w F h
    obtain ⟨rfl, g, cap, dep, d, h⟩ := emptied_iff.1 h
    exact ⟨_, _, rfl, h.cast (star_assoc _ _ _)⟩
  text := by
    intro p tx i w F h hi
    obtain ⟨rfl, _⟩ := emptied_iff.1 h
    simp at hi

end Go.Proofs.YtbfmmikllelfeaaGreatDoor

/- Pure: what the lines of a text are made of; blank texts. -/
namespace Go.Proofs.YtbfmmikllelfeaaGreatDoor
namespace B

theorem idx_neg {l : List UInt8} {c : UInt8} (h : idx l [c] < 0) : c ∉ l := by
  unfold idx at h
  rw [findSub_byte] at h
  cases e : l.findIdx? (· == c) with
  | none => rw [List.findIdx?_eq_none_iff] at e; intro hm; simpa using e c hm
  | some k => rw [e] at h; simp at h; omega

theorem idx_before {l : List UInt8} {c : UInt8} {n : Nat} (h : (n : Int) ≤ idx l [c]) : c ∉ l.take n := by
  unfold idx at h
  rw [findSub_byte] at h
  cases e : l.findIdx? (· == c) with
  | none => rw [e] at h; simp at h; omega
  | some k =>
    rw [e] at h
    have hk : n ≤ k := by simp at h; omega
    rw [List.findIdx?_eq_some_iff_getElem] at e
    obtain ⟨hl, _, hm⟩ := e
    intro hc
    obtain ⟨j, hj, rfl⟩ := List.getElem_of_mem hc
    rw [List.length_take] at hj
    have := hm j (by omega)
    simp at this

theorem nextLine_line (l : List UInt8) : 10 ∉ (nextLine l).1.1 ∧ 13 ∉ (nextLine l).1.1 ∧ (nextLine l).1.1 <+: l ∧ (nextLine l).2 <:+ l := by
  unfold nextLine
  split
  · rename_i h
    have h10 : 10 ∉ l.take (idx l [13]).toNat := by
      by_cases h0 : idx l [10] < 0
      · exact fun hc => idx_neg h0 (List.mem_of_mem_take hc)
      · exact idx_before (by omega)
    have h13 : 13 ∉ l.take (idx l [13]).toNat := idx_before (by omega)
    split <;> exact ⟨h10, h13, List.take_prefix _ _, List.drop_suffix _ _⟩
  · rename_i h
    split
    · rename_i h0
      refine ⟨idx_before (by omega), ?_, List.take_prefix _ _, List.drop_suffix _ _⟩
      by_cases h1 : idx l [13] < 0
      · exact fun hc => idx_neg h1 (List.mem_of_mem_take hc)
      · exact idx_before (by omega)
    · rename_i h0
      have e0 : idx l [10] < 0 := by omega
      have e1 : idx l [13] < 0 := by omega
      exact ⟨idx_neg e0, idx_neg e1, List.prefix_refl _, List.nil_suffix⟩

theorem lines_mem (l : List UInt8) : ∀ x ∈ lines l, 10 ∉ x.1 ∧ 13 ∉ x.1 ∧ (∀ c ∈ x.1, c ∈ l) ∧ x.1.length ≤ l.length := by
  by_cases h : l = []
  · subst h; intro x hx; rw [lines_nil] at hx; cases hx
  · intro x hx
    rw [lines_cons h] at hx
    obtain ⟨h1, h2, h3, h4⟩ := nextLine_line l
    rcases List.mem_cons.1 hx with rfl | hx
    · exact ⟨h1, h2, fun c hc => h3.subset hc, h3.length_le⟩
    · have h5 := nextLine_lt h
      obtain ⟨i1, i2, i3, i4⟩ := lines_mem _ x hx
      exact ⟨i1, i2, fun c hc => h4.subset (i3 c hc), by omega⟩
termination_by l.length
decreasing_by exact nextLine_lt h

theorem trimL_all {l : List UInt8} (h : ∀ c ∈ l, isST c = true) : trimL l = [] := by
  unfold trimL
  induction l with
  | nil => rfl
  | cons c l ih =>
    rw [List.dropWhile_cons_of_pos (h c (by simp))]
    exact ih fun d hd => h d (by simp [hd])

theorem no_nul {l : List UInt8} (h : (0 : UInt8) ∉ l) : findSub [0] l = none := by
  rw [findSub_byte, List.findIdx?_eq_none_iff]
  intro x hx
  simp only [beq_eq_false_iff_ne]
  rintro rfl
  exact h hx
end B

/-- A text of spaces, tabs and line ends alone. -/
def AllWs (l : List UInt8) : Prop := ∀ c ∈ l, c = 32 ∨ c = 9 ∨ c = 10 ∨ c = 13

theorem AllWs.blank {l : List UInt8} (h : AllWs l) : ∀ x ∈ B.lines l, (LineOf x).blank = true := by
  intro x hx
  obtain ⟨h1, h2, h3, _⟩ := B.lines_mem l x hx
  unfold Ln.blank Ln.rest LineOf
  simp only [B.bs_data, List.drop_zero]
  rw [B.trimL_all]
  · rfl
  · intro c hc
    rcases h c (h3 c hc) with rfl | rfl | rfl | rfl
    · rfl
    · rfl
    · exact absurd hc h1
    · exact absurd hc h2

theorem AllWs.nul {l : List UInt8} (h : AllWs l) : B.findSub [0] l = none := B.no_nul fun hc => by
  rcases h 0 hc with e | e | e | e <;> exact absurd e (by decide)
end Go.Proofs.YtbfmmikllelfeaaGreatDoor

/- The state when the root alone is open and some blocks lie in it; what closing it leaves. -/
namespace Go.Proofs.YtbfmmikllelfeaaGreatDoor
open Go.RowKit Sl

/-- What a state of the root alone is made of: the builder, the stack's block and room, the depth, the corner, the blocks. -/
structure RootX where
  r : Nat
  g : Nat
  cap : Nat
  dep : Int
  corner : Bool
  inn : SV
  items : List Value

noncomputable def RootX.st (x : RootX) (pb n : Nat) : PSt := { PSt.first pb x.g x.cap bt0 with lineno := n, depth := x.dep, corner := x.corner }

/-- The root alone is open, after n lines; its blocks are as C says. -/
noncomputable def RootHas (pb n : Nat) (C : List Value → HP) (p : Nat) : HP := Sl.ex fun x : RootX =>
  Sl.pur (x.inn.len = x.items.length ∧ x.items.length ≤ 1000000000) * (row p 173 (x.st pb n).cells * (arr 197 4 (.slice (some ⟨x.g, 0, none⟩) 1 x.cap) 1 [.iface 176 (.pointer (some ⟨x.r, 0, none⟩)), x.inn.v, .int .i64 0, .int .i64 0] *
    (arr 97 1 x.inn.v x.inn.len x.items * C x.items)))

theorem rootHas_iff {w : World} {pb n p : Nat} {C : List Value → HP} {F : HP} : Sat w (RootHas pb n C p * F) ↔ ∃ x : RootX, (x.inn.len = x.items.length ∧ x.items.length ≤ 1000000000) ∧
    Sat w (row p 173 (x.st pb n).cells * (arr 197 4 (.slice (some ⟨x.g, 0, none⟩) 1 x.cap) 1 [.iface 176 (.pointer (some ⟨x.r, 0, none⟩)), x.inn.v, .int .i64 0, .int .i64 0] * (arr 97 1 x.inn.v x.inn.len x.items * (C x.items * F)))) := by
  constructor
  · intro h
    obtain ⟨x, h⟩ := h.ex
    obtain ⟨h1, h2⟩ := (h.cast (star_assoc _ _ _)).pur
    exact ⟨x, h1, h2.cast (by ac_rfl)⟩
  · rintro ⟨x, h1, h2⟩
    refine Sat.ex_mk x ?_
    rw [star_assoc, pur_star h1]
    exact h2.cast (by ac_rfl)

/-- What the parsed document is made of. -/
structure DocX where
  g : Nat
  cap : Nat
  dep : Int
  corner : Bool
  inn : SV
  d : Nat
  items : List Value

noncomputable def DocX.st (x : DocX) (pb n : Nat) : PSt := { PSt.first pb x.g x.cap bt0 with lineno := n, depth := x.dep, corner := x.corner, stack := ⟨some ⟨x.g, 0, none⟩, 0, x.cap⟩, root := some ⟨x.d, 0, none⟩ }

/-- All is closed: the document lies in block d. No text is left to be read as inlines. -/
noncomputable def DocHas (pb n : Nat) (C : List Value → HP) (p : Nat) (tx : SV) (_ : Nat) : HP := Sl.ex fun x : DocX =>
  Sl.pur (tx = ⟨none, 0, 0⟩ ∧ x.inn.len = x.items.length ∧ x.items.length ≤ 1000000000) * (row p 173 (x.st pb n).cells * (row x.d 117 [.int .i64 0, .int .i64 0, x.inn.v, .map none] *
    (arr 97 1 x.inn.v x.inn.len x.items * C x.items)))

theorem docHas_iff {w : World} {pb n p i : Nat} {tx : SV} {C : List Value → HP} {F : HP} : Sat w (DocHas pb n C p tx i * F) ↔ ∃ x : DocX, (tx = ⟨none, 0, 0⟩ ∧ x.inn.len = x.items.length ∧ x.items.length ≤ 1000000000) ∧
    Sat w (row p 173 (x.st pb n).cells * (row x.d 117 [.int .i64 0, .int .i64 0, x.inn.v, .map none] * (arr 97 1 x.inn.v x.inn.len x.items * (C x.items * F)))) := by
  constructor
  · intro h
    obtain ⟨x, h⟩ := h.ex
    obtain ⟨h1, h2⟩ := (h.cast (star_assoc _ _ _)).pur
    exact ⟨x, h1, h2.cast (by ac_rfl)⟩
  · rintro ⟨x, h1, h2⟩
    refine Sat.ex_mk x ?_
    rw [star_assoc, pur_star h1]
    exact h2.cast (by ac_rfl)

theorem rootHas_len {w : World} {pb n p : Nat} {C : List Value → HP} {F : HP} (h : Sat w (RootHas pb n C p * F)) : ∃ a c, w.cell? ⟨p, 4, none⟩ = some (.slice a 1 c) := by
  obtain ⟨x, _, h⟩ := rootHas_iff.1 h
  exact ⟨_, _, (PSt.facts h).2.2.2.2.1⟩

theorem docHas_len {w : World} {pb n p i : Nat} {tx : SV} {C : List Value → HP} {F : HP} (h : Sat w (DocHas pb n C p tx i * F)) : ∃ a c, w.cell? ⟨p, 4, none⟩ = some (.slice a 0 c) := by
  obtain ⟨x, _, h⟩ := docHas_iff.1 h
  exact ⟨_, _, (PSt.facts h).2.2.2.2.1⟩

theorem closeRootHas (pb n p : Nat) (C : List Value → HP) (F : HP) (w : World) (h : Sat w (RootHas pb n C p * F)) :
    Calls Tryz.prog 107 #[.pointer (some ⟨p, 0, none⟩)] w fun e w' => ∃ v, e = .returned v ∧ Sat w' (DocHas pb n C p ⟨none, 0, 0⟩ 0 * F) := by
  obtain ⟨x, hx, h⟩ := rootHas_iff.1 h
  obtain ⟨junk, _, _, _, _, h2⟩ := h.swap.arr_row
  refine (closeRoot_w ⟨x.r, 0, none⟩ p x.g x.cap 0 0 x.inn.a x.inn.len x.inn.cap (x.st pb n) junk _ w rfl h2.swap).mono ?_
  rintro e w' ⟨d, rfl, h5⟩
  exact ⟨_, rfl, docHas_iff.2 ⟨⟨x.g, x.cap, x.dep, x.corner, x.inn, d, x.items⟩, ⟨rfl, hx⟩, h5⟩⟩

theorem trimRoot (pb n p : Nat) (C : List Value → HP) (F : HP) (w : World) (hs : Sat w (RootHas pb n C p * F)) :
    Calls Tryz.prog 91 #[.pointer (some ⟨p, 0, none⟩), .int .i64 0] w fun e w' => e = .returned (.tuple #[]) ∧ Sat w' (DocHas pb n C p ⟨none, 0, 0⟩ 0 * F) := by
  refine (trimStack_w p 0 1 (by decide) (by decide) (fun k => if k = 1 then RootHas pb n C p else DocHas pb n C p ⟨none, 0, 0⟩ 0) F ?_ ?_ w hs).mono ?_
  · intro k w _ h1 h
    by_cases hk : k = 1
    · subst hk; exact rootHas_len h
    · obtain rfl : k = 0 := by omega
      exact docHas_len (i := 0) h
  · intro k w _ h1 h
    obtain rfl : k = 0 := by omega
    exact closeRootHas pb n p C F w h
  · rintro e w' ⟨rfl, h⟩
    exact ⟨rfl, h⟩

/-- What follows the last line, where trimStack leaves the document and no text. -/
theorem ends_of (K : Nat → List (List UInt8 × UInt8) → HP) (pb n : Nat) (C : List Value → HP) (text : List UInt8)
    (hc : ∀ p w F, Sat w (K p (B.lines text) * F) → Calls Tryz.prog 91 #[.pointer (some ⟨p, 0, none⟩), .int .i64 0] w fun e w' => e = .returned (.tuple #[]) ∧ Sat w' (DocHas pb n C p ⟨none, 0, 0⟩ 0 * F)) :
    Ends K (DocHas pb n C) text where
  close := by
    intro p w F hs
    refine (hc p w F hs).mono ?_
    rintro e w' ⟨rfl, h⟩
    exact ⟨rfl, ⟨none, 0, 0⟩, by decide, h⟩
  state := by
    intro p tx i w F h
    obtain ⟨x, ⟨rfl, _⟩, h2⟩ := docHas_iff.1 h
    exact ⟨x.st pb n, row x.d 117 [.int .i64 0, .int .i64 0, x.inn.v, .map none] * (arr 97 1 x.inn.v x.inn.len x.items * C x.items), rfl, h2.cast (by ac_rfl)⟩
  text := by
    intro p tx i w F h hi
    obtain ⟨x, ⟨rfl, _⟩, h2⟩ := docHas_iff.1 h
    simp at hi

/-- The first state: the root, and nothing in it. -/
theorem rootHas_first (pb : Nat) : ∀ p r g cap w F, Sat w (row p 173 (PSt.first pb g cap bt0).cells * (arr 197 4 (.slice (some ⟨g, 0, none⟩) 1 cap) 1 [.iface 176 (.pointer (some ⟨r, 0, none⟩)), .slice none 0 0, .int .i64 0, .int .i64 0] * F)) →
    Sat w (RootHas pb 0 (fun l => Sl.pur (l = [])) p * F) := by
  intro p r g cap w F h
  refine rootHas_iff.2 ⟨⟨r, g, cap, -1, false, ⟨none, 0, 0⟩, []⟩, ⟨rfl, Nat.zero_le _⟩, ?_⟩
  rw [show arr 97 1 (⟨none, 0, 0⟩ : SV).v 0 [] = emp from arr_nil _ _, emp_star, pur_star rfl]
  exact h

end Go.Proofs.YtbfmmikllelfeaaGreatDoor

/- The text of a thematic break, in plain Lean: marks with spaces between. -/
namespace Go.Proofs.YtbfmmikllelfeaaGreatDoor
open Go.RowKit

theorem Ln.ch_rest (x : Ln) : x.ch = x.rest.head? := by
  unfold Ln.ch Ln.rest
  rw [List.head?_drop]

theorem Ln.rest_next {x : Ln} {c : UInt8} {r : List UInt8} (h : x.rest = c :: r) (s t : Nat) : ({ x with spaces := s, i := x.i + 1, tab := t } : Ln).rest = r := by
  unfold Ln.rest at h ⊢
  rw [← List.drop_drop, h]; rfl

theorem Ln.rest_at {x : Ln} {l r : List UInt8} (h : x.rest = l ++ r) (s t k : Nat) (hk : k = l.length) : ({ x with spaces := s, i := x.i + k, tab := t } : Ln).rest = r := by
  subst hk
  unfold Ln.rest at h ⊢
  rw [← List.drop_drop, h]; simp

theorem Ln.rest_nil {x : Ln} (h : x.rest = []) : x.text.size ≤ x.i := by
  unfold Ln.rest at h
  rw [B.size_data]
  exact List.drop_eq_nil_iff.1 h

theorem Ln.trimGo_spaces (min : Nat) : ∀ (k m n : Nat) (x : Ln) (r : List UInt8), x.spaces = 0 → x.rest = List.replicate k 32 ++ r → r.head? ≠ some 32 → r.head? ≠ some 9 → k ≤ m → min ≤ n + k → x.trimGo min false m n = some { x with i := x.i + k }
  | 0, 0, n, x, r, _, _, _, _, _, _ => rfl
  | 0, m + 1, n, x, r, hs, hr, h1, h2, _, hn => by
    have hc : x.ch = r.head? := by rw [ch_rest, hr]; rfl
    have hst : x.step false = none := by
      unfold step
      rw [if_neg (by omega), hc]
      cases he : r.head? with
      | none => rfl
      | some c =>
        have c1 : c ≠ 32 := fun e => h1 (by rw [he, e])
        have c2 : c ≠ 9 := fun e => h2 (by rw [he, e])
        simp [c1, c2]
    simp only [trimGo, hst]
    rw [if_pos (by omega)]; rfl
  | k + 1, 0, n, x, r, _, _, _, _, hm, _ => by omega
  | k + 1, m + 1, n, x, r, hs, hr, h1, h2, hm, hn => by
    have hr' : x.rest = 32 :: (List.replicate k 32 ++ r) := by rw [hr, List.replicate_succ]; rfl
    have hc : x.ch = some 32 := by rw [ch_rest, hr']; rfl
    have hst : x.step false = some { x with i := x.i + 1 } := by
      unfold step
      rw [if_neg (by omega), hc]
      rfl
    simp only [trimGo, hst]
    rw [trimGo_spaces min k m (n + 1) { x with i := x.i + 1 } r hs (rest_next hr' x.spaces x.tab) h1 h2 (by omega) (by omega)]
    simp only [Option.some.injEq, Ln.mk.injEq, true_and, and_true]
    omega

theorem Ln.indent_spaces {x : Ln} {k : Nat} {r : List UInt8} (hs : x.spaces = 0) (hr : x.rest = List.replicate k 32 ++ r) (h1 : r.head? ≠ some 32) (h2 : r.head? ≠ some 9) (hk : k ≤ 3) : x.indent = { x with i := x.i + k } := by
  unfold indent trimSpace
  rw [trimGo_spaces 0 k 3 0 x r hs hr h1 h2 hk (Nat.zero_le _)]; rfl

/-- Marks, each with spaces behind it. -/
def marks (c : UInt8) (ks : List Nat) : List UInt8 := ks.flatMap fun k => c :: List.replicate k 32

theorem marks_cons (c : UInt8) (k : Nat) (ks : List Nat) : marks c (k :: ks) = c :: (List.replicate k 32 ++ marks c ks) := rfl
theorem marks_head (c : UInt8) (ks : List Nat) (d : UInt8) (h : c ≠ d) : (marks c ks).head? ≠ some d := by
  cases ks with
  | nil => simp [marks]
  | cons k ks => rw [marks_cons]; simpa using h

theorem Ln.skip_spaces {x : Ln} {k : Nat} {r : List UInt8} (hr : x.rest = List.replicate k 32 ++ r) (h : ∀ c, r.head? = some c → B.isST c = false) : x.skip = { x with spaces := 0, i := x.i + k } := by
  have e : (x.rest.takeWhile B.isST).length = k := by
    rw [hr, List.takeWhile_append_of_pos (by intro c hc; rw [List.eq_of_mem_replicate hc]; rfl)]
    cases r with
    | nil => simp
    | cons c r => simp [h c rfl]
  unfold skip
  rw [e]

theorem Ln.hrGo_marks (c : UInt8) (h32 : c ≠ 32) (h9 : c ≠ 9) : ∀ (ks : List Nat) (m n : Nat) (t : Ln), t.spaces = 0 → t.rest = marks c ks → ks.length < m → ∃ u, hrGo c m n t = (n + ks.length, u) ∧ u.text.size ≤ u.i
  | [], 0, n, t, _, _, hm => by simp at hm
  | [], m + 1, n, t, hs, hr, _ => by
    have hc : t.ch = none := by rw [ch_rest, hr]; rfl
    have ht : t.trim c = none := by
      unfold trim
      rw [if_neg (by omega), hc]; rfl
    simp only [hrGo, ht]
    exact ⟨t, rfl, rest_nil hr⟩
  | k :: ks, 0, n, t, _, _, hm => by simp at hm
  | k :: ks, m + 1, n, t, hs, hr, hm => by
    rw [marks_cons] at hr
    have hc : t.ch = some c := by rw [ch_rest, hr]; rfl
    have ht : t.trim c = some { t with i := t.i + 1 } := by
      unfold trim
      rw [if_neg (by omega), hc, if_pos rfl]
    have hr2 : ({ t with i := t.i + 1 } : Ln).rest = List.replicate k 32 ++ marks c ks := rest_next hr t.spaces t.tab
    have hk := skip_spaces hr2 fun d hd => by
      cases ks with
      | nil => simp [marks] at hd
      | cons k ks =>
        rw [marks_cons] at hd
        simp only [List.head?_cons, Option.some.injEq] at hd
        subst hd
        simp [B.isST, h32, h9]
    simp only [hrGo, ht, hk]
    obtain ⟨u, h1, h2⟩ := hrGo_marks c h32 h9 ks m (n + 1) { t with spaces := 0, i := t.i + 1 + k } rfl (rest_at hr2 0 t.tab k (by simp)) (by simp at hm; omega)
    refine ⟨u, ?_, h2⟩
    rw [h1]
    simp; omega

/-- The text of a break. -/
def brk (k : Nat) (c : UInt8) (ks : List Nat) : List UInt8 := List.replicate k 32 ++ marks c ks

structure Brk (k : Nat) (c : UInt8) (ks : List Nat) : Prop where
  hk : k ≤ 3
  hc : c = 42 ∨ c = 45 ∨ c = 95
  n : 3 ≤ ks.length
  size : (brk k c ks).length ≤ 1000000000

theorem Brk.line {k : Nat} {c : UInt8} {ks : List Nat} (h : Brk k c ks) (l : Ln) (hl : l = LineOf (brk k c ks, 0)) : l.OK ∧ l.quote = none ∧ l.heading = none ∧ l.hr = true ∧ l.blank = false := by
  subst hl
  have hr : (LineOf (brk k c ks, 0)).rest = List.replicate k 32 ++ marks c ks := by
    show (B.bs (brk k c ks)).data.toList.drop 0 = _
    rw [B.bs_data]; rfl
  have h32 : c ≠ 32 := by rcases h.hc with rfl | rfl | rfl <;> decide
  have h9 : c ≠ 9 := by rcases h.hc with rfl | rfl | rfl <;> decide
  have h35 : c ≠ 35 := by rcases h.hc with rfl | rfl | rfl <;> decide
  have h62 : c ≠ 62 := by rcases h.hc with rfl | rfl | rfl <;> decide
  have hin : (LineOf (brk k c ks, 0)).indent = _ := Ln.indent_spaces rfl hr (marks_head c ks 32 h32) (marks_head c ks 9 h9) h.hk
  have hri : (LineOf (brk k c ks, 0)).indent.rest = marks c ks := by rw [hin]; exact Ln.rest_at hr 0 0 k (by simp)
  obtain ⟨k0, ks', rfl⟩ : ∃ k0 ks', ks = k0 :: ks' := by
    cases ks with
    | nil => have := h.n; simp at this
    | cons a b => exact ⟨a, b, rfl⟩
  have hsp : (LineOf (brk k c (k0 :: ks'), 0)).indent.spaces = 0 := by rw [hin]; rfl
  have hch : (LineOf (brk k c (k0 :: ks'), 0)).indent.ch = some c := by rw [Ln.ch_rest, hri]; rfl
  have htr : ∀ d, c ≠ d → (LineOf (brk k c (k0 :: ks'), 0)).indent.trim d = none := by
    intro d hd
    unfold Ln.trim
    rw [if_neg (by omega), hch, if_neg (by simpa using hd)]
  refine ⟨⟨Nat.le_refl _, Nat.zero_le _, Nat.zero_le _, ?_⟩, ?_, ?_, ?_, ?_⟩
  · show (B.bs _).size ≤ _
    have := h.size; show (brk k c (k0 :: ks')).length ≤ _; omega
  · unfold Ln.quote
    rw [htr 62 h62]; rfl
  · unfold Ln.heading
    rw [htr 35 h35]
  · have hpk : (LineOf (brk k c (k0 :: ks'), 0)).indent.peek = c := by
      unfold Ln.peek
      rw [if_neg (by omega), hch]; rfl
    have hlen : (k0 :: ks').length < (LineOf (brk k c (k0 :: ks'), 0)).indent.text.size + 1 := by
      rw [hin]
      show _ < (B.bs _).size + 1
      rw [B.bs_size]
      have : ∀ ks : List Nat, ks.length ≤ (marks c ks).length := by
        intro ks
        induction ks with
        | nil => exact Nat.zero_le _
        | cons a b ih => rw [marks_cons]; simp; omega
      have := this (k0 :: ks')
      unfold brk
      rw [List.length_append]
      omega
    obtain ⟨u, h1, h2⟩ := Ln.hrGo_marks c h32 h9 (k0 :: ks') _ 0 _ hsp hri hlen
    unfold Ln.hr
    rw [hpk, h1]
    have hn := h.n
    rcases h.hc with rfl | rfl | rfl <;> simp [Ln.isMark, h2] <;> simpa using hn
  · show (B.trimL _).isEmpty = false
    rw [hr]
    unfold B.trimL
    have : ∀ k, (List.replicate k 32 ++ marks c (k0 :: ks')).dropWhile B.isST = marks c (k0 :: ks') := by
      intro k
      induction k with
      | zero => rw [marks_cons]; simp [B.isST, h32, h9]
      | succ k ih => rw [List.replicate_succ]; simpa [B.isST] using ih
    rw [this, marks_cons]
    rfl

theorem Brk.lines {k : Nat} {c : UInt8} {ks : List Nat} (h : Brk k c ks) : B.lines (brk k c ks) = [(brk k c ks, 0)] ∧ B.findSub [0] (brk k c ks) = none := by
  have hm : ∀ d ∈ brk k c ks, d = 32 ∨ d = c := by
    intro d hd
    unfold brk marks at hd
    rcases List.mem_append.1 hd with hd | hd
    · exact .inl (List.eq_of_mem_replicate hd)
    · obtain ⟨j, _, hd⟩ := List.mem_flatMap.1 hd
      rcases List.mem_cons.1 hd with hd | hd
      · exact .inr hd
      · exact .inl (List.eq_of_mem_replicate hd)
  have hno : ∀ d : UInt8, d ≠ 32 → d ≠ 42 → d ≠ 45 → d ≠ 95 → d ∉ brk k c ks := by
    intro d h1 h2 h3 h4 hd
    rcases hm d hd with rfl | rfl
    · exact h1 rfl
    · rcases h.hc with e | e | e <;> contradiction
  have hidx : ∀ d : UInt8, d ∉ brk k c ks → B.idx (brk k c ks) [d] = -1 := by
    intro d hd
    unfold B.idx
    rw [B.findSub_byte, List.findIdx?_eq_none_iff.2 (by intro x hx; simp; rintro rfl; exact hd hx)]
  have hne : brk k c ks ≠ [] := by
    have := h.n
    intro e
    unfold brk at e
    obtain ⟨_, e⟩ := List.append_eq_nil_iff.1 e
    cases ks with
    | nil => simp at this
    | cons a b => rw [marks_cons] at e; cases e
  have hnl : B.nextLine (brk k c ks) = ((brk k c ks, 0), []) := by
    unfold B.nextLine
    rw [hidx 13 (hno 13 (by decide) (by decide) (by decide) (by decide)), hidx 10 (hno 10 (by decide) (by decide) (by decide) (by decide))]
    rfl
  refine ⟨?_, B.no_nul (hno 0 (by decide) (by decide) (by decide) (by decide))⟩
  rw [B.lines_cons hne, hnl, B.lines_nil]

end Go.Proofs.YtbfmmikllelfeaaGreatDoor

/- Indented lines, in plain Lean. -/
namespace Go.Proofs.YtbfmmikllelfeaaGreatDoor
open Go.RowKit

theorem Ln.step_space {x : Ln} {r : List UInt8} (eol : Bool) (hs : x.spaces = 0) (hr : x.rest = 32 :: r) : x.step eol = some { x with i := x.i + 1 } := by
  have hc : x.ch = some 32 := by rw [ch_rest, hr]; rfl
  unfold step
  rw [if_neg (by omega), hc]
  rfl

theorem Ln.trimGo_exact (min : Nat) (eol : Bool) : ∀ (m n : Nat) (x : Ln) (r : List UInt8), x.spaces = 0 → x.rest = List.replicate m 32 ++ r → x.trimGo min eol m n = some { x with i := x.i + m }
  | 0, _, _, _, _, _ => rfl
  | m + 1, n, x, r, hs, hr => by
    have hr' : x.rest = 32 :: (List.replicate m 32 ++ r) := by rw [hr, List.replicate_succ]; rfl
    simp only [trimGo, step_space eol hs hr']
    rw [trimGo_exact min eol m (n + 1) { x with i := x.i + 1 } r hs (rest_next hr' x.spaces x.tab)]
    simp only [Option.some.injEq, Ln.mk.injEq, true_and, and_true]
    omega

theorem Ln.item_exact : ∀ (m : Nat) (x : Ln) (r : List UInt8), x.spaces = 0 → x.rest = List.replicate m 32 ++ r → Ln.item m x = { x with i := x.i + m }
  | 0, _, _, _, _ => rfl
  | m + 1, x, r, hs, hr => by
    have hr' : x.rest = 32 :: (List.replicate m 32 ++ r) := by rw [hr, List.replicate_succ]; rfl
    have h1 : x.trimSpace 1 1 false = some { x with i := x.i + 1 } := trimGo_exact 1 false 1 0 x _ hs hr'
    simp only [item, h1]
    rw [item_exact m { x with i := x.i + 1 } r hs (rest_next hr' x.spaces x.tab)]
    simp only [Ln.mk.injEq, true_and, and_true]
    omega

theorem Ln.trimGo_eol (min : Nat) : ∀ (m n : Nat) (x : Ln), x.spaces = 0 → x.rest = [] → x.trimGo min true m n = some x
  | 0, _, _, _, _ => rfl
  | m + 1, n, x, hs, hr => by
    have hc : x.ch = none := by rw [ch_rest, hr]; rfl
    have h1 : x.step true = some x := by
      unfold step
      rw [if_neg (by omega), hc]; rfl
    simp only [trimGo, h1]
    exact trimGo_eol min m (n + 1) x hs hr

/-- A line of code, indented. -/
def indL (s : List UInt8) : List UInt8 := if s = [] then [] else List.replicate 4 32 ++ s

theorem indL_drop (s : List UInt8) : (indL s).drop 4 = s := by
  unfold indL
  split
  · next h => rw [h]; rfl
  · rfl

theorem indL_len (s : List UInt8) : (indL s).length ≤ s.length + 4 := by
  unfold indL
  split <;> simp

theorem lineOf_rest (s : List UInt8) (nl : UInt8) : (LineOf (s, nl)).rest = s := by
  show (B.bs s).data.toList.drop 0 = _
  rw [B.bs_data]; rfl

theorem lineOf_ok (s : List UInt8) (nl : UInt8) (h : s.length ≤ 1000000000000) : (LineOf (s, nl)).OK :=
  ⟨Nat.le_refl _, Nat.zero_le _, Nat.zero_le _, h⟩

theorem ind_ext (s : List UInt8) (nl : UInt8) : ∃ l4, (LineOf (indL s, nl)).trimSpace 4 4 true = some l4 ∧ l4.str = s := by
  by_cases h : s = []
  · subst h
    exact ⟨_, Ln.trimGo_eol 4 4 0 _ rfl (lineOf_rest _ _), rfl⟩
  · have hr : (LineOf (indL s, nl)).rest = List.replicate 4 32 ++ s := by rw [lineOf_rest, indL, if_neg h]
    refine ⟨_, Ln.trimGo_exact 4 true 4 0 _ s rfl hr, ?_⟩
    unfold Ln.str
    rw [Ln.rest_at hr _ _ 4 rfl]; rfl

theorem trimL_ink {s : List UInt8} (h : ∃ c ∈ s, c ≠ 32 ∧ c ≠ 9) : (B.trimL s).isEmpty = false := by
  obtain ⟨c, hc, h1, h2⟩ := h
  have : c ∈ B.trimL s ∨ B.isST c = true := by
    unfold B.trimL
    induction s with
    | nil => cases hc
    | cons a t ih =>
      rw [List.dropWhile_cons]
      split
      · rcases List.mem_cons.1 hc with rfl | hc
        · next h => exact .inr h
        · exact ih hc
      · exact .inl hc
  rcases this with h | h
  · cases e : B.trimL s with
    | nil => rw [e] at h; cases h
    | cons => rfl
  · simp [B.isST, h1, h2] at h

theorem trimR_ink {s : List UInt8} (h : ∃ c ∈ s, c ≠ 32 ∧ c ≠ 9) : B.trimR (B.trimL s) ≠ [] := by
  have h1 : ∃ c ∈ B.trimL s, c ≠ 32 ∧ c ≠ 9 := by
    obtain ⟨c, hc, h1, h2⟩ := h
    refine ⟨c, ?_, h1, h2⟩
    unfold B.trimL
    induction s with
    | nil => cases hc
    | cons a t ih =>
      rw [List.dropWhile_cons]
      split
      · rcases List.mem_cons.1 hc with rfl | hc
        · next h => simp [B.isST, h1, h2] at h
        · exact ih hc
      · exact hc
  obtain ⟨c, hc, h1, h2⟩ := h1
  intro e
  have h3 := trimL_ink (s := (B.trimL s).reverse) ⟨c, by simpa using hc, h1, h2⟩
  unfold B.trimR at e
  unfold B.trimL at e h3
  rw [List.reverse_eq_nil_iff] at e
  rw [e] at h3
  cases h3

theorem Ln.trim_none {x : Ln} {d : UInt8} (hs : x.spaces = 0) (hc : x.ch ≠ some d) : x.trim d = none := by
  unfold trim
  rw [if_neg (by omega), if_neg hc]
theorem Ln.peek_of {x : Ln} {c : UInt8} (hs : x.spaces = 0) (hc : x.ch = some c) : x.peek = c := by
  unfold peek
  rw [if_neg (by omega), hc]; rfl

structure FirstInd (s : List UInt8) (nl : UInt8) : Prop where
  ok : (LineOf (indL s, nl)).OK
  quote : (LineOf (indL s, nl)).quote = none
  heading : (LineOf (indL s, nl)).heading = none
  hr : (LineOf (indL s, nl)).hr = false
  item : (Ln.item 3 (LineOf (indL s, nl))).peek = 32
  indent : (LineOf (indL s, nl)).indent.peek = 32
  blank : (LineOf (indL s, nl)).blank = false
  pre : ∃ l4, (LineOf (indL s, nl)).trimSpace 4 4 false = some l4 ∧ l4.blank = false ∧ l4.str = s

theorem firstInd {s : List UInt8} {nl : UInt8} (hz : s.length ≤ 1000000000) (h : ∃ c ∈ s, c ≠ 32 ∧ c ≠ 9) : FirstInd s nl := by
  have hne : s ≠ [] := by rintro rfl; obtain ⟨c, hc, _⟩ := h; cases hc
  have hr : (LineOf (indL s, nl)).rest = List.replicate 4 32 ++ s := by rw [lineOf_rest, indL, if_neg hne]
  have hr3 : (LineOf (indL s, nl)).rest = List.replicate 3 32 ++ (32 :: s) := hr
  obtain ⟨y, hin, hit, hys, hri⟩ : ∃ y : Ln, (LineOf (indL s, nl)).indent = y ∧ Ln.item 3 (LineOf (indL s, nl)) = y ∧ y.spaces = 0 ∧ y.rest = 32 :: s := by
    refine ⟨_, ?_, Ln.item_exact 3 _ _ rfl hr3, rfl, Ln.rest_at hr3 0 0 3 rfl⟩
    unfold Ln.indent Ln.trimSpace
    rw [Ln.trimGo_exact 0 false 3 0 _ _ rfl hr3]; rfl
  have hch : y.ch = some 32 := by rw [Ln.ch_rest, hri]; rfl
  have hpk : y.peek = 32 := Ln.peek_of hys hch
  have htr : ∀ d : UInt8, (32 : UInt8) ≠ d → (LineOf (indL s, nl)).indent.trim d = none := by
    intro d hd
    rw [hin]
    exact Ln.trim_none hys (by rw [hch]; simpa using hd)
  refine ⟨lineOf_ok _ _ ?_, ?_, ?_, ?_, ?_, ?_, ?_, ?_⟩
  · have := indL_len s; omega
  · unfold Ln.quote; rw [htr 62 (by decide)]; rfl
  · unfold Ln.heading; rw [htr 35 (by decide)]
  · unfold Ln.hr; rw [hin, hpk]; rfl
  · rw [hit]; exact hpk
  · rw [hin]; exact hpk
  · show (B.trimL _).isEmpty = false
    rw [hr]
    exact trimL_ink (by obtain ⟨c, hc, h1⟩ := h; exact ⟨c, List.mem_append.2 (.inr hc), h1⟩)
  · refine ⟨_, Ln.trimGo_exact 4 false 4 0 _ s rfl hr, ?_, ?_⟩
    · show (B.trimL _).isEmpty = false
      rw [Ln.rest_at hr _ _ 4 rfl]
      exact trimL_ink h
    · unfold Ln.str
      rw [Ln.rest_at hr _ _ 4 rfl]; rfl

/-- The lines of an indented block of code. -/
structure IndText (L : List (List UInt8 × UInt8)) : Prop where
  first : ∃ s nl rest, L = (indL s, nl) :: rest ∧ ∃ c ∈ s, c ≠ 32 ∧ c ≠ 9
  all : ∀ l ∈ L, ∃ s nl, l = (indL s, nl) ∧ s.length ≤ 1000000000
  len : L.length ≤ 1000000
  last : ∃ s nl, L.getLast? = some (indL s, nl) ∧ ∃ c ∈ s, c ≠ 32 ∧ c ≠ 9

/-- Texts, one behind the other, with line feeds between. -/
def joinNL : List (List UInt8) → List UInt8
  | [] => []
  | [a] => a
  | a :: b :: t => a ++ 10 :: joinNL (b :: t)
def nlLines : List (List UInt8) → List (List UInt8 × UInt8)
  | [] => []
  | [a] => [(a, 0)]
  | a :: b :: t => (a, 10) :: nlLines (b :: t)

theorem B.idx_none {l : List UInt8} {c : UInt8} (h : c ∉ l) : B.idx l [c] = -1 := by
  unfold B.idx
  rw [B.findSub_byte, List.findIdx?_eq_none_iff.2 (by intro x hx; simp; rintro rfl; exact h hx)]

theorem B.idx_at {l r : List UInt8} {c : UInt8} (h : c ∉ l) : B.idx (l ++ c :: r) [c] = l.length := by
  unfold B.idx
  rw [B.findSub_byte]
  have : (l ++ c :: r).findIdx? (· == c) = some l.length := by
    rw [List.findIdx?_append, List.findIdx?_eq_none_iff.2 (by intro x hx; simp; rintro rfl; exact h hx)]
    simp [List.findIdx?_cons]
  rw [this]

theorem joinNL_mem : ∀ {ts : List (List UInt8)} {c : UInt8}, c ∈ joinNL ts → c = 10 ∨ ∃ t ∈ ts, c ∈ t
  | [a], c, h => .inr ⟨a, by simp, h⟩
  | a :: b :: t, c, h => by
    rcases List.mem_append.1 h with h | h
    · exact .inr ⟨a, by simp, h⟩
    · rcases List.mem_cons.1 h with h | h
      · exact .inl h
      · rcases joinNL_mem h with h | ⟨t', ht, hc⟩
        · exact .inl h
        · exact .inr ⟨t', List.mem_cons_of_mem _ ht, hc⟩

theorem lines_join : ∀ (ts : List (List UInt8)), (∀ t ∈ ts, 10 ∉ t ∧ 13 ∉ t) → ts.getLast? ≠ some [] → B.lines (joinNL ts) = nlLines ts
  | [], _, _ => B.lines_nil
  | [a], h, hl => by
    have ha := h a (by simp)
    have hne : a ≠ [] := by simpa using hl
    have hn : B.nextLine a = ((a, 0), []) := by
      unfold B.nextLine
      rw [B.idx_none ha.2, B.idx_none ha.1]; rfl
    show B.lines a = _
    rw [B.lines_cons hne, hn, B.lines_nil]; rfl
  | a :: b :: t, h, hl => by
    have ha := h a (by simp)
    have ih := lines_join (b :: t) (fun x hx => h x (List.mem_cons_of_mem _ hx)) (by simpa using hl)
    have h13 : (13 : UInt8) ∉ a ++ 10 :: joinNL (b :: t) := by
      intro hc
      rcases List.mem_append.1 hc with hc | hc
      · exact ha.2 hc
      · rcases List.mem_cons.1 hc with hc | hc
        · exact absurd hc (by decide)
        · rcases joinNL_mem hc with hc | ⟨t', ht, hc⟩
          · exact absurd hc (by decide)
          · exact (h t' (List.mem_cons_of_mem _ ht)).2 hc
    have hn : B.nextLine (a ++ 10 :: joinNL (b :: t)) = ((a, 10), joinNL (b :: t)) := by
      unfold B.nextLine
      rw [B.idx_none h13, B.idx_at ha.1, if_neg (by omega), if_pos (by omega)]
      simp
    show B.lines (a ++ 10 :: joinNL (b :: t)) = _
    rw [B.lines_cons (by simp), hn, ih]; rfl

theorem nlLines_fst : ∀ ts : List (List UInt8), (nlLines ts).map (·.1) = ts
  | [] => rfl
  | [a] => rfl
  | a :: b :: t => by
    show a :: (nlLines (b :: t)).map (·.1) = _
    rw [nlLines_fst (b :: t)]

end Go.Proofs.YtbfmmikllelfeaaGreatDoor
