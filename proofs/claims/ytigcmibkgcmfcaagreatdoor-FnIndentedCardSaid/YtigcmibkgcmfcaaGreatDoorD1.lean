/- The state when the root alone is open and some blocks lie in it; what closing it leaves. -/
import Derived.Test.YtigcmibkgcmfcaaGreatDoorBl
namespace Go.Proofs.YtigcmibkgcmfcaaGreatDoor
open Go.RowKit Sl

/-- What a state of the root alone is made of: the builder, the stack's block and room, the depth, the corner, the blocks. -/
structure RootX where
  r : Nat
  g : Nat
  cap : Nat
  dep : Int
  corner : Bool
  inn : SV
  items : List Value

noncomputable def RootX.st (x : RootX) (pb n : Nat) : PSt := { PSt.first pb x.g x.cap bt0 with lineno := n, depth := x.dep, corner := x.corner }

/-- The root alone is open, after n lines; its blocks are as C says. -/
noncomputable def RootHas (pb n : Nat) (C : List Value → HP) (p : Nat) : HP := Sl.ex fun x : RootX =>
  Sl.pur (x.inn.len = x.items.length ∧ x.items.length ≤ 1000000000) * (row p 92 (x.st pb n).cells * (arr 118 4 (.slice (some ⟨x.g, 0, none⟩) 1 x.cap) 1 [.iface 95 (.pointer (some ⟨x.r, 0, none⟩)), x.inn.v, .int .i64 0, .int .i64 0] *
    (arr 66 1 x.inn.v x.inn.len x.items * C x.items)))

theorem rootHas_iff {w : World} {pb n p : Nat} {C : List Value → HP} {F : HP} : Sat w (RootHas pb n C p * F) ↔ ∃ x : RootX, (x.inn.len = x.items.length ∧ x.items.length ≤ 1000000000) ∧
    Sat w (row p 92 (x.st pb n).cells * (arr 118 4 (.slice (some ⟨x.g, 0, none⟩) 1 x.cap) 1 [.iface 95 (.pointer (some ⟨x.r, 0, none⟩)), x.inn.v, .int .i64 0, .int .i64 0] * (arr 66 1 x.inn.v x.inn.len x.items * (C x.items * F)))) := by
  constructor
  · intro h
    obtain ⟨x, h⟩ := h.ex
    obtain ⟨h1, h2⟩ := (h.cast (star_assoc _ _ _)).pur
    exact ⟨x, h1, h2.cast (by ac_rfl)⟩
  · rintro ⟨x, h1, h2⟩
    refine Sat.ex_mk x ?_
    rw [star_assoc, pur_star h1]
    exact h2.cast (by ac_rfl)

/-- What the parsed document is made of. -/
structure DocX where
  g : Nat
  cap : Nat
  dep : Int
  corner : Bool
  inn : SV
  d : Nat
  items : List Value

noncomputable def DocX.st (x : DocX) (pb n : Nat) : PSt := { PSt.first pb x.g x.cap bt0 with lineno := n, depth := x.dep, corner := x.corner, stack := ⟨some ⟨x.g, 0, none⟩, 0, x.cap⟩, root := some ⟨x.d, 0, none⟩ }

/-- All is closed: the document lies in block d. No text is left to be read as inlines. -/
noncomputable def DocHas (pb n : Nat) (C : List Value → HP) (p : Nat) (tx : SV) (_ : Nat) : HP := Sl.ex fun x : DocX =>
  Sl.pur (tx = ⟨none, 0, 0⟩ ∧ x.inn.len = x.items.length ∧ x.items.length ≤ 1000000000) * (row p 92 (x.st pb n).cells * (row x.d 337 [.int .i64 0, .int .i64 0, x.inn.v, .map none] *
    (arr 66 1 x.inn.v x.inn.len x.items * C x.items)))

theorem docHas_iff {w : World} {pb n p i : Nat} {tx : SV} {C : List Value → HP} {F : HP} : Sat w (DocHas pb n C p tx i * F) ↔ ∃ x : DocX, (tx = ⟨none, 0, 0⟩ ∧ x.inn.len = x.items.length ∧ x.items.length ≤ 1000000000) ∧
    Sat w (row p 92 (x.st pb n).cells * (row x.d 337 [.int .i64 0, .int .i64 0, x.inn.v, .map none] * (arr 66 1 x.inn.v x.inn.len x.items * (C x.items * F)))) := by
  constructor
  · intro h
    obtain ⟨x, h⟩ := h.ex
    obtain ⟨h1, h2⟩ := (h.cast (star_assoc _ _ _)).pur
    exact ⟨x, h1, h2.cast (by ac_rfl)⟩
  · rintro ⟨x, h1, h2⟩
    refine Sat.ex_mk x ?_
    rw [star_assoc, pur_star h1]
    exact h2.cast (by ac_rfl)

theorem rootHas_len {w : World} {pb n p : Nat} {C : List Value → HP} {F : HP} (h : Sat w (RootHas pb n C p * F)) : ∃ a c, w.cell? ⟨p, 4, none⟩ = some (.slice a 1 c) := by
  obtain ⟨x, _, h⟩ := rootHas_iff.1 h
  exact ⟨_, _, (PSt.facts h).2.2.2.2.1⟩

theorem docHas_len {w : World} {pb n p i : Nat} {tx : SV} {C : List Value → HP} {F : HP} (h : Sat w (DocHas pb n C p tx i * F)) : ∃ a c, w.cell? ⟨p, 4, none⟩ = some (.slice a 0 c) := by
  obtain ⟨x, _, h⟩ := docHas_iff.1 h
  exact ⟨_, _, (PSt.facts h).2.2.2.2.1⟩

theorem closeRootHas (pb n p : Nat) (C : List Value → HP) (F : HP) (w : World) (h : Sat w (RootHas pb n C p * F)) :
    Calls Tryz.prog 61 #[.pointer (some ⟨p, 0, none⟩)] w fun e w' => ∃ v, e = .returned v ∧ Sat w' (DocHas pb n C p ⟨none, 0, 0⟩ 0 * F) := by
  obtain ⟨x, hx, h⟩ := rootHas_iff.1 h
  obtain ⟨junk, _, _, _, _, h2⟩ := h.swap.arr_row
  refine (closeRoot_w ⟨x.r, 0, none⟩ p x.g x.cap 0 0 x.inn.a x.inn.len x.inn.cap (x.st pb n) junk _ w rfl h2.swap).mono ?_
  rintro e w' ⟨d, rfl, h5⟩
  exact ⟨_, rfl, docHas_iff.2 ⟨⟨x.g, x.cap, x.dep, x.corner, x.inn, d, x.items⟩, ⟨rfl, hx⟩, h5⟩⟩

theorem trimRoot (pb n p : Nat) (C : List Value → HP) (F : HP) (w : World) (hs : Sat w (RootHas pb n C p * F)) :
    Calls Tryz.prog 52 #[.pointer (some ⟨p, 0, none⟩), .int .i64 0] w fun e w' => e = .returned (.tuple #[]) ∧ Sat w' (DocHas pb n C p ⟨none, 0, 0⟩ 0 * F) := by
  refine (trimStack_w p 0 1 (by decide) (by decide) (fun k => if k = 1 then RootHas pb n C p else DocHas pb n C p ⟨none, 0, 0⟩ 0) F ?_ ?_ w hs).mono ?_
  · intro k w _ h1 h
    by_cases hk : k = 1
    · subst hk; exact rootHas_len h
    · obtain rfl : k = 0 := by omega
      exact docHas_len (i := 0) h
  · intro k w _ h1 h
    obtain rfl : k = 0 := by omega
    exact closeRootHas pb n p C F w h
  · rintro e w' ⟨rfl, h⟩
    exact ⟨rfl, h⟩

/-- What follows the last line, where trimStack leaves the document and no text. -/
theorem ends_of (K : Nat → List (List UInt8 × UInt8) → HP) (pb n : Nat) (C : List Value → HP) (text : List UInt8)
    (hc : ∀ p w F, Sat w (K p (B.lines text) * F) → Calls Tryz.prog 52 #[.pointer (some ⟨p, 0, none⟩), .int .i64 0] w fun e w' => e = .returned (.tuple #[]) ∧ Sat w' (DocHas pb n C p ⟨none, 0, 0⟩ 0 * F)) :
    Ends K (DocHas pb n C) text where
  close := by
    intro p w F hs
    refine (hc p w F hs).mono ?_
    rintro e w' ⟨rfl, h⟩
    exact ⟨rfl, ⟨none, 0, 0⟩, by decide, h⟩
  state := by
    intro p tx i w F h
    obtain ⟨x, ⟨rfl, _⟩, h2⟩ := docHas_iff.1 h
    exact ⟨x.st pb n, row x.d 337 [.int .i64 0, .int .i64 0, x.inn.v, .map none] * (arr 66 1 x.inn.v x.inn.len x.items * C x.items), rfl, h2.cast (by ac_rfl)⟩
  text := by
    intro p tx i w F h hi
    obtain ⟨x, ⟨rfl, _⟩, h2⟩ := docHas_iff.1 h
    simp at hi

/-- The first state: the root, and nothing in it. -/
theorem rootHas_first (pb : Nat) : ∀ p r g cap w F, Sat w (row p 92 (PSt.first pb g cap bt0).cells * (arr 118 4 (.slice (some ⟨g, 0, none⟩) 1 cap) 1 [.iface 95 (.pointer (some ⟨r, 0, none⟩)), .slice none 0 0, .int .i64 0, .int .i64 0] * F)) →
    Sat w (RootHas pb 0 (fun l => Sl.pur (l = [])) p * F) := by
  intro p r g cap w F h
  refine rootHas_iff.2 ⟨⟨r, g, cap, -1, false, ⟨none, 0, 0⟩, []⟩, ⟨rfl, Nat.zero_le _⟩, ?_⟩
  rw [show arr 66 1 (⟨none, 0, 0⟩ : SV).v 0 [] = emp from arr_nil _ _, emp_star, pur_star rfl]
  exact h

end Go.Proofs.YtigcmibkgcmfcaaGreatDoor
