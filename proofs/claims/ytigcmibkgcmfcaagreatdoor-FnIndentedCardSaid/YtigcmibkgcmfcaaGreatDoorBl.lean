/- What parse does to a blank text: the state line by line, and what closing the root leaves. -/
import Derived.Test.YtigcmibkgcmfcaaGreatDoorPa
import Derived.Test.YtigcmibkgcmfcaaGreatDoorP4
namespace Go.Proofs.YtigcmibkgcmfcaaGreatDoor
open Go.RowKit Sl

/-- The state while the root alone is open, and nothing lies in it: after n lines. -/
def RootOnly (pb : Nat) (p : Nat) (done : List (List UInt8 × UInt8)) : HP :=
  Sl.ex fun r : Nat => Sl.ex fun g : Nat => Sl.ex fun cap : Nat => Sl.ex fun d : Int =>
    row p 92 { PSt.first pb g cap bt0 with lineno := done.length, depth := d }.cells *
      arr 118 4 (.slice (some ⟨g, 0, none⟩) 1 cap) 1 [.iface 95 (.pointer (some ⟨r, 0, none⟩)), .slice none 0 0, .int .i64 0, .int .i64 0]

theorem ex4 {w : World} {α β γ δ : Type} {P : α → β → γ → δ → HP} {F : HP} : Sat w ((Sl.ex fun a => Sl.ex fun b => Sl.ex fun c => Sl.ex fun d => P a b c d) * F) ↔ ∃ a b c d, Sat w (P a b c d * F) := by
  constructor
  · intro h
    obtain ⟨a, h⟩ := h.ex
    obtain ⟨b, h⟩ := h.ex
    obtain ⟨c, h⟩ := h.ex
    obtain ⟨d, h⟩ := h.ex
    exact ⟨a, b, c, d, h⟩
  · rintro ⟨a, b, c, d, h⟩
    exact (((h.ex_mk d).ex_mk c).ex_mk b).ex_mk a

theorem blank_lines (pb : Nat) (text : List UInt8) (hb : ∀ l ∈ B.lines text, (LineOf l).blank = true) (hsz : ∀ l ∈ B.lines text, l.1.length ≤ 1000000000) : Lines (RootOnly pb) pb text where
  first := by
    intro p r g cap w F h
    exact ex4.2 ⟨r, g, cap, -1, h.cast (star_assoc _ _ _).symm⟩
  next := by
    intro p done l rest w F hl hs
    obtain ⟨r, g, cap, d, h⟩ := ex4.1 hs
    refine ⟨_, _, rfl, h.cast (star_assoc _ _ _), fun w' hs' => ?_⟩
    have hm : l ∈ B.lines text := by rw [hl]; simp
    refine (addLine_blank p (LineOf l) _ _ w' rfl (hb l hm) (Nat.zero_le _) ?_ hs').mono ?_
    · have := hsz l hm
      show (B.bs l.1).size ≤ _
      rw [B.bs_size]; omega
    rintro e w'' ⟨rfl, h5⟩
    refine ⟨rfl, ex4.2 ⟨r, g, cap, 0, (h5.cast (star_assoc _ _ _).symm).cast ?_⟩⟩
    simp only [List.length_append, List.length_singleton, Int.natCast_add, Int.cast_ofNat_Int]

/-- The state when the root has been closed, nothing in it: the document lies in block d. -/
def Emptied (pb : Nat) (m : Nat) (p : Nat) (tx : SV) (_ : Nat) : HP :=
  Sl.pur (tx = ⟨none, 0, 0⟩) * Sl.ex fun g : Nat => Sl.ex fun cap : Nat => Sl.ex fun dep : Int => Sl.ex fun d : Nat =>
    row p 92 { PSt.first pb g cap bt0 with lineno := m, depth := dep, stack := ⟨some ⟨g, 0, none⟩, 0, cap⟩, root := some ⟨d, 0, none⟩ }.cells * row d 337 [.int .i64 0, .int .i64 0, .slice none 0 0, .map none]

theorem emptied_iff {w : World} {pb m p i : Nat} {tx : SV} {F : HP} : Sat w (Emptied pb m p tx i * F) ↔ tx = ⟨none, 0, 0⟩ ∧ ∃ g cap dep d,
    Sat w (row p 92 { PSt.first pb g cap bt0 with lineno := m, depth := dep, stack := ⟨some ⟨g, 0, none⟩, 0, cap⟩, root := some ⟨d, 0, none⟩ }.cells * row d 337 [.int .i64 0, .int .i64 0, .slice none 0 0, .map none] * F) := by
  unfold Emptied
  constructor
  · intro h
    obtain ⟨h1, h2⟩ := (h.cast (star_assoc _ _ _)).pur
    exact ⟨h1, ex4.1 h2⟩
  · rintro ⟨h1, h2⟩
    rw [star_assoc, pur_star h1]
    exact ex4.2 h2

theorem blank_ends (pb : Nat) (text : List UInt8) : Ends (RootOnly pb) (Emptied pb (B.lines text).length) text where
  close := by
    intro p w F hs
    refine (trimStack_w p 0 1 (by decide) (by decide) (fun k => if k = 1 then RootOnly pb p (B.lines text) else Emptied pb (B.lines text).length p ⟨none, 0, 0⟩ 0) F ?_ ?_ w hs).mono ?_
    · intro k w _ h1 h
      by_cases hk : k = 1
      · subst hk
        obtain ⟨r, g, cap, d, h⟩ := ex4.1 h
        exact ⟨_, _, (PSt.facts (h.cast (star_assoc _ _ _))).2.2.2.2.1⟩
      · obtain rfl : k = 0 := by omega
        obtain ⟨_, g, cap, dep, d, h⟩ := (emptied_iff (i := 0)).1 h
        exact ⟨_, _, (PSt.facts (h.cast (star_assoc _ _ _))).2.2.2.2.1⟩
    · intro k w _ h1 h
      obtain rfl : k = 0 := by omega
      obtain ⟨r, g, cap, d, h⟩ := ex4.1 h
      obtain ⟨junk, _, _, _, _, h2⟩ := ((h.cast (star_assoc _ _ _)).swap).arr_row
      refine (closeRoot_w ⟨r, 0, none⟩ p g cap 0 0 none 0 0 _ junk F w rfl h2.swap).mono ?_
      rintro e w' ⟨d, rfl, h5⟩
      exact ⟨_, rfl, (emptied_iff (i := 0)).2 ⟨rfl, g, cap, _, d, h5.cast (star_assoc _ _ _).symm⟩⟩
    · rintro e w' ⟨rfl, h⟩
      exact ⟨rfl, ⟨none, 0, 0⟩, by decide, h⟩
  state := by
    intro p tx i w F h
    obtain ⟨rfl, g, cap, dep, d, h⟩ := emptied_iff.1 h
    exact ⟨_, _, rfl, h.cast (star_assoc _ _ _)⟩
  text := by
    intro p tx i w F h hi
    obtain ⟨rfl, _⟩ := emptied_iff.1 h
    simp at hi

end Go.Proofs.YtigcmibkgcmfcaaGreatDoor
