/- Walks: closing blocks down to a depth. -/
import Derived.Test.YtmdabdpghcjplaaGreatDoorP1
import Derived.Test.YtmdabdpghcjplaaGreatDoorPa
import Derived.Deep.LoopGhost
namespace Go.Proofs.YtmdabdpghcjplaaGreatDoor
open Go.RowKit Sl

set_option maxRecDepth 100000 in
set_option maxHeartbeats 400000 in
theorem trimStack_w (p d n : Nat) (hdn : d ≤ n) (_hn : n ≤ 1000000000) (S : Nat → HP) (F : HP)
    (hlen : ∀ k w, d ≤ k → k ≤ n → Sat w (S k * F) → ∃ a c, w.cell? ⟨p, 4, none⟩ = some (.slice a k c))
    (hclose : ∀ k w, d ≤ k → k < n → Sat w (S (k + 1) * F) → Calls Tryz.prog 65 #[.pointer (some ⟨p, 0, none⟩)] w fun e w' => ∃ v, e = .returned v ∧ Sat w' (S k * F))
    (w : World) (hs : Sat w (S n * F)) :
    Calls Tryz.prog 56 #[.pointer (some ⟨p, 0, none⟩), .int .i64 d] w fun e w' => e = .returned (.tuple #[]) ∧ Sat w' (S d * F) := by
  obtain ⟨a0, c0, h40⟩ := hlen n w hdn (Nat.le_refl _) hs
  have hdec : decide (n < d) = false := by simp; omega
  go_enter Tryz.func56, Tryz.ntmps56
  go_wp2
  clear h40
  go_loopg [] n (fun k wr => d ≤ k ∧ k ≤ n ∧ Sat wr (S k * F))
  case atStart => exact ⟨hdn, Nat.le_refl _, hs⟩
  case round =>
    obtain ⟨h1, h2, h3⟩ := hrel
    obtain ⟨a, c, h4⟩ := hlen gk wr h1 h2 h3
    by_cases hlt : d < gk
    · obtain ⟨k, rfl⟩ : ∃ k, gk = k + 1 := ⟨gk - 1, by omega⟩
      go_wp2_with fail
      refine (hclose k wr (by omega) (by omega) h3).mono ?_
      rintro e w' ⟨v, rfl, h5⟩
      go_wp2
      go_roundg k
      case measure => omega
      case rel => exact ⟨by omega, by omega, h5⟩
    · obtain rfl : gk = d := by omega
      go_wp2
      go_end0
      exact ⟨rfl, h3⟩

end Go.Proofs.YtmdabdpghcjplaaGreatDoor

/- What parse does to a blank text: the state line by line, and what closing the root leaves. -/
namespace Go.Proofs.YtmdabdpghcjplaaGreatDoor
open Go.RowKit Sl

/-- The state while the root alone is open, and nothing lies in it: after n lines. -/
def RootOnly (pb : Nat) (p : Nat) (done : List (List UInt8 × UInt8)) : HP :=
  Sl.ex fun r : Nat => Sl.ex fun g : Nat => Sl.ex fun cap : Nat => Sl.ex fun d : Int =>
    row p 96 { PSt.first pb g cap bt0 with lineno := done.length, depth := d }.cells *
      arr 122 4 (.slice (some ⟨g, 0, none⟩) 1 cap) 1 [.iface 99 (.pointer (some ⟨r, 0, none⟩)), .slice none 0 0, .int .i64 0, .int .i64 0]

theorem ex4 {w : World} {α β γ δ : Type} {P : α → β → γ → δ → HP} {F : HP} : Sat w ((Sl.ex fun a => Sl.ex fun b => Sl.ex fun c => Sl.ex fun d => P a b c d) * F) ↔ ∃ a b c d, Sat w (P a b c d * F) := by
  constructor
  · intro h
    obtain ⟨a, h⟩ := h.ex
    obtain ⟨b, h⟩ := h.ex
    obtain ⟨c, h⟩ := h.ex
    obtain ⟨d, h⟩ := h.ex
    exact ⟨a, b, c, d, h⟩
  · rintro ⟨a, b, c, d, h⟩
    exact (((h.ex_mk d).ex_mk c).ex_mk b).ex_mk a

theorem blank_lines (pb : Nat) (text : List UInt8) (hb : ∀ l ∈ B.lines text, (LineOf l).blank = true) (hsz : ∀ l ∈ B.lines text, l.1.length ≤ 1000000000) : Lines (RootOnly pb) pb text where
  first := by
    intro p r g cap w F h
    exact ex4.2 ⟨r, g, cap, -1, h.cast (star_assoc _ _ _).symm⟩
  next := by
    intro p done l rest w F hl hs
    obtain ⟨r, g, cap, d, h⟩ := ex4.1 hs
    refine ⟨_, _, rfl, h.cast (star_assoc _ _ _), fun w' hs' => ?_⟩
    have hm : l ∈ B.lines text := by rw [hl]; simp
    refine (addLine_blank p (LineOf l) _ _ w' rfl (hb l hm) (Nat.zero_le _) ?_ hs').mono ?_
    · have := hsz l hm
      show (B.bs l.1).size ≤ _
      rw [B.bs_size]; omega
    rintro e w'' ⟨rfl, h5⟩
    refine ⟨rfl, ex4.2 ⟨r, g, cap, 0, (h5.cast (star_assoc _ _ _).symm).cast ?_⟩⟩
    simp only [List.length_append, List.length_singleton, Int.natCast_add, Int.cast_ofNat_Int]

/-- The state when the root has been closed, nothing in it: the document lies in block d. -/
def Emptied (pb : Nat) (m : Nat) (p : Nat) (tx : SV) (_ : Nat) : HP :=
  Sl.pur (tx = ⟨none, 0, 0⟩) * Sl.ex fun g : Nat => Sl.ex fun cap : Nat => Sl.ex fun dep : Int => Sl.ex fun d : Nat =>
    row p 96 { PSt.first pb g cap bt0 with lineno := m, depth := dep, stack := ⟨some ⟨g, 0, none⟩, 0, cap⟩, root := some ⟨d, 0, none⟩ }.cells * row d 341 [.int .i64 0, .int .i64 0, .slice none 0 0, .map none]

theorem emptied_iff {w : World} {pb m p i : Nat} {tx : SV} {F : HP} : Sat w (Emptied pb m p tx i * F) ↔ tx = ⟨none, 0, 0⟩ ∧ ∃ g cap dep d,
    Sat w (row p 96 { PSt.first pb g cap bt0 with lineno := m, depth := dep, stack := ⟨some ⟨g, 0, none⟩, 0, cap⟩, root := some ⟨d, 0, none⟩ }.cells * row d 341 [.int .i64 0, .int .i64 0, .slice none 0 0, .map none] * F) := by
  unfold Emptied
  constructor
  · intro h
    obtain ⟨h1, h2⟩ := (h.cast (star_assoc _ _ _)).pur
    exact ⟨h1, ex4.1 h2⟩
  · rintro ⟨h1, h2⟩
    rw [star_assoc, pur_star h1]
    exact ex4.2 h2

theorem blank_ends (pb : Nat) (text : List UInt8) : Ends (RootOnly pb) (Emptied pb (B.lines text).length) text where
  close := by
    intro p w F hs
    refine (trimStack_w p 0 1 (by decide) (by decide) (fun k => if k = 1 then RootOnly pb p (B.lines text) else Emptied pb (B.lines text).length p ⟨none, 0, 0⟩ 0) F ?_ ?_ w hs).mono ?_
    · intro k w _ h1 h
      by_cases hk : k = 1
      · subst hk
        obtain ⟨r, g, cap, d, h⟩ := ex4.1 h
        exact ⟨_, _, (PSt.facts (h.cast (star_assoc _ _ _))).2.2.2.2.1⟩
      · obtain rfl : k = 0 := by omega
        obtain ⟨_, g, cap, dep, d, h⟩ := (emptied_iff (i := 0)).1 h
        exact ⟨_, _, (PSt.facts (h.cast (star_assoc _ _ _))).2.2.2.2.1⟩
    · intro k w _ h1 h
      obtain rfl : k = 0 := by omega
      obtain ⟨r, g, cap, d, h⟩ := ex4.1 h
      obtain ⟨junk, _, _, _, _, h2⟩ := ((h.cast (star_assoc _ _ _)).swap).arr_row
      refine (closeRoot_w ⟨r, 0, none⟩ p g cap 0 0 none 0 0 _ junk F w rfl h2.swap).mono ?_
      rintro e w' ⟨d, rfl, h5⟩
      exact ⟨_, rfl, (emptied_iff (i := 0)).2 ⟨rfl, g, cap, _, d, h5.cast (star_assoc _ _ _).symm⟩⟩
    · rintro e w' ⟨rfl, h⟩
      exact ⟨rfl, ⟨none, 0, 0⟩, by decide, h⟩
  state := by
    intro p tx i w F h
    obtain ⟨rfl, g, cap, dep, d, h⟩ := emptied_iff.1 h
    exact ⟨_, _, rfl, h.cast (star_assoc _ _ _)⟩
  text := by
    intro p tx i w F h hi
    obtain ⟨rfl, _⟩ := emptied_iff.1 h
    simp at hi

end Go.Proofs.YtmdabdpghcjplaaGreatDoor

/- Pure: what the lines of a text are made of; blank texts. -/
namespace Go.Proofs.YtmdabdpghcjplaaGreatDoor
namespace B

theorem idx_neg {l : List UInt8} {c : UInt8} (h : idx l [c] < 0) : c ∉ l := by
  unfold idx at h
  rw [findSub_byte] at h
  cases e : l.findIdx? (· == c) with
  | none => rw [List.findIdx?_eq_none_iff] at e; intro hm; simpa using e c hm
  | some k => rw [e] at h; simp at h; omega

theorem idx_before {l : List UInt8} {c : UInt8} {n : Nat} (h : (n : Int) ≤ idx l [c]) : c ∉ l.take n := by
  unfold idx at h
  rw [findSub_byte] at h
  cases e : l.findIdx? (· == c) with
  | none => rw [e] at h; simp at h; omega
  | some k =>
    rw [e] at h
    have hk : n ≤ k := by simp at h; omega
    rw [List.findIdx?_eq_some_iff_getElem] at e
    obtain ⟨hl, _, hm⟩ := e
    intro hc
    obtain ⟨j, hj, rfl⟩ := List.getElem_of_mem hc
    rw [List.length_take] at hj
    have := hm j (by omega)
    simp at this

theorem nextLine_line (l : List UInt8) : 10 ∉ (nextLine l).1.1 ∧ 13 ∉ (nextLine l).1.1 ∧ (nextLine l).1.1 <+: l ∧ (nextLine l).2 <:+ l := by
  unfold nextLine
  split
  · rename_i h
    have h10 : 10 ∉ l.take (idx l [13]).toNat := by
      by_cases h0 : idx l [10] < 0
      · exact fun hc => idx_neg h0 (List.mem_of_mem_take hc)
      · exact idx_before (by omega)
    have h13 : 13 ∉ l.take (idx l [13]).toNat := idx_before (by omega)
    split <;> exact ⟨h10, h13, List.take_prefix _ _, List.drop_suffix _ _⟩
  · rename_i h
    split
    · rename_i h0
      refine ⟨idx_before (by omega), ?_, List.take_prefix _ _, List.drop_suffix _ _⟩
      by_cases h1 : idx l [13] < 0
      · exact fun hc => idx_neg h1 (List.mem_of_mem_take hc)
      · exact idx_before (by omega)
    · rename_i h0
      have e0 : idx l [10] < 0 := by omega
      have e1 : idx l [13] < 0 := by omega
      exact ⟨idx_neg e0, idx_neg e1, List.prefix_refl _, List.nil_suffix⟩

theorem lines_mem (l : List UInt8) : ∀ x ∈ lines l, 10 ∉ x.1 ∧ 13 ∉ x.1 ∧ (∀ c ∈ x.1, c ∈ l) ∧ x.1.length ≤ l.length := by
  by_cases h : l = []
  · subst h; intro x hx; rw [lines_nil] at hx; cases hx
  · intro x hx
    rw [lines_cons h] at hx
    obtain ⟨h1, h2, h3, h4⟩ := nextLine_line l
    rcases List.mem_cons.1 hx with rfl | hx
    · exact ⟨h1, h2, fun c hc => h3.subset hc, h3.length_le⟩
    · have h5 := nextLine_lt h
      obtain ⟨i1, i2, i3, i4⟩ := lines_mem _ x hx
      exact ⟨i1, i2, fun c hc => h4.subset (i3 c hc), by omega⟩
termination_by l.length
decreasing_by exact nextLine_lt h

theorem trimL_all {l : List UInt8} (h : ∀ c ∈ l, isST c = true) : trimL l = [] := by
  unfold trimL
  induction l with
  | nil => rfl
  | cons c l ih =>
    rw [List.dropWhile_cons_of_pos (h c (by simp))]
    exact ih fun d hd => h d (by simp [hd])

theorem no_nul {l : List UInt8} (h : (0 : UInt8) ∉ l) : findSub [0] l = none := by
  rw [findSub_byte, List.findIdx?_eq_none_iff]
  intro x hx
  simp only [beq_eq_false_iff_ne]
  rintro rfl
  exact h hx
end B

/-- A text of spaces, tabs and line ends alone. -/
def AllWs (l : List UInt8) : Prop := ∀ c ∈ l, c = 32 ∨ c = 9 ∨ c = 10 ∨ c = 13

theorem AllWs.blank {l : List UInt8} (h : AllWs l) : ∀ x ∈ B.lines l, (LineOf x).blank = true := by
  intro x hx
  obtain ⟨h1, h2, h3, _⟩ := B.lines_mem l x hx
  unfold Ln.blank Ln.rest LineOf
  simp only [B.bs_data, List.drop_zero]
  rw [B.trimL_all]
  · rfl
  · intro c hc
    rcases h c (h3 c hc) with rfl | rfl | rfl | rfl
    · rfl
    · rfl
    · exact absurd hc h1
    · exact absurd hc h2

theorem AllWs.nul {l : List UInt8} (h : AllWs l) : B.findSub [0] l = none := B.no_nul fun hc => by
  rcases h 0 hc with e | e | e | e <;> exact absurd e (by decide)
end Go.Proofs.YtmdabdpghcjplaaGreatDoor

/- The state when the root alone is open and some blocks lie in it; what closing it leaves. -/
namespace Go.Proofs.YtmdabdpghcjplaaGreatDoor
open Go.RowKit Sl

/-- What a state of the root alone is made of: the builder, the stack's block and room, the depth, the corner, the blocks. -/
structure RootX where
  r : Nat
  g : Nat
  cap : Nat
  dep : Int
  corner : Bool
  inn : SV
  items : List Value

noncomputable def RootX.st (x : RootX) (pb n : Nat) : PSt := { PSt.first pb x.g x.cap bt0 with lineno := n, depth := x.dep, corner := x.corner }

/-- The root alone is open, after n lines; its blocks are as C says. -/
noncomputable def RootHas (pb n : Nat) (C : List Value → HP) (p : Nat) : HP := Sl.ex fun x : RootX =>
  Sl.pur (x.inn.len = x.items.length ∧ x.items.length ≤ 1000000000) * (row p 96 (x.st pb n).cells * (arr 122 4 (.slice (some ⟨x.g, 0, none⟩) 1 x.cap) 1 [.iface 99 (.pointer (some ⟨x.r, 0, none⟩)), x.inn.v, .int .i64 0, .int .i64 0] *
    (arr 70 1 x.inn.v x.inn.len x.items * C x.items)))

theorem rootHas_iff {w : World} {pb n p : Nat} {C : List Value → HP} {F : HP} : Sat w (RootHas pb n C p * F) ↔ ∃ x : RootX, (x.inn.len = x.items.length ∧ x.items.length ≤ 1000000000) ∧
    Sat w (row p 96 (x.st pb n).cells * (arr 122 4 (.slice (some ⟨x.g, 0, none⟩) 1 x.cap) 1 [.iface 99 (.pointer (some ⟨x.r, 0, none⟩)), x.inn.v, .int .i64 0, .int .i64 0] * (arr 70 1 x.inn.v x.inn.len x.items * (C x.items * F)))) := by
  constructor
  · intro h
    obtain ⟨x, h⟩ := h.ex
    obtain ⟨h1, h2⟩ := (h.cast (star_assoc _ _ _)).pur
    exact ⟨x, h1, h2.cast (by ac_rfl)⟩
  · rintro ⟨x, h1, h2⟩
    refine Sat.ex_mk x ?_
    rw [star_assoc, pur_star h1]
    exact h2.cast (by ac_rfl)

/-- What the parsed document is made of. -/
structure DocX where
  g : Nat
  cap : Nat
  dep : Int
  corner : Bool
  inn : SV
  d : Nat
  items : List Value

noncomputable def DocX.st (x : DocX) (pb n : Nat) : PSt := { PSt.first pb x.g x.cap bt0 with lineno := n, depth := x.dep, corner := x.corner, stack := ⟨some ⟨x.g, 0, none⟩, 0, x.cap⟩, root := some ⟨x.d, 0, none⟩ }

/-- All is closed: the document lies in block d. No text is left to be read as inlines. -/
noncomputable def DocHas (pb n : Nat) (C : List Value → HP) (p : Nat) (tx : SV) (_ : Nat) : HP := Sl.ex fun x : DocX =>
  Sl.pur (tx = ⟨none, 0, 0⟩ ∧ x.inn.len = x.items.length ∧ x.items.length ≤ 1000000000) * (row p 96 (x.st pb n).cells * (row x.d 341 [.int .i64 0, .int .i64 0, x.inn.v, .map none] *
    (arr 70 1 x.inn.v x.inn.len x.items * C x.items)))

theorem docHas_iff {w : World} {pb n p i : Nat} {tx : SV} {C : List Value → HP} {F : HP} : Sat w (DocHas pb n C p tx i * F) ↔ ∃ x : DocX, (tx = ⟨none, 0, 0⟩ ∧ x.inn.len = x.items.length ∧ x.items.length ≤ 1000000000) ∧
    Sat w (row p 96 (x.st pb n).cells * (row x.d 341 [.int .i64 0, .int .i64 0, x.inn.v, .map none] * (arr 70 1 x.inn.v x.inn.len x.items * (C x.items * F)))) := by
  constructor
  · intro h
    obtain ⟨x, h⟩ := h.ex
    obtain ⟨h1, h2⟩ := (h.cast (star_assoc _ _ _)).pur
    exact ⟨x, h1, h2.cast (by ac_rfl)⟩
  · rintro ⟨x, h1, h2⟩
    refine Sat.ex_mk x ?_
    rw [star_assoc, pur_star h1]
    exact h2.cast (by ac_rfl)

theorem rootHas_len {w : World} {pb n p : Nat} {C : List Value → HP} {F : HP} (h : Sat w (RootHas pb n C p * F)) : ∃ a c, w.cell? ⟨p, 4, none⟩ = some (.slice a 1 c) := by
  obtain ⟨x, _, h⟩ := rootHas_iff.1 h
  exact ⟨_, _, (PSt.facts h).2.2.2.2.1⟩

theorem docHas_len {w : World} {pb n p i : Nat} {tx : SV} {C : List Value → HP} {F : HP} (h : Sat w (DocHas pb n C p tx i * F)) : ∃ a c, w.cell? ⟨p, 4, none⟩ = some (.slice a 0 c) := by
  obtain ⟨x, _, h⟩ := docHas_iff.1 h
  exact ⟨_, _, (PSt.facts h).2.2.2.2.1⟩

theorem closeRootHas (pb n p : Nat) (C : List Value → HP) (F : HP) (w : World) (h : Sat w (RootHas pb n C p * F)) :
    Calls Tryz.prog 65 #[.pointer (some ⟨p, 0, none⟩)] w fun e w' => ∃ v, e = .returned v ∧ Sat w' (DocHas pb n C p ⟨none, 0, 0⟩ 0 * F) := by
  obtain ⟨x, hx, h⟩ := rootHas_iff.1 h
  obtain ⟨junk, _, _, _, _, h2⟩ := h.swap.arr_row
  refine (closeRoot_w ⟨x.r, 0, none⟩ p x.g x.cap 0 0 x.inn.a x.inn.len x.inn.cap (x.st pb n) junk _ w rfl h2.swap).mono ?_
  rintro e w' ⟨d, rfl, h5⟩
  exact ⟨_, rfl, docHas_iff.2 ⟨⟨x.g, x.cap, x.dep, x.corner, x.inn, d, x.items⟩, ⟨rfl, hx⟩, h5⟩⟩

theorem trimRoot (pb n p : Nat) (C : List Value → HP) (F : HP) (w : World) (hs : Sat w (RootHas pb n C p * F)) :
    Calls Tryz.prog 56 #[.pointer (some ⟨p, 0, none⟩), .int .i64 0] w fun e w' => e = .returned (.tuple #[]) ∧ Sat w' (DocHas pb n C p ⟨none, 0, 0⟩ 0 * F) := by
  refine (trimStack_w p 0 1 (by decide) (by decide) (fun k => if k = 1 then RootHas pb n C p else DocHas pb n C p ⟨none, 0, 0⟩ 0) F ?_ ?_ w hs).mono ?_
  · intro k w _ h1 h
    by_cases hk : k = 1
    · subst hk; exact rootHas_len h
    · obtain rfl : k = 0 := by omega
      exact docHas_len (i := 0) h
  · intro k w _ h1 h
    obtain rfl : k = 0 := by omega
    exact closeRootHas pb n p C F w h
  · rintro e w' ⟨rfl, h⟩
    exact ⟨rfl, h⟩

/-- What follows the last line, where trimStack leaves the document and no text. -/
theorem ends_of (K : Nat → List (List UInt8 × UInt8) → HP) (pb n : Nat) (C : List Value → HP) (text : List UInt8)
    (hc : ∀ p w F, Sat w (K p (B.lines text) * F) → Calls Tryz.prog 56 #[.pointer (some ⟨p, 0, none⟩), .int .i64 0] w fun e w' => e = .returned (.tuple #[]) ∧ Sat w' (DocHas pb n C p ⟨none, 0, 0⟩ 0 * F)) :
    Ends K (DocHas pb n C) text where
  close := by
    intro p w F hs
    refine (hc p w F hs).mono ?_
    rintro e w' ⟨rfl, h⟩
    exact ⟨rfl, ⟨none, 0, 0⟩, by decide, h⟩
  state := by
    intro p tx i w F h
    obtain ⟨x, ⟨rfl, _⟩, h2⟩ := docHas_iff.1 h
    exact ⟨x.st pb n, row x.d 341 [.int .i64 0, .int .i64 0, x.inn.v, .map none] * (arr 70 1 x.inn.v x.inn.len x.items * C x.items), rfl, h2.cast (by ac_rfl)⟩
  text := by
    intro p tx i w F h hi
    obtain ⟨x, ⟨rfl, _⟩, h2⟩ := docHas_iff.1 h
    simp at hi

/-- The first state: the root, and nothing in it. -/
theorem rootHas_first (pb : Nat) : ∀ p r g cap w F, Sat w (row p 96 (PSt.first pb g cap bt0).cells * (arr 122 4 (.slice (some ⟨g, 0, none⟩) 1 cap) 1 [.iface 99 (.pointer (some ⟨r, 0, none⟩)), .slice none 0 0, .int .i64 0, .int .i64 0] * F)) →
    Sat w (RootHas pb 0 (fun l => Sl.pur (l = [])) p * F) := by
  intro p r g cap w F h
  refine rootHas_iff.2 ⟨⟨r, g, cap, -1, false, ⟨none, 0, 0⟩, []⟩, ⟨rfl, Nat.zero_le _⟩, ?_⟩
  rw [show arr 70 1 (⟨none, 0, 0⟩ : SV).v 0 [] = emp from arr_nil _ _, emp_star, pur_star rfl]
  exact h

end Go.Proofs.YtmdabdpghcjplaaGreatDoor
