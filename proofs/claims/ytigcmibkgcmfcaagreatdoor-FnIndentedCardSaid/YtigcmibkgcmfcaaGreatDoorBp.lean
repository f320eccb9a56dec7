/- Pure: what the lines of a text are made of; blank texts. -/
import Derived.Test.YtigcmibkgcmfcaaGreatDoorBl
namespace Go.Proofs.YtigcmibkgcmfcaaGreatDoor
namespace B

theorem idx_neg {l : List UInt8} {c : UInt8} (h : idx l [c] < 0) : c ∉ l := by
  unfold idx at h
  rw [findSub_byte] at h
  cases e : l.findIdx? (· == c) with
  | none => rw [List.findIdx?_eq_none_iff] at e; intro hm; simpa using e c hm
  | some k => rw [e] at h; simp at h; omega

theorem idx_before {l : List UInt8} {c : UInt8} {n : Nat} (h : (n : Int) ≤ idx l [c]) : c ∉ l.take n := by
  unfold idx at h
  rw [findSub_byte] at h
  cases e : l.findIdx? (· == c) with
  | none => rw [e] at h; simp at h; omega
  | some k =>
    rw [e] at h
    have hk : n ≤ k := by simp at h; omega
    rw [List.findIdx?_eq_some_iff_getElem] at e
    obtain ⟨hl, _, hm⟩ := e
    intro hc
    obtain ⟨j, hj, rfl⟩ := List.getElem_of_mem hc
    rw [List.length_take] at hj
    have := hm j (by omega)
    simp at this

theorem nextLine_line (l : List UInt8) : 10 ∉ (nextLine l).1.1 ∧ 13 ∉ (nextLine l).1.1 ∧ (nextLine l).1.1 <+: l ∧ (nextLine l).2 <:+ l := by
  unfold nextLine
  split
  · rename_i h
    have h10 : 10 ∉ l.take (idx l [13]).toNat := by
      by_cases h0 : idx l [10] < 0
      · exact fun hc => idx_neg h0 (List.mem_of_mem_take hc)
      · exact idx_before (by omega)
    have h13 : 13 ∉ l.take (idx l [13]).toNat := idx_before (by omega)
    split <;> exact ⟨h10, h13, List.take_prefix _ _, List.drop_suffix _ _⟩
  · rename_i h
    split
    · rename_i h0
      refine ⟨idx_before (by omega), ?_, List.take_prefix _ _, List.drop_suffix _ _⟩
      by_cases h1 : idx l [13] < 0
      · exact fun hc => idx_neg h1 (List.mem_of_mem_take hc)
      · exact idx_before (by omega)
    · rename_i h0
      have e0 : idx l [10] < 0 := by omega
      have e1 : idx l [13] < 0 := by omega
      exact ⟨idx_neg e0, idx_neg e1, List.prefix_refl _, List.nil_suffix⟩

theorem lines_mem (l : List UInt8) : ∀ x ∈ lines l, 10 ∉ x.1 ∧ 13 ∉ x.1 ∧ (∀ c ∈ x.1, c ∈ l) ∧ x.1.length ≤ l.length := by
  by_cases h : l = []
  · subst h; intro x hx; rw [lines_nil] at hx; cases hx
  · intro x hx
    rw [lines_cons h] at hx
    obtain ⟨h1, h2, h3, h4⟩ := nextLine_line l
    rcases List.mem_cons.1 hx with rfl | hx
    · exact ⟨h1, h2, fun c hc => h3.subset hc, h3.length_le⟩
    · have h5 := nextLine_lt h
      obtain ⟨i1, i2, i3, i4⟩ := lines_mem _ x hx
      exact ⟨i1, i2, fun c hc => h4.subset (i3 c hc), by omega⟩
termination_by l.length
decreasing_by exact nextLine_lt h

theorem trimL_all {l : List UInt8} (h : ∀ c ∈ l, isST c = true) : trimL l = [] := by
  unfold trimL
  induction l with
  | nil => rfl
  | cons c l ih =>
    rw [List.dropWhile_cons_of_pos (h c (by simp))]
    exact ih fun d hd => h d (by simp [hd])

theorem no_nul {l : List UInt8} (h : (0 : UInt8) ∉ l) : findSub [0] l = none := by
  rw [findSub_byte, List.findIdx?_eq_none_iff]
  intro x hx
  simp only [beq_eq_false_iff_ne]
  rintro rfl
  exact h hx
end B

/-- A text of spaces, tabs and line ends alone. -/
def AllWs (l : List UInt8) : Prop := ∀ c ∈ l, c = 32 ∨ c = 9 ∨ c = 10 ∨ c = 13

theorem AllWs.blank {l : List UInt8} (h : AllWs l) : ∀ x ∈ B.lines l, (LineOf x).blank = true := by
  intro x hx
  obtain ⟨h1, h2, h3, _⟩ := B.lines_mem l x hx
  unfold Ln.blank Ln.rest LineOf
  simp only [B.bs_data, List.drop_zero]
  rw [B.trimL_all]
  · rfl
  · intro c hc
    rcases h c (h3 c hc) with rfl | rfl | rfl | rfl
    · rfl
    · rfl
    · exact absurd hc h1
    · exact absurd hc h2

theorem AllWs.nul {l : List UInt8} (h : AllWs l) : B.findSub [0] l = none := B.no_nul fun hc => by
  rcases h 0 hc with e | e | e | e <;> exact absurd e (by decide)
end Go.Proofs.YtigcmibkgcmfcaaGreatDoor
