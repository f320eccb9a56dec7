/- A text that is one line, a thematic break. -/
import Derived.Test.YtmdabdpghcjplaaGreatDoorA1
import Derived.Test.YtmdabdpghcjplaaGreatDoorKi
import Derived.Test.YtmdabdpghcjplaaGreatDoorDp
namespace Go.Proofs.YtmdabdpghcjplaaGreatDoor
open Go.RowKit Sl

/-- What lies in the root: one thematic break. -/
def HrC (l : List Value) : HP := Sl.ex fun x : Nat × ByteArray => Sl.pur (l = [.iface 240 (.pointer (some ⟨x.1, 0, none⟩))]) * row x.1 242 [.int .i64 1, .int .i64 1, .string x.2]

theorem hrC_mk {w : World} {d : Nat} {s : ByteArray} {F : HP} (h : Sat w (row d 242 [.int .i64 1, .int .i64 1, .string s] * F)) : Sat w (HrC [.iface 240 (.pointer (some ⟨d, 0, none⟩))] * F) := by
  refine Sat.ex_mk (d, s) ?_
  rw [star_assoc, pur_star rfl]
  exact h

def nilC (l : List Value) : HP := Sl.pur (l = [])

noncomputable def HrK (pb : Nat) (p : Nat) (done : List (List UInt8 × UInt8)) : HP := if done = [] then RootHas pb 0 nilC p else RootHas pb 1 HrC p

theorem typeAssert_root (r : Nat) : ∀ w, (Instr.typeAssert (.iface 99 (.pointer (some ⟨r, 0, none⟩))) 119 163 true).run Tryz.prog w = .ok (.tuple #[.pointer none, .bool false]) w := fun w => by kernel_rfl

/-- The state ahead of a line's starters: the root alone is open, nothing in it, at line n. -/
noncomputable def Fresh (pb n : Nat) (p : Nat) : HP := Sl.ex fun x : RootX => Sl.pur (x.items = [] ∧ x.inn.len = 0 ∧ x.dep = 0) * (row p 96 (x.st pb n).cells * (arr 122 4 (.slice (some ⟨x.g, 0, none⟩) 1 x.cap) 1 [.iface 99 (.pointer (some ⟨x.r, 0, none⟩)), x.inn.v, .int .i64 0, .int .i64 0] *
    arr 70 1 x.inn.v x.inn.len x.items))

theorem fresh_iff {w : World} {pb n p : Nat} {F : HP} : Sat w (Fresh pb n p * F) ↔ ∃ x : RootX, (x.items = [] ∧ x.inn.len = 0 ∧ x.dep = 0) ∧
    Sat w (row p 96 (x.st pb n).cells * (arr 122 4 (.slice (some ⟨x.g, 0, none⟩) 1 x.cap) 1 [.iface 99 (.pointer (some ⟨x.r, 0, none⟩)), x.inn.v, .int .i64 0, .int .i64 0] * (arr 70 1 x.inn.v x.inn.len x.items * F))) := by
  constructor
  · intro h
    obtain ⟨x, h⟩ := h.ex
    obtain ⟨h1, h2⟩ := (h.cast (star_assoc _ _ _)).pur
    exact ⟨x, h1, h2.cast (by ac_rfl)⟩
  · rintro ⟨x, h1, h2⟩
    refine Sat.ex_mk x ?_
    rw [star_assoc, pur_star h1]
    exact h2.cast (by ac_rfl)

theorem not_quote {p : Nat} {S : HP} {l : Ln} (h : l.OK) (hq : l.quote = none) : Not p S 0 l := fun w F hs => newQuote_not _ l w (S * F) h hq hs
theorem not_atx {p : Nat} {S : HP} {l : Ln} (h : l.OK) (hq : l.heading = none) : Not p S 1 l := fun w F hs => newATX_not _ l w (S * F) h hq hs
theorem not_hr {p : Nat} {S : HP} {l : Ln} (h : l.OK) (hq : l.hr = false) : Not p S 3 l := fun w F hs => newHR_not _ l w (S * F) h hq hs

theorem not_setext {pb n p : Nat} {l : Ln} : Not p (Fresh pb n p) 2 l := by
  intro w F hs
  obtain ⟨x, hx, h⟩ := fresh_iff.1 hs
  obtain ⟨f0, f1, f2, f3, f4, f5, f6, f7, f8, f9, f10, f11, fz, hlp⟩ := PSt.facts h
  obtain ⟨junk, _, _, _, _, hr⟩ := h.swap.arr_row
  refine (newSetext_not p x.g 0 x.cap 99 _ l w _ (by decide) f4 ?_ (hr.cell 0 rfl) (typeAssert_root x.r) hs)
  rw [f5]
  show some (Value.int .i64 x.dep) = _
  rw [hx.2.2]
  rfl

theorem zero_ok : Ln.zero.OK := ⟨Nat.le_refl _, Nat.le_refl _, Nat.zero_le _, Nat.zero_le _⟩
theorem zero_blank : Ln.zero.blank = true := rfl

theorem does_hr {pb p : Nat} {l : Ln} (h : l.OK) (hq : l.hr = true) : Does p (Fresh pb 1 p) (RootHas pb 1 HrC p) 3 l Ln.zero := by
  intro w F hs
  obtain ⟨x, ⟨hx1, hx2, hx3⟩, hs2⟩ := fresh_iff.1 hs
  obtain ⟨junk, h1, h2, h3, h4, hr⟩ := hs2.swap.arr_row
  refine (newHR_does p x.g 0 x.cap l (x.st pb 1) [] junk x.items _ x.inn 0 0 F w (by decide) (by rw [hx2]; decide) hx3 rfl rfl h hq (hr.swap)).mono ?_
  rintro e w' ⟨rfl, inn', d, hl, h5⟩
  refine ⟨rfl, ?_⟩
  rw [hx1] at h5
  refine rootHas_iff.2 ⟨⟨x.r, x.g, x.cap, x.dep, x.corner, inn', [.iface 240 (.pointer (some ⟨d, 0, none⟩))]⟩, ⟨by simp [hl, hx2], by simp⟩, ?_⟩
  have h6 := Sl.arr_mk (t := 122) (sz := 4) (n := 1) (cap := x.cap) (xs := [.iface 99 (.pointer (some ⟨x.r, 0, none⟩)), inn'.v, .int .i64 0, .int .i64 0]) (junk := junk) rfl h2 h3 (by simpa using h4) h5.swap
  rw [show (x.st pb 1).lineno = 1 from rfl, List.nil_append] at h6
  have h7 : Sat w' (row d 242 [.int .i64 1, .int .i64 1, .string (B.bs l.str)] * (row p 96 (x.st pb 1).cells * (arr 122 4 (.slice (some ⟨x.g, 0, none⟩) 1 x.cap) 1 [.iface 99 (.pointer (some ⟨x.r, 0, none⟩)), inn'.v, .int .i64 0, .int .i64 0] *
      (arr 70 1 inn'.v inn'.len [.iface 240 (.pointer (some ⟨d, 0, none⟩))] * F)))) := h6.cast (by ac_rfl)
  have h8 := hrC_mk h7
  generalize HrC [.iface 240 (.pointer (some ⟨d, 0, none⟩))] = H at h8
  exact h8.cast (by ac_rfl)

theorem nilC_iff {w : World} {l : List Value} {F : HP} : Sat w (nilC l * F) ↔ l = [] ∧ Sat w F :=
  ⟨fun h => h.pur, fun ⟨h1, h2⟩ => by unfold nilC; rw [pur_star h1]; exact h2⟩

/-- addLine's first state of a line, where the root alone is open and empty. -/
theorem fresh_of {pb n p : Nat} {x : RootX} {F : HP} {w : World} (hi : x.items = []) (hl : x.inn.len = x.items.length)
    (h : Sat w (row p 96 { (x.st pb n) with depth := 0 }.cells * (arr 122 4 (.slice (some ⟨x.g, 0, none⟩) 1 x.cap) 1 [.iface 99 (.pointer (some ⟨x.r, 0, none⟩)), x.inn.v, .int .i64 0, .int .i64 0] * (arr 70 1 x.inn.v x.inn.len x.items * F)))) : Sat w (Fresh pb n p * F) :=
  fresh_iff.2 ⟨{ x with dep := 0 }, ⟨hi, by rw [hl, hi]; rfl, rfl⟩, h⟩

theorem hr_lines (pb k : Nat) (c : UInt8) (ks : List Nat) (hb : Brk k c ks) : Lines (HrK pb) pb (brk k c ks) where
  first := by
    intro p r g cap w F h
    exact rootHas_first pb p r g cap w F h
  next := by
    intro p done l rest w F hl hs
    rw [hb.lines.1] at hl
    obtain ⟨rfl, rfl, rfl⟩ : done = [] ∧ l = (brk k c ks, 0) ∧ rest = [] := by
      cases done with
      | nil => simp at hl; exact ⟨rfl, hl.1.symm, hl.2⟩
      | cons a b => simp at hl
    obtain ⟨x, hx, h⟩ := rootHas_iff.1 hs
    obtain ⟨hi, h2⟩ := nilC_iff.1 (h.cast (show _ = nilC x.items * (row p 96 (x.st pb 0).cells * (arr 122 4 (.slice (some ⟨x.g, 0, none⟩) 1 x.cap) 1 [.iface 99 (.pointer (some ⟨x.r, 0, none⟩)), x.inn.v, .int .i64 0, .int .i64 0] * (arr 70 1 x.inn.v x.inn.len x.items * F))) from by ac_rfl))
    refine ⟨x.st pb 0, arr 122 4 (.slice (some ⟨x.g, 0, none⟩) 1 x.cap) 1 [.iface 99 (.pointer (some ⟨x.r, 0, none⟩)), x.inn.v, .int .i64 0, .int .i64 0] * arr 70 1 x.inn.v x.inn.len x.items, rfl, h2.cast (by ac_rfl), fun w' hs' => ?_⟩
    obtain ⟨l1, l2, l3, l4, l5⟩ := hb.line _ rfl
    have hs3 : Sat w' (row p 96 (x.st pb 1).cells * (arr 122 4 (.slice (some ⟨x.g, 0, none⟩) 1 x.cap) 1 [.iface 99 (.pointer (some ⟨x.r, 0, none⟩)), x.inn.v, .int .i64 0, .int .i64 0] * (arr 70 1 x.inn.v x.inn.len x.items * F))) := by
      refine hs'.cast ?_
      rw [star_assoc]
      rfl
    refine (addLine_stop p (LineOf (brk k c ks, 0)) Ln.zero (x.st pb 1) _ F w' (Fresh pb 1 p) (RootHas pb 1 HrC p) 3 l1 rfl l5 (by decide) ?_ (does_hr l1 l4) zero_ok zero_blank ?_ hs3).mono ?_
    · intro j hj
      have : j = 0 ∨ j = 1 ∨ j = 2 := by omega
      rcases this with rfl | rfl | rfl
      · exact not_quote l1 l2
      · exact not_atx l1 l3
      · exact not_setext
    · intro w2 h5
      exact fresh_of hi hx.1 h5
    · rintro e w2 ⟨rfl, h5⟩
      exact ⟨rfl, h5⟩

theorem hr_prints (k : Nat) (c : UInt8) (ks : List Nat) (hb : Brk k c ks) : Prints (B.bs (brk k c ks)) (B.bs [60, 104, 114, 32, 47, 62, 10]) where
  size := by rw [B.bs_size]; exact hb.size
  nul := by rw [B.bs_data]; exact hb.lines.2
  run := by
    intro pb
    rw [B.bs_data]
    refine ⟨HrK pb, DocHas pb 1 HrC, hr_lines pb k c ks hb, ends_of _ pb 1 HrC _ (fun p w F hs => ?_), ?_⟩
    · rw [hb.lines.1] at hs
      exact trimRoot pb 1 p HrC F w hs
    intro p tx root w G hs hr
    obtain ⟨x, ⟨_, hx1, hx2⟩, hd⟩ := docHas_iff.1 hs
    have hr' := hd.cell 1 (v := .pointer (some ⟨x.d, 0, none⟩)) rfl
    rw [hr] at hr'
    have hr2 : root = some ⟨x.d, 0, none⟩ := by injection hr' with e; injection e
    subst hr2
    obtain ⟨⟨d, s⟩, h2⟩ := (hd.cast (show _ = HrC x.items * (row p 96 (x.st pb 1).cells * (row x.d 341 [.int .i64 0, .int .i64 0, x.inn.v, .map none] * (arr 70 1 x.inn.v x.inn.len x.items * G))) from by ac_rfl)).ex
    rw [star_assoc] at h2
    obtain ⟨hi, h3⟩ := h2.pur
    have h4 := toHTML_w (fun _ => True) x.d (.int .i64 0) (.int .i64 0) (.map none) x.inn x.items [[60, 104, 114, 32, 47, 62, 10]] (HrC x.items) G w hx1 hx2 hd.drop1 (by rw [hi]; rfl) ?_ (fun _ _ => trivial) (by decide)
    · exact h4
    · intro i v o hv ho
      rw [hi] at hv
      cases i with
      | zero =>
        simp at hv ho
        subst hv; subst ho
        exact prt_tb _ _ _
      | succ i => simp at hv

end Go.Proofs.YtmdabdpghcjplaaGreatDoor
