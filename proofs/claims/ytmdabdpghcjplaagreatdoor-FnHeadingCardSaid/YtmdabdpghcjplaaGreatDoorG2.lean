/- The parser's state while blocks are open, in general: the open blocks and what lies in them, the texts, the options. -/
import Derived.Test.YtmdabdpghcjplaaGreatDoorG3
import Derived.Test.YtmdabdpghcjplaaGreatDoorN3
namespace Go.Proofs.YtmdabdpghcjplaaGreatDoor
open Go.RowKit Sl

/-- An open block: its builder, the blocks within it, its first and last line. -/
structure OB where
  bv : Value
  inn : SV
  items : List Value
  st : Int
  en : Int

def OB.cells (o : OB) : List Value := [o.bv, o.inn.v, .int .i64 o.st, .int .i64 o.en]
def OB.own (o : OB) : HP := arr 70 1 o.inn.v o.inn.len o.items
def OB.fit (o : OB) : Prop := o.inn.len = o.items.length ∧ o.items.length ≤ 1000000000

def obCells (l : List OB) : List Value := l.flatMap OB.cells
def obOwn : List OB → HP
  | [] => emp
  | o :: r => o.own * obOwn r

theorem obOwn_append : ∀ (a b : List OB), obOwn (a ++ b) = obOwn a * obOwn b
  | [], b => (emp_star _).symm
  | o :: r, b => by
    show o.own * obOwn (r ++ b) = o.own * obOwn r * obOwn b
    rw [obOwn_append r b, star_assoc]

theorem obCells_append (a b : List OB) : obCells (a ++ b) = obCells a ++ obCells b := by
  unfold obCells
  rw [List.flatMap_append]

theorem obCells_length : ∀ (l : List OB), (obCells l).length = l.length * 4
  | [] => rfl
  | o :: r => by
    show (o.cells ++ obCells r).length = _
    rw [List.length_append, obCells_length r]
    show 4 + r.length * 4 = (r.length + 1) * 4
    omega

theorem obCells_get {l : List OB} {k j : Nat} {o : OB} (h : l[k]? = some o) (hj : j < 4) : (obCells l)[k * 4 + j]? = o.cells[j]? := by
  induction l generalizing k with
  | nil => simp at h
  | cons a r ih =>
    show (a.cells ++ obCells r)[k * 4 + j]? = _
    cases k with
    | zero =>
      simp at h
      subst h
      rw [List.getElem?_append_left (by show _ < 4; omega)]
      simp
    | succ k =>
      rw [List.getElem?_append_right (by show 4 ≤ _; omega)]
      rw [← ih (k := k) (by simpa using h)]
      congr 1
      show (k + 1) * 4 + j - 4 = k * 4 + j
      omega

/-- What a state tells: the line's number, the depth, the open blocks, the texts, the links. -/
structure DV where
  n : Int
  dep : Int
  obs : List OB
  ptrs : List Value
  links : Option Nat

/-- What it does not tell. -/
structure DH where
  g : Nat
  cap : Nat
  corner : Bool
  tx : SV

noncomputable def DV.ps (v : DV) (pb : Nat) (h : DH) : PSt := { PSt.first pb h.g h.cap bt0 with links := v.links, lineno := v.n, depth := v.dep, corner := h.corner, stack := ⟨some ⟨h.g, 0, none⟩, v.obs.length, h.cap⟩, texts := h.tx }

def DV.fit (v : DV) (h : DH) : Prop := h.tx.len = v.ptrs.length ∧ v.ptrs.length ≤ 1000000000 ∧ v.obs.length ≤ 1000000000 ∧ ∀ o ∈ v.obs, o.fit

noncomputable def DV.hold (v : DV) (pb : Nat) (oc : List Value) (p : Nat) (h : DH) : HP :=
  row p 96 (v.ps pb h).cells * (arr 122 4 (.slice (some ⟨h.g, 0, none⟩) v.obs.length h.cap) v.obs.length (obCells v.obs) * (obOwn v.obs * (arr 106 1 h.tx.v h.tx.len v.ptrs * row pb 78 oc)))

noncomputable def Dsp (pb : Nat) (oc : List Value) (v : DV) (p : Nat) : HP := Sl.ex fun h : DH => Sl.pur (v.fit h) * v.hold pb oc p h

theorem dsp_iff {w : World} {pb p : Nat} {oc : List Value} {v : DV} {F : HP} : Sat w (Dsp pb oc v p * F) ↔ ∃ h : DH, v.fit h ∧
    Sat w (row p 96 (v.ps pb h).cells * (arr 122 4 (.slice (some ⟨h.g, 0, none⟩) v.obs.length h.cap) v.obs.length (obCells v.obs) * (obOwn v.obs * (arr 106 1 h.tx.v h.tx.len v.ptrs * (row pb 78 oc * F))))) := by
  constructor
  · intro h
    obtain ⟨x, h⟩ := h.ex
    obtain ⟨h1, h2⟩ := (h.cast (star_assoc _ _ _)).pur
    exact ⟨x, h1, h2.cast (by unfold DV.hold; ac_rfl)⟩
  · rintro ⟨x, h1, h2⟩
    refine Sat.ex_mk x ?_
    rw [star_assoc, pur_star h1]
    exact h2.cast (by unfold DV.hold; ac_rfl)

/-- The first state: the root, and nothing in it. -/
theorem dsp_first (pb : Nat) (oc : List Value) : ∀ p r g cap w F, Sat w (row p 96 (PSt.first pb g cap bt0).cells * (arr 122 4 (.slice (some ⟨g, 0, none⟩) 1 cap) 1 [.iface 99 (.pointer (some ⟨r, 0, none⟩)), .slice none 0 0, .int .i64 0, .int .i64 0] * (row pb 78 oc * F))) →
    Sat w (Dsp pb oc ⟨0, -1, [⟨.iface 99 (.pointer (some ⟨r, 0, none⟩)), ⟨none, 0, 0⟩, [], 0, 0⟩], [], none⟩ p * F) := by
  intro p r g cap w F h
  refine dsp_iff.2 ⟨⟨g, cap, false, ⟨none, 0, 0⟩⟩, ⟨rfl, Nat.zero_le _, (show 1 ≤ 1000000000 from by decide), ?_⟩, ?_⟩
  · intro o ho
    obtain rfl := List.mem_singleton.1 ho
    exact ⟨rfl, Nat.zero_le _⟩
  · have e1 : obOwn [⟨.iface 99 (.pointer (some ⟨r, 0, none⟩)), ⟨none, 0, 0⟩, [], 0, 0⟩] = emp := by
      show arr 70 1 (.slice none 0 0) 0 [] * emp = emp
      rw [arr_nil, emp_star]
    have e2 : arr 106 1 (⟨none, 0, 0⟩ : SV).v 0 [] = emp := arr_nil _ _
    show Sat w (row p 96 _ * (arr 122 4 _ _ _ * (obOwn [_] * (arr 106 1 (⟨none, 0, 0⟩ : SV).v 0 [] * _))))
    rw [e1, e2, emp_star, emp_star]
    exact h

/-- A finished block is laid into the innermost open one. -/
theorem doneBlock_d (pb p : Nat) (oc : List Value) (v : DV) (pre : List OB) (o : OB) (T : TypeId) (bp : Option Addr) (F : HP) (w : World) (ho : v.obs = pre ++ [o]) (hd : v.dep = pre.length) (hi : o.items.length < 1000000000)
    (hs : Sat w (Dsp pb oc v p * F)) :
    Calls Tryz.prog 133 #[.pointer (some ⟨p, 0, none⟩), .iface T (.pointer bp)] w fun e w' => e = .returned (.tuple #[]) ∧ ∃ inn : SV,
      Sat w' (Dsp pb oc { v with obs := pre ++ [{ o with inn := inn, items := o.items ++ [Value.iface T (.pointer bp)] }] } p * F) := by
  obtain ⟨n, dep, obs, ptrs, links⟩ := v
  obtain rfl : obs = pre ++ [o] := ho
  obtain rfl : dep = pre.length := hd
  obtain ⟨h, ⟨hf1, hf2, hf3, hf4⟩, h1⟩ := dsp_iff.1 hs
  obtain ⟨hof1, hof2⟩ := hf4 o (by simp)
  simp only at h1 hf1 hf2 hf3
  have hlen : (pre ++ [o]).length = pre.length + 1 := by simp
  rw [hlen] at h1 hf3
  obtain ⟨junk, j1, j2, j3, j4, hr⟩ := h1.swap.arr_row
  rw [obCells_append, obOwn_append] at hr
  rw [obCells_append] at j1 j4
  have hr2 := hr.cast (show _ = row p 96 (DV.ps ⟨n, pre.length, pre ++ [o], ptrs, links⟩ pb h).cells * (row h.g 122 (obCells pre ++ [o.bv, o.inn.v, .int .i64 o.st, .int .i64 o.en] ++ junk) * (arr 70 1 o.inn.v o.inn.len o.items * (obOwn pre * (arr 106 1 h.tx.v h.tx.len ptrs * (row pb 78 oc * F))))) from by
    rw [show obOwn [o] = arr 70 1 o.inn.v o.inn.len o.items from star_emp _, show obCells [o] = [o.bv, o.inn.v, .int .i64 o.st, .int .i64 o.en] from rfl]
    ac_rfl)
  refine (doneBlock_w p h.g pre.length h.cap T bp _ (obCells pre) junk o.items o.bv o.inn o.st o.en _ w (by omega) (by omega) rfl (by rw [← hlen]; rfl) (by rw [obCells_length]) hr2).mono ?_
  rintro e w' ⟨rfl, inn', hl, h5⟩
  refine ⟨rfl, inn', dsp_iff.2 ⟨h, ⟨hf1, hf2, by simp; omega, ?_⟩, ?_⟩⟩
  · intro o' ho'
    rcases List.mem_append.1 ho' with ho' | ho'
    · exact hf4 o' (by simp [ho'])
    · obtain rfl := List.mem_singleton.1 ho'
      refine ⟨?_, ?_⟩
      · show inn'.len = (o.items ++ [_]).length
        rw [hl, hof1]; simp
      · show (o.items ++ [_]).length ≤ _
        simp; omega
  · have h6 := arr_mk (t := 122) (sz := 4) (n := pre.length + 1) (cap := h.cap) (xs := obCells pre ++ [o.bv, inn'.v, .int .i64 o.st, .int .i64 o.en]) (junk := junk) (by simp [obCells_length]; omega) j2 j3 (by
      rw [show obCells [o] = [o.bv, o.inn.v, .int .i64 o.st, .int .i64 o.en] from rfl] at j4
      simp only [List.length_append, List.length_cons, List.length_nil] at j4 ⊢
      exact j4) h5.swap
    have e1 : (DV.ps ⟨n, pre.length, pre ++ [{ o with inn := inn', items := o.items ++ [Value.iface T (.pointer bp)] }], ptrs, links⟩ pb h) = (DV.ps ⟨n, pre.length, pre ++ [o], ptrs, links⟩ pb h) := by
      unfold DV.ps
      simp
    have e2 : (pre ++ [{ o with inn := inn', items := o.items ++ [Value.iface T (.pointer bp)] }]).length = pre.length + 1 := by simp
    have e3 : obOwn (pre ++ [{ o with inn := inn', items := o.items ++ [Value.iface T (.pointer bp)] }]) = obOwn pre * arr 70 1 inn'.v inn'.len (o.items ++ [Value.iface T (.pointer bp)]) := by
      rw [obOwn_append]
      exact congrArg (obOwn pre * ·) (star_emp _)
    have e4 : obCells (pre ++ [{ o with inn := inn', items := o.items ++ [Value.iface T (.pointer bp)] }]) = obCells pre ++ [o.bv, inn'.v, .int .i64 o.st, .int .i64 o.en] := by
      rw [obCells_append]; rfl
    simp only [e1, e2, e3, e4]
    exact h6.cast (by ac_rfl)

end Go.Proofs.YtmdabdpghcjplaaGreatDoor
