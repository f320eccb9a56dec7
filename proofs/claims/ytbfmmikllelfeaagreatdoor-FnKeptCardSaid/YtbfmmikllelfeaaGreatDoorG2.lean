/- The parser's state while blocks are open, in general: the open blocks and what lies in them, the texts, the options. -/
import Derived.Test.YtbfmmikllelfeaaGreatDoorTop
import Derived.Test.YtbfmmikllelfeaaGreatDoorN3
import Derived.Test.YtbfmmikllelfeaaGreatDoorN8
namespace Go.Proofs.YtbfmmikllelfeaaGreatDoor
open Go.RowKit Sl

/-- An open block: its builder, the blocks within it, its first and last line. -/
structure OB where
  bv : Value
  inn : SV
  items : List Value
  st : Int
  en : Int

def OB.cells (o : OB) : List Value := [o.bv, o.inn.v, .int .i64 o.st, .int .i64 o.en]
def OB.own (o : OB) : HP := arr 97 1 o.inn.v o.inn.len o.items
def OB.fit (o : OB) : Prop := o.inn.len = o.items.length ∧ o.items.length ≤ 1000000000

def obCells (l : List OB) : List Value := l.flatMap OB.cells
def obOwn : List OB → HP
  | [] => emp
  | o :: r => o.own * obOwn r

theorem obOwn_append : ∀ (a b : List OB), obOwn (a ++ b) = obOwn a * obOwn b
  | [], b => (emp_star _).symm
  | o :: r, b => by
    show o.own * obOwn (r ++ b) = o.own * obOwn r * obOwn b
    rw [obOwn_append r b, star_assoc]

theorem obCells_append (a b : List OB) : obCells (a ++ b) = obCells a ++ obCells b := by
  unfold obCells
  rw [List.flatMap_append]

theorem obCells_length : ∀ (l : List OB), (obCells l).length = l.length * 4
  | [] => rfl
  | o :: r => by
    show (o.cells ++ obCells r).length = _
    rw [List.length_append, obCells_length r]
    show 4 + r.length * 4 = (r.length + 1) * 4
    omega

theorem obCells_get {l : List OB} {k j : Nat} {o : OB} (h : l[k]? = some o) (hj : j < 4) : (obCells l)[k * 4 + j]? = o.cells[j]? := by
  induction l generalizing k with
  | nil => simp at h
  | cons a r ih =>
    show (a.cells ++ obCells r)[k * 4 + j]? = _
    cases k with
    | zero =>
      simp at h
      subst h
      rw [List.getElem?_append_left (by show _ < 4; omega)]
      simp
    | succ k =>
      rw [List.getElem?_append_right (by show 4 ≤ _; omega)]
      rw [← ih (k := k) (by simpa using h)]
      congr 1
      show (k + 1) * 4 + j - 4 = k * 4 + j
      omega

/-- What a state tells: the line's number, the depth, the open blocks, the texts, the links. -/
structure DV where
  n : Int
  dep : Int
  obs : List OB
  ptrs : List Value
  links : Option Nat

/-- What it does not tell. -/
structure DH where
  g : Nat
  cap : Nat
  corner : Bool
  tx : SV

noncomputable def DV.ps (v : DV) (pb : Nat) (h : DH) : PSt := { PSt.first pb h.g h.cap bt0 with links := v.links, lineno := v.n, depth := v.dep, corner := h.corner, stack := ⟨some ⟨h.g, 0, none⟩, v.obs.length, h.cap⟩, texts := h.tx }

def DV.fit (v : DV) (h : DH) : Prop := h.tx.len = v.ptrs.length ∧ v.ptrs.length ≤ 1000000000 ∧ v.obs.length ≤ 1000000000 ∧ ∀ o ∈ v.obs, o.fit

noncomputable def DV.hold (v : DV) (pb : Nat) (oc : List Value) (p : Nat) (h : DH) : HP :=
  row p 173 (v.ps pb h).cells * (arr 197 4 (.slice (some ⟨h.g, 0, none⟩) v.obs.length h.cap) v.obs.length (obCells v.obs) * (obOwn v.obs * (arr 139 1 h.tx.v h.tx.len v.ptrs * row pb 105 oc)))

noncomputable def Dsp (pb : Nat) (oc : List Value) (v : DV) (p : Nat) : HP := Sl.ex fun h : DH => Sl.pur (v.fit h) * v.hold pb oc p h

theorem dsp_iff {w : World} {pb p : Nat} {oc : List Value} {v : DV} {F : HP} : Sat w (Dsp pb oc v p * F) ↔ ∃ h : DH, v.fit h ∧
    Sat w (row p 173 (v.ps pb h).cells * (arr 197 4 (.slice (some ⟨h.g, 0, none⟩) v.obs.length h.cap) v.obs.length (obCells v.obs) * (obOwn v.obs * (arr 139 1 h.tx.v h.tx.len v.ptrs * (row pb 105 oc * F))))) := by
  constructor
  · intro h
    obtain ⟨x, h⟩ := h.ex
    obtain ⟨h1, h2⟩ := (h.cast (star_assoc _ _ _)).pur
    exact ⟨x, h1, h2.cast (by unfold DV.hold; ac_rfl)⟩
  · rintro ⟨x, h1, h2⟩
    refine Sat.ex_mk x ?_
    rw [star_assoc, pur_star h1]
    exact h2.cast (by unfold DV.hold; ac_rfl)

/-- The first state: the root, and nothing in it. -/
theorem dsp_first (pb : Nat) (oc : List Value) : ∀ p r g cap w F, Sat w (row p 173 (PSt.first pb g cap bt0).cells * (arr 197 4 (.slice (some ⟨g, 0, none⟩) 1 cap) 1 [.iface 176 (.pointer (some ⟨r, 0, none⟩)), .slice none 0 0, .int .i64 0, .int .i64 0] * (row pb 105 oc * F))) →
    Sat w (Dsp pb oc ⟨0, -1, [⟨.iface 176 (.pointer (some ⟨r, 0, none⟩)), ⟨none, 0, 0⟩, [], 0, 0⟩], [], none⟩ p * F) := by
  intro p r g cap w F h
  refine dsp_iff.2 ⟨⟨g, cap, false, ⟨none, 0, 0⟩⟩, ⟨rfl, Nat.zero_le _, (show 1 ≤ 1000000000 from by decide), ?_⟩, ?_⟩
  · intro o ho
    obtain rfl := List.mem_singleton.1 ho
    exact ⟨rfl, Nat.zero_le _⟩
  · have e1 : obOwn [⟨.iface 176 (.pointer (some ⟨r, 0, none⟩)), ⟨none, 0, 0⟩, [], 0, 0⟩] = emp := by
      show arr 97 1 (.slice none 0 0) 0 [] * emp = emp
      rw [arr_nil, emp_star]
    have e2 : arr 139 1 (⟨none, 0, 0⟩ : SV).v 0 [] = emp := arr_nil _ _
    show Sat w (row p 173 _ * (arr 197 4 _ _ _ * (obOwn [_] * (arr 139 1 (⟨none, 0, 0⟩ : SV).v 0 [] * _))))
    rw [e1, e2, emp_star, emp_star]
    exact h

/-- A finished block is laid into the innermost open one. -/
theorem doneBlock_d (pb p : Nat) (oc : List Value) (v : DV) (pre : List OB) (o : OB) (T : TypeId) (bp : Option Addr) (F : HP) (w : World) (ho : v.obs = pre ++ [o]) (hd : v.dep = pre.length) (hi : o.items.length < 1000000000)
    (hs : Sat w (Dsp pb oc v p * F)) :
    Calls Tryz.prog 195 #[.pointer (some ⟨p, 0, none⟩), .iface T (.pointer bp)] w fun e w' => e = .returned (.tuple #[]) ∧ ∃ inn : SV,
      Sat w' (Dsp pb oc { v with obs := pre ++ [{ o with inn := inn, items := o.items ++ [Value.iface T (.pointer bp)] }] } p * F) := by
  obtain ⟨n, dep, obs, ptrs, links⟩ := v
  obtain rfl : obs = pre ++ [o] := ho
  obtain rfl : dep = pre.length := hd
  obtain ⟨h, ⟨hf1, hf2, hf3, hf4⟩, h1⟩ := dsp_iff.1 hs
  obtain ⟨hof1, hof2⟩ := hf4 o (by simp)
  simp only at h1 hf1 hf2 hf3
  have hlen : (pre ++ [o]).length = pre.length + 1 := by simp
  rw [hlen] at h1 hf3
  obtain ⟨junk, j1, j2, j3, j4, hr⟩ := h1.swap.arr_row
  rw [obCells_append, obOwn_append] at hr
  rw [obCells_append] at j1 j4
  have hr2 := hr.cast (show _ = row p 173 (DV.ps ⟨n, pre.length, pre ++ [o], ptrs, links⟩ pb h).cells * (row h.g 197 (obCells pre ++ [o.bv, o.inn.v, .int .i64 o.st, .int .i64 o.en] ++ junk) * (arr 97 1 o.inn.v o.inn.len o.items * (obOwn pre * (arr 139 1 h.tx.v h.tx.len ptrs * (row pb 105 oc * F))))) from by
    rw [show obOwn [o] = arr 97 1 o.inn.v o.inn.len o.items from star_emp _, show obCells [o] = [o.bv, o.inn.v, .int .i64 o.st, .int .i64 o.en] from rfl]
    ac_rfl)
  refine (doneBlock_w p h.g pre.length h.cap T bp _ (obCells pre) junk o.items o.bv o.inn o.st o.en _ w (by omega) (by omega) rfl (by rw [← hlen]; rfl) (by rw [obCells_length]) hr2).mono ?_
  rintro e w' ⟨rfl, inn', hl, h5⟩
  refine ⟨rfl, inn', dsp_iff.2 ⟨h, ⟨hf1, hf2, by simp; omega, ?_⟩, ?_⟩⟩
  · intro o' ho'
    rcases List.mem_append.1 ho' with ho' | ho'
    · exact hf4 o' (by simp [ho'])
    · obtain rfl := List.mem_singleton.1 ho'
      refine ⟨?_, ?_⟩
      · show inn'.len = (o.items ++ [_]).length
        rw [hl, hof1]; simp
      · show (o.items ++ [_]).length ≤ _
        simp; omega
  · have h6 := arr_mk (t := 197) (sz := 4) (n := pre.length + 1) (cap := h.cap) (xs := obCells pre ++ [o.bv, inn'.v, .int .i64 o.st, .int .i64 o.en]) (junk := junk) (by simp [obCells_length]; omega) j2 j3 (by
      rw [show obCells [o] = [o.bv, o.inn.v, .int .i64 o.st, .int .i64 o.en] from rfl] at j4
      simp only [List.length_append, List.length_cons, List.length_nil] at j4 ⊢
      exact j4) h5.swap
    have e1 : (DV.ps ⟨n, pre.length, pre ++ [{ o with inn := inn', items := o.items ++ [Value.iface T (.pointer bp)] }], ptrs, links⟩ pb h) = (DV.ps ⟨n, pre.length, pre ++ [o], ptrs, links⟩ pb h) := by
      unfold DV.ps
      simp
    have e2 : (pre ++ [{ o with inn := inn', items := o.items ++ [Value.iface T (.pointer bp)] }]).length = pre.length + 1 := by simp
    have e3 : obOwn (pre ++ [{ o with inn := inn', items := o.items ++ [Value.iface T (.pointer bp)] }]) = obOwn pre * arr 97 1 inn'.v inn'.len (o.items ++ [Value.iface T (.pointer bp)]) := by
      rw [obOwn_append]
      exact congrArg (obOwn pre * ·) (star_emp _)
    have e4 : obCells (pre ++ [{ o with inn := inn', items := o.items ++ [Value.iface T (.pointer bp)] }]) = obCells pre ++ [o.bv, inn'.v, .int .i64 o.st, .int .i64 o.en] := by
      rw [obCells_append]; rfl
    simp only [e1, e2, e3, e4]
    exact h6.cast (by ac_rfl)

theorem dsp_parser {w : World} {pb p : Nat} {oc : List Value} {v : DV} {F : HP} (hs : Sat w (Dsp pb oc v p * F)) : w.cell? ⟨p, 0, none⟩ = some (.pointer (some ⟨pb, 0, none⟩)) ∧ (∀ j x, oc[j]? = some x → w.cell? ⟨pb, j, none⟩ = some x) ∧ w.cell? ⟨p, 3, none⟩ = some (.int .i64 v.n) ∧ p < w.heap.size := by
  obtain ⟨h, _, h1⟩ := dsp_iff.1 hs
  obtain ⟨f0, f1, f2, f3, f4, f5, f6, f7, f8, f9, f10, f11, fz, hlp⟩ := PSt.facts h1
  refine ⟨f0, fun j x hj => ?_, f3, hlp⟩
  exact (h1.cast (show _ = row pb 105 oc * (row p 173 (v.ps pb h).cells * (arr 197 4 (.slice (some ⟨h.g, 0, none⟩) v.obs.length h.cap) v.obs.length (obCells v.obs) * (obOwn v.obs * (arr 139 1 h.tx.v h.tx.len v.ptrs * F)))) from by ac_rfl)).cell j hj

end Go.Proofs.YtbfmmikllelfeaaGreatDoor

/- Starters that do not begin a block, and the root's end, in the words of the general state. -/
namespace Go.Proofs.YtbfmmikllelfeaaGreatDoor
open Go.RowKit Sl

/-- What newSetextHeading and newListItem look at. -/
theorem dsp_top {w : World} {pb p : Nat} {oc : List Value} {v : DV} {pre : List OB} {o : OB} {F : HP} (ho : v.obs = pre ++ [o]) (hs : Sat w (Dsp pb oc v p * F)) :
    ∃ g cap, w.cell? ⟨p, 4, none⟩ = some (.slice (some ⟨g, 0, none⟩) (pre.length + 1) cap) ∧ w.cell? ⟨p, 5, none⟩ = some (.int .i64 v.dep) ∧ w.cell? ⟨g, pre.length * 4, none⟩ = some o.bv ∧ w.cell? ⟨p, 3, none⟩ = some (.int .i64 v.n) ∧ pre.length < 1000000000 := by
  obtain ⟨h, ⟨_, _, hf3, _⟩, h1⟩ := dsp_iff.1 hs
  obtain ⟨f0, f1, f2, f3, f4, f5, f6, f7, f8, f9, f10, f11, fz, hlp⟩ := PSt.facts h1
  obtain ⟨junk, j1, j2, j3, j4, hr⟩ := h1.swap.arr_row
  have hlen : v.obs.length = pre.length + 1 := by rw [ho]; simp
  rw [hlen] at hf3
  refine ⟨h.g, h.cap, ?_, f5, ?_, f3, by omega⟩
  · rw [f4]
    show some (Value.slice _ v.obs.length _) = _
    rw [hlen]; rfl
  · refine hr.cell _ ?_
    have hg := obCells_get (l := v.obs) (k := pre.length) (j := 0) (o := o) (by rw [ho]; simp) (by decide)
    rw [List.getElem?_append_left (by rw [obCells_length, hlen]; omega)]
    exact hg

theorem notD_setext {pb p : Nat} {oc : List Value} {v : DV} {pre : List OB} {o : OB} {T : TypeId} {bv : Value} {C : HP} {l : Ln} (ho : v.obs = pre ++ [o]) (hd : v.dep = pre.length) (hb : o.bv = .iface T bv)
    (hT : ∀ w, (Instr.typeAssert (.iface T bv) 195 258 true).run Tryz.prog w = .ok (.tuple #[.pointer none, .bool false]) w) : Not p (Dsp pb oc v p * C) 2 l := by
  intro w F hs
  obtain ⟨g, cap, h4, h5, h0, _, hn⟩ := dsp_top ho (hs.cast (star_assoc _ _ _))
  rw [hd] at h5
  rw [hb] at h0
  exact newSetext_not p g pre.length cap T bv l w (Dsp pb oc v p * C * F) hn h4 h5 h0 hT hs

theorem notD_item {pb p : Nat} {oc : List Value} {v : DV} {pre : List OB} {o : OB} {T : TypeId} {bv : Value} {C : HP} {l : Ln} (ho : v.obs = pre ++ [o]) (hd : v.dep = pre.length) (hb : o.bv = .iface T bv) (hl : l.OK) (hc : Ln.noItem (Ln.item 3 l).peek)
    (hT : ∀ w, (Instr.typeAssert (.iface T bv) 195 319 true).run Tryz.prog w = .ok (.tuple #[.pointer none, .bool false]) w) : Not p (Dsp pb oc v p * C) 4 l := by
  intro w F hs
  obtain ⟨g, cap, h4, h5, h0, _, hn⟩ := dsp_top ho (hs.cast (star_assoc _ _ _))
  rw [hd] at h5
  rw [hb] at h0
  exact newListItem_not p g pre.length (pre.length + 1) cap T bv l w (Dsp pb oc v p * C * F) (by omega) (by omega) hl hc h4 h5 h0 hT hs

/-- All is closed: the document lies in block d. -/
structure DC where
  x : PSt
  d : Nat
  inn : SV
  items : List Value
  ptrs : List Value

def DC.fit (y : DC) (pb : Nat) (tx : SV) : Prop := y.x.root = some ⟨y.d, 0, none⟩ ∧ y.x.parser = some ⟨pb, 0, none⟩ ∧ y.x.texts = tx ∧ y.inn.len = y.items.length ∧ y.items.length ≤ 1000000000 ∧ tx.len = y.ptrs.length ∧ y.ptrs.length ≤ 1000000000 ∧ y.x.bt.length = 81

noncomputable def Dcl (pb : Nat) (oc : List Value) (C : List Value → List Value → HP) (p : Nat) (tx : SV) : HP := Sl.ex fun y : DC => Sl.pur (y.fit pb tx) *
  (row p 173 y.x.cells * (row y.d 117 [.int .i64 0, .int .i64 0, y.inn.v, .map y.x.links] * (arr 97 1 y.inn.v y.inn.len y.items * (arr 139 1 tx.v tx.len y.ptrs * (row pb 105 oc * C y.items y.ptrs)))))

theorem dcl_iff {w : World} {pb p : Nat} {oc : List Value} {C : List Value → List Value → HP} {tx : SV} {F : HP} : Sat w (Dcl pb oc C p tx * F) ↔ ∃ y : DC, y.fit pb tx ∧
    Sat w (row p 173 y.x.cells * (row y.d 117 [.int .i64 0, .int .i64 0, y.inn.v, .map y.x.links] * (arr 97 1 y.inn.v y.inn.len y.items * (arr 139 1 tx.v tx.len y.ptrs * (row pb 105 oc * (C y.items y.ptrs * F)))))) := by
  constructor
  · intro h
    obtain ⟨x, h⟩ := h.ex
    obtain ⟨h1, h2⟩ := (h.cast (star_assoc _ _ _)).pur
    exact ⟨x, h1, h2.cast (by ac_rfl)⟩
  · rintro ⟨x, h1, h2⟩
    refine Sat.ex_mk x ?_
    rw [star_assoc, pur_star h1]
    exact h2.cast (by ac_rfl)

theorem bt0_len : bt0.length = 81 := by unfold bt0; kernel_rfl

/-- The root is closed. -/
theorem closeRoot_d (pb p : Nat) (oc : List Value) (v : DV) (r : Nat) (inn : SV) (items : List Value) (C : List Value → List Value → HP) (F : HP) (w : World) (ho : v.obs = [⟨.iface 176 (.pointer (some ⟨r, 0, none⟩)), inn, items, 0, 0⟩])
    (hs : Sat w (Dsp pb oc v p * (C items v.ptrs * F))) :
    Calls Tryz.prog 107 #[.pointer (some ⟨p, 0, none⟩)] w fun e w' => (∃ u, e = .returned u) ∧ ∃ tx : SV, tx.len ≤ 1000000000 ∧ Sat w' (Dcl pb oc C p tx * F) := by
  obtain ⟨n, dep, obs, ptrs, links⟩ := v
  obtain rfl := ho
  obtain ⟨h, ⟨hf1, hf2, hf3, hf4⟩, h1⟩ := dsp_iff.1 hs
  obtain ⟨ho1, ho2⟩ := hf4 _ (List.mem_singleton.2 rfl)
  simp only at h1 hf1 hf2 ho1 ho2
  obtain ⟨junk, j1, j2, j3, j4, hr⟩ := h1.swap.arr_row
  have hr2 := hr.cast (show _ = row p 173 (DV.ps ⟨n, dep, [⟨.iface 176 (.pointer (some ⟨r, 0, none⟩)), inn, items, 0, 0⟩], ptrs, links⟩ pb h).cells * (row h.g 197 ([.iface 176 (.pointer (some ⟨r, 0, none⟩)), .slice inn.a inn.len inn.cap, .int .i64 0, .int .i64 0] ++ junk) *
    (arr 97 1 inn.v inn.len items * (arr 139 1 h.tx.v h.tx.len ptrs * (row pb 105 oc * (C items ptrs * F))))) from by
    rw [show obOwn [⟨.iface 176 (.pointer (some ⟨r, 0, none⟩)), inn, items, 0, 0⟩] = arr 97 1 inn.v inn.len items from star_emp _]
    rw [show obCells [⟨.iface 176 (.pointer (some ⟨r, 0, none⟩)), inn, items, 0, 0⟩] = [.iface 176 (.pointer (some ⟨r, 0, none⟩)), .slice inn.a inn.len inn.cap, .int .i64 0, .int .i64 0] from rfl]
    ac_rfl)
  refine (closeRoot_w ⟨r, 0, none⟩ p h.g h.cap 0 0 inn.a inn.len inn.cap _ junk _ w rfl hr2).mono ?_
  rintro e w' ⟨d, rfl, h5⟩
  refine ⟨⟨_, rfl⟩, h.tx, by omega, dcl_iff.2 ⟨⟨_, d, inn, items, ptrs⟩, ⟨rfl, rfl, rfl, ho1, ho2, hf1, hf2, bt0_len⟩, h5⟩⟩

end Go.Proofs.YtbfmmikllelfeaaGreatDoor
