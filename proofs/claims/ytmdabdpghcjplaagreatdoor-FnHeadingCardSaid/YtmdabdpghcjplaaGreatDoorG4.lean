/- Starters that do not begin a block, and the root's end, in the words of the general state. -/
import Derived.Test.YtmdabdpghcjplaaGreatDoorG2
import Derived.Test.YtmdabdpghcjplaaGreatDoorA1
namespace Go.Proofs.YtmdabdpghcjplaaGreatDoor
open Go.RowKit Sl

/-- What newSetextHeading and newListItem look at. -/
theorem dsp_top {w : World} {pb p : Nat} {oc : List Value} {v : DV} {pre : List OB} {o : OB} {F : HP} (ho : v.obs = pre ++ [o]) (hs : Sat w (Dsp pb oc v p * F)) :
    ∃ g cap, w.cell? ⟨p, 4, none⟩ = some (.slice (some ⟨g, 0, none⟩) (pre.length + 1) cap) ∧ w.cell? ⟨p, 5, none⟩ = some (.int .i64 v.dep) ∧ w.cell? ⟨g, pre.length * 4, none⟩ = some o.bv ∧ w.cell? ⟨p, 3, none⟩ = some (.int .i64 v.n) ∧ pre.length < 1000000000 := by
  obtain ⟨h, ⟨_, _, hf3, _⟩, h1⟩ := dsp_iff.1 hs
  obtain ⟨f0, f1, f2, f3, f4, f5, f6, f7, f8, f9, f10, f11, fz, hlp⟩ := PSt.facts h1
  obtain ⟨junk, j1, j2, j3, j4, hr⟩ := h1.swap.arr_row
  have hlen : v.obs.length = pre.length + 1 := by rw [ho]; simp
  rw [hlen] at hf3
  refine ⟨h.g, h.cap, ?_, f5, ?_, f3, by omega⟩
  · rw [f4]
    show some (Value.slice _ v.obs.length _) = _
    rw [hlen]; rfl
  · refine hr.cell _ ?_
    have hg := obCells_get (l := v.obs) (k := pre.length) (j := 0) (o := o) (by rw [ho]; simp) (by decide)
    rw [List.getElem?_append_left (by rw [obCells_length, hlen]; omega)]
    exact hg

theorem notD_setext {pb p : Nat} {oc : List Value} {v : DV} {pre : List OB} {o : OB} {T : TypeId} {bv : Value} {C : HP} {l : Ln} (ho : v.obs = pre ++ [o]) (hd : v.dep = pre.length) (hb : o.bv = .iface T bv)
    (hT : ∀ w, (Instr.typeAssert (.iface T bv) 119 163 true).run Tryz.prog w = .ok (.tuple #[.pointer none, .bool false]) w) : Not p (Dsp pb oc v p * C) 2 l := by
  intro w F hs
  obtain ⟨g, cap, h4, h5, h0, _, hn⟩ := dsp_top ho (hs.cast (star_assoc _ _ _))
  rw [hd] at h5
  rw [hb] at h0
  exact newSetext_not p g pre.length cap T bv l w (Dsp pb oc v p * C * F) hn h4 h5 h0 hT hs

theorem notD_item {pb p : Nat} {oc : List Value} {v : DV} {pre : List OB} {o : OB} {T : TypeId} {bv : Value} {C : HP} {l : Ln} (ho : v.obs = pre ++ [o]) (hd : v.dep = pre.length) (hb : o.bv = .iface T bv) (hl : l.OK) (hc : Ln.noItem (Ln.item 3 l).peek)
    (hT : ∀ w, (Instr.typeAssert (.iface T bv) 119 243 true).run Tryz.prog w = .ok (.tuple #[.pointer none, .bool false]) w) : Not p (Dsp pb oc v p * C) 4 l := by
  intro w F hs
  obtain ⟨g, cap, h4, h5, h0, _, hn⟩ := dsp_top ho (hs.cast (star_assoc _ _ _))
  rw [hd] at h5
  rw [hb] at h0
  exact newListItem_not p g pre.length (pre.length + 1) cap T bv l w (Dsp pb oc v p * C * F) (by omega) (by omega) hl hc h4 h5 h0 hT hs

/-- All is closed: the document lies in block d. -/
structure DC where
  x : PSt
  d : Nat
  inn : SV
  items : List Value
  ptrs : List Value

def DC.fit (y : DC) (pb : Nat) (tx : SV) : Prop := y.x.root = some ⟨y.d, 0, none⟩ ∧ y.x.parser = some ⟨pb, 0, none⟩ ∧ y.x.texts = tx ∧ y.inn.len = y.items.length ∧ y.items.length ≤ 1000000000 ∧ tx.len = y.ptrs.length ∧ y.ptrs.length ≤ 1000000000 ∧ y.x.bt.length = 81

noncomputable def Dcl (pb : Nat) (oc : List Value) (C : List Value → List Value → HP) (p : Nat) (tx : SV) : HP := Sl.ex fun y : DC => Sl.pur (y.fit pb tx) *
  (row p 96 y.x.cells * (row y.d 341 [.int .i64 0, .int .i64 0, y.inn.v, .map y.x.links] * (arr 70 1 y.inn.v y.inn.len y.items * (arr 106 1 tx.v tx.len y.ptrs * (row pb 78 oc * C y.items y.ptrs)))))

theorem dcl_iff {w : World} {pb p : Nat} {oc : List Value} {C : List Value → List Value → HP} {tx : SV} {F : HP} : Sat w (Dcl pb oc C p tx * F) ↔ ∃ y : DC, y.fit pb tx ∧
    Sat w (row p 96 y.x.cells * (row y.d 341 [.int .i64 0, .int .i64 0, y.inn.v, .map y.x.links] * (arr 70 1 y.inn.v y.inn.len y.items * (arr 106 1 tx.v tx.len y.ptrs * (row pb 78 oc * (C y.items y.ptrs * F)))))) := by
  constructor
  · intro h
    obtain ⟨x, h⟩ := h.ex
    obtain ⟨h1, h2⟩ := (h.cast (star_assoc _ _ _)).pur
    exact ⟨x, h1, h2.cast (by ac_rfl)⟩
  · rintro ⟨x, h1, h2⟩
    refine Sat.ex_mk x ?_
    rw [star_assoc, pur_star h1]
    exact h2.cast (by ac_rfl)

theorem bt0_len : bt0.length = 81 := by unfold bt0; kernel_rfl

/-- The root is closed. -/
theorem closeRoot_d (pb p : Nat) (oc : List Value) (v : DV) (r : Nat) (inn : SV) (items : List Value) (C : List Value → List Value → HP) (F : HP) (w : World) (ho : v.obs = [⟨.iface 99 (.pointer (some ⟨r, 0, none⟩)), inn, items, 0, 0⟩])
    (hs : Sat w (Dsp pb oc v p * (C items v.ptrs * F))) :
    Calls Tryz.prog 65 #[.pointer (some ⟨p, 0, none⟩)] w fun e w' => (∃ u, e = .returned u) ∧ ∃ tx : SV, tx.len ≤ 1000000000 ∧ Sat w' (Dcl pb oc C p tx * F) := by
  obtain ⟨n, dep, obs, ptrs, links⟩ := v
  obtain rfl := ho
  obtain ⟨h, ⟨hf1, hf2, hf3, hf4⟩, h1⟩ := dsp_iff.1 hs
  obtain ⟨ho1, ho2⟩ := hf4 _ (List.mem_singleton.2 rfl)
  simp only at h1 hf1 hf2 ho1 ho2
  obtain ⟨junk, j1, j2, j3, j4, hr⟩ := h1.swap.arr_row
  have hr2 := hr.cast (show _ = row p 96 (DV.ps ⟨n, dep, [⟨.iface 99 (.pointer (some ⟨r, 0, none⟩)), inn, items, 0, 0⟩], ptrs, links⟩ pb h).cells * (row h.g 122 ([.iface 99 (.pointer (some ⟨r, 0, none⟩)), .slice inn.a inn.len inn.cap, .int .i64 0, .int .i64 0] ++ junk) *
    (arr 70 1 inn.v inn.len items * (arr 106 1 h.tx.v h.tx.len ptrs * (row pb 78 oc * (C items ptrs * F))))) from by
    rw [show obOwn [⟨.iface 99 (.pointer (some ⟨r, 0, none⟩)), inn, items, 0, 0⟩] = arr 70 1 inn.v inn.len items from star_emp _]
    rw [show obCells [⟨.iface 99 (.pointer (some ⟨r, 0, none⟩)), inn, items, 0, 0⟩] = [.iface 99 (.pointer (some ⟨r, 0, none⟩)), .slice inn.a inn.len inn.cap, .int .i64 0, .int .i64 0] from rfl]
    ac_rfl)
  refine (closeRoot_w ⟨r, 0, none⟩ p h.g h.cap 0 0 inn.a inn.len inn.cap _ junk _ w rfl hr2).mono ?_
  rintro e w' ⟨d, rfl, h5⟩
  refine ⟨⟨_, rfl⟩, h.tx, by omega, dcl_iff.2 ⟨⟨_, d, inn, items, ptrs⟩, ⟨rfl, rfl, rfl, ho1, ho2, hf1, hf2, bt0_len⟩, h5⟩⟩

end Go.Proofs.YtmdabdpghcjplaaGreatDoor
