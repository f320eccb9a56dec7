/- States of a text with one block: the root; what inline makes of a text. -/
import Derived.Test.YtbfmmikllelfeaaGreatDoorI9
import Derived.Test.YtbfmmikllelfeaaGreatDoorI7
import Derived.Test.YtbfmmikllelfeaaGreatDoorKi
import Derived.Test.YtbfmmikllelfeaaGreatDoorG2
namespace Go.Proofs.YtbfmmikllelfeaaGreatDoor
open Go.RowKit Sl

def rootOB (r : Nat) (inn : SV) (items : List Value) : OB := ⟨.iface 176 (.pointer (some ⟨r, 0, none⟩)), inn, items, 0, 0⟩

noncomputable def HdK0 (pb : Nat) (oc : List Value) (n dep : Int) (p : Nat) : HP := Sl.ex fun x : Nat × SV => Dsp pb oc ⟨n, dep, [rootOB x.1 x.2 []], [], none⟩ p

structure HdX where
  r : Nat
  inn : SV
  d : Nat
  tb : Nat

theorem typeAssert_root' (r : Nat) : ∀ w, (Instr.typeAssert (.iface 176 (.pointer (some ⟨r, 0, none⟩))) 195 258 true).run Tryz.prog w = .ok (.tuple #[.pointer none, .bool false]) w := fun w => by kernel_rfl

theorem zero_ok' : Ln.zero.OK := ⟨Nat.le_refl _, Nat.le_refl _, Nat.zero_le _, Nat.zero_le _⟩

theorem zero_blank' : Ln.zero.blank = true := rfl

/-- As Dcl; the stack is empty. -/
noncomputable def Dcl0 (pb : Nat) (oc : List Value) (C : List Value → List Value → HP) (p : Nat) (tx : SV) : HP := Sl.ex fun y : DC => Sl.pur ((y.fit pb tx ∧ y.x.stack.len = 0)) *
  (row p 173 y.x.cells * (row y.d 117 [.int .i64 0, .int .i64 0, y.inn.v, .map y.x.links] * (arr 97 1 y.inn.v y.inn.len y.items * (arr 139 1 tx.v tx.len y.ptrs * (row pb 105 oc * C y.items y.ptrs)))))

theorem dcl0_iff {w : World} {pb p : Nat} {oc : List Value} {C : List Value → List Value → HP} {tx : SV} {F : HP} : Sat w (Dcl0 pb oc C p tx * F) ↔ ∃ y : DC, (y.fit pb tx ∧ y.x.stack.len = 0) ∧
    Sat w (row p 173 y.x.cells * (row y.d 117 [.int .i64 0, .int .i64 0, y.inn.v, .map y.x.links] * (arr 97 1 y.inn.v y.inn.len y.items * (arr 139 1 tx.v tx.len y.ptrs * (row pb 105 oc * (C y.items y.ptrs * F)))))) := by
  constructor
  · intro h
    obtain ⟨x, h⟩ := h.ex
    obtain ⟨h1, h2⟩ := (h.cast (star_assoc _ _ _)).pur
    exact ⟨x, h1, h2.cast (by ac_rfl)⟩
  · rintro ⟨x, h1, h2⟩
    refine Sat.ex_mk x ?_
    rw [star_assoc, pur_star h1]
    exact h2.cast (by ac_rfl)

/-- The root is closed. -/
theorem closeRoot_e (pb p : Nat) (oc : List Value) (v : DV) (r : Nat) (inn : SV) (items : List Value) (C : List Value → List Value → HP) (F : HP) (w : World) (ho : v.obs = [⟨.iface 176 (.pointer (some ⟨r, 0, none⟩)), inn, items, 0, 0⟩])
    (hs : Sat w (Dsp pb oc v p * (C items v.ptrs * F))) :
    Calls Tryz.prog 107 #[.pointer (some ⟨p, 0, none⟩)] w fun e w' => (∃ u, e = .returned u) ∧ ∃ tx : SV, tx.len ≤ 1000000000 ∧ Sat w' (Dcl0 pb oc C p tx * F) := by
  obtain ⟨n, dep, obs, ptrs, links⟩ := v
  obtain rfl := ho
  obtain ⟨h, ⟨hf1, hf2, hf3, hf4⟩, h1⟩ := dsp_iff.1 hs
  obtain ⟨ho1, ho2⟩ := hf4 _ (List.mem_singleton.2 rfl)
  simp only at h1 hf1 hf2 ho1 ho2
  obtain ⟨junk, j1, j2, j3, j4, hr⟩ := h1.swap.arr_row
  have hr2 := hr.cast (show _ = row p 173 (DV.ps ⟨n, dep, [⟨.iface 176 (.pointer (some ⟨r, 0, none⟩)), inn, items, 0, 0⟩], ptrs, links⟩ pb h).cells * (row h.g 197 ([.iface 176 (.pointer (some ⟨r, 0, none⟩)), .slice inn.a inn.len inn.cap, .int .i64 0, .int .i64 0] ++ junk) *
    (arr 97 1 inn.v inn.len items * (arr 139 1 h.tx.v h.tx.len ptrs * (row pb 105 oc * (C items ptrs * F))))) from by
    rw [show obOwn [⟨.iface 176 (.pointer (some ⟨r, 0, none⟩)), inn, items, 0, 0⟩] = arr 97 1 inn.v inn.len items from star_emp _]
    rw [show obCells [⟨.iface 176 (.pointer (some ⟨r, 0, none⟩)), inn, items, 0, 0⟩] = [.iface 176 (.pointer (some ⟨r, 0, none⟩)), .slice inn.a inn.len inn.cap, .int .i64 0, .int .i64 0] from rfl]
    ac_rfl)
  refine (closeRoot_w ⟨r, 0, none⟩ p h.g h.cap 0 0 inn.a inn.len inn.cap _ junk _ w rfl hr2).mono ?_
  rintro e w' ⟨d, rfl, h5⟩
  refine ⟨⟨_, rfl⟩, h.tx, by omega, dcl0_iff.2 ⟨⟨_, d, inn, items, ptrs⟩, ⟨⟨rfl, rfl, rfl, ho1, ho2, hf1, hf2, bt0_len⟩, rfl⟩, h5⟩⟩

/-- What inline makes of a text. -/
def InlOf (o : Opt) (raw : List UInt8) (toks : List Tok) : Prop := ∀ (p pb : Nat) (x0 : PSt) (F : HP) (w : World), x0.parser = some ⟨pb, 0, none⟩ → x0.bt.length = 81 → Sat w (row p 173 x0.cells * (row pb 105 o.pcells * F)) →
  Calls Tryz.prog 92 #[.pointer (some ⟨p, 0, none⟩), .string (B.bs raw)] w fun e w' => ∃ (x : PSt) (L : SV), e = .returned L.v ∧ Keeps x x0 ∧ Sat w' (row p 173 x.cells * (InlsAt L toks * (row pb 105 o.pcells * F)))

theorem one_line {t : List UInt8} (hne : t ≠ []) (h : ∀ c ∈ t, c ≠ 10 ∧ c ≠ 13) : B.lines t = [(t, 0)] := by
  have := lines_join [t] (fun x hx => by obtain rfl := List.mem_singleton.1 hx; exact ⟨fun h1 => (h 10 h1).1 rfl, fun h1 => (h 13 h1).2 rfl⟩) (by simpa using hne)
  exact this

end Go.Proofs.YtbfmmikllelfeaaGreatDoor
