/- FnBreak: its contract over what its arguments read as. -/
import Derived.Test.YtigcmibkgcmfcaaGreatDoorRw
import Derived.Test.YtigcmibkgcmfcaaGreatDoorLk
import Derived.Test.YtigcmibkgcmfcaaGreatDoorE1
namespace Go.Proofs.YtigcmibkgcmfcaaGreatDoor.fnBreak
open Go.ChangeShapes Go.WideShapes Go.ChangeAt Go.RowKit

theorem cells_u8 : Tryz.prog.cellsOf 5 = 1 := by kernel_rfl

theorem spec_at {H : Type} {enc : TypeId × Value → H} {W : World} {args : Array Value} {ds : List (DataW H)} {p : List MemPlace}
    (h : DataW.TrodAll enc Tryz.prog W 0 (fun _ => true) true Tryz.f3.params.toList args.toList ds p) : Rows.fnBreakSpec.fn H ds = { results := [.lit (.bool true)], args := ds } := by
  rw [Tryz.params3] at h
  obtain ⟨v0, vs0, d0, ds0, p0, q0, hargs, rfl, rfl, h0, r0⟩ := trodAll_cons h
  obtain ⟨v1, vs1, d1, ds1, p1, q1, hargs1, rfl, rfl, h1, r1⟩ := trodAll_cons r0
  obtain ⟨v2, vs2, d2, ds2, p2, q2, hargs2, rfl, rfl, h2, r2⟩ := trodAll_cons r1
  obtain ⟨rfl, rfl, rfl⟩ := trodAll_nil r2
  rfl

theorem hr_prints' (k : Nat) (c : UInt8) (ks : List Nat) (hb : Brk k c ks) : Prints (B.bs (brk k c ks)) hrOut := hr_prints k c ks hb

set_option maxRecDepth 100000 in
theorem contract (H : Type) (enc : TypeId × Value → H) (W : World) (base : Nat) (args : Array Value) (ds gs : List (DataW H)) (before : List MemPlace)
    (hval : ∀ (j : Nat) t v, Tryz.f3.params[j]? = some t → args[j]? = some v → Value.okWide Tryz.prog W .any base t v)
    (hW : DataW.Whole enc Tryz.prog Tryz.f3.params.toList Rows.fnBreakSpec.vars false W args.toList ds gs before) (_hL : laidMetH Tryz.prog Rows.fnBreakRow.laid W) :
    Calls Tryz.prog 3 args W fun e W' => e = .returned (.bool true) ∧ Below W.heap.size W W' := by
  obtain ⟨p, q, hA0, hV, rfl, hfz, hnd⟩ := hW
  have hA : DataW.TrodAll enc Tryz.prog W 0 (fun _ => true) true Tryz.f3.params.toList args.toList ds p := hA0
  rw [Tryz.params3] at hA
  obtain ⟨v0, vs0, d0, ds0, p0, q0, hargs, rfl, rfl, h0, r0⟩ := trodAll_cons hA
  obtain ⟨v1, vs1, d1, ds1, p1, q1, hargs1, rfl, rfl, h1, r1⟩ := trodAll_cons r0
  obtain ⟨v2, vs2, d2, ds2, p2, q2, hargs2, rfl, rfl, ⟨n2, h2⟩, r2⟩ := trodAll_cons r1
  obtain ⟨rfl, rfl, rfl⟩ := trodAll_nil r2
  obtain rfl : args = #[v0, v1, v2] := by cases args; simp_all
  obtain ⟨x, rfl, rfl, rfl, wx⟩ := open_int Tryz.underlying5 (hval 0 5 v0 rfl rfl) h0
  obtain ⟨y, rfl, rfl, rfl, wy⟩ := open_int Tryz.underlying5 (hval 1 5 v1 rfl rfl) h1
  have bx := Go.bounds_u8 wx
  have b_y := Go.bounds_u8 wy
  obtain ⟨X, rfl⟩ := Int.eq_ofNat_of_zero_le bx.1
  obtain ⟨Y, rfl⟩ := Int.eq_ofNat_of_zero_le b_y.1
  have hX : X < 256 := by omega
  have hY : Y < 256 := by omega
  obtain ⟨a0, len0, cap0, rfl⟩ := okWide_slice Tryz.underlying22 (hval 2 22 v2 rfl rfl)
  rcases open_ints Tryz.underlying22 Tryz.underlying5 cells_u8 h2 with ⟨e, _⟩ | ⟨a, len, cap, zs, e, _, hlc, hm, hzl, _, hcell, hwf⟩
  · simp [Value.cells] at e
    obtain ⟨rfl, rfl, rfl⟩ := e
    exact FnBreak_w hr_prints' X Y hX hY none 0 0 [] W (by omega) (fun i hi => by omega)
  · simp [Value.cells] at e
    obtain ⟨rfl, rfl, rfl⟩ := e
    simp only [if_true] at hzl
    have hmx : maxLen = 9223372036854775807 := rfl
    refine FnBreak_w hr_prints' X Y hX hY (some a) len0 cap0 zs W (by omega) (fun i hi => ?_)
    have h1 := hcell 0 (by omega)
    have hs : a.spot = none := by
      have := World.cell?_spot h1
      simpa [Addr.add] using this
    obtain ⟨b, off, sp⟩ := a
    obtain rfl : sp = none := hs
    have h2 := hcell i (by omega)
    have h3 : (⟨b, off, none⟩ : Addr).add i = ⟨b, off + i, none⟩ := by unfold Addr.add; split <;> simp_all
    rw [h3] at h2
    have h4 := hwf (zs.getD i 0) (by rw [List.getD_eq_getElem?_getD, List.getElem?_eq_getElem (by omega)]; exact List.getElem_mem _)
    simp only [Lit.wf, Bool.and_eq_true, decide_eq_true_eq] at h4
    have m0 : IntKind.u8.min = 0 := rfl
    have m1 : IntKind.u8.max = 255 := rfl
    exact ⟨b, off, rfl, h2, by omega, by omega⟩
end Go.Proofs.YtigcmibkgcmfcaaGreatDoor.fnBreak
