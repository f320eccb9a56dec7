/- FnKept: its contract over what its arguments read as. -/
import Derived.Test.YtbfmmikllelfeaaGreatDoorRw
import Derived.Test.YtbfmmikllelfeaaGreatDoorKx
import Derived.SliceStrings
namespace Go.Proofs.YtbfmmikllelfeaaGreatDoor.fnKept
open Go.ChangeShapes Go.WideShapes Go.ChangeAt Go.RowKit

theorem cells_str : Tryz.prog.cellsOf 9 = 1 := by kernel_rfl

theorem spec_at {H : Type} {enc : TypeId × Value → H} {W : World} {args : Array Value} {ds : List (DataW H)} {p : List MemPlace}
    (h : DataW.TrodAll enc Tryz.prog W 0 (fun _ => true) true Tryz.f6.params.toList args.toList ds p) : Rows.fnKeptSpec.fn H ds = { results := [.lit (.bool true)], args := ds } := by
  rw [Tryz.params6] at h
  obtain ⟨v0, vs0, d0, ds0, p0, q0, hargs, rfl, rfl, h0, r0⟩ := trodAll_cons h
  obtain ⟨v1, vs1, d1, ds1, p1, q1, hargs1, rfl, rfl, h1, r1⟩ := trodAll_cons r0
  obtain ⟨rfl, rfl, rfl⟩ := trodAll_nil r1
  rfl

set_option maxRecDepth 100000 in
theorem contract (H : Type) (enc : TypeId × Value → H) (W : World) (base : Nat) (args : Array Value) (ds gs : List (DataW H)) (before : List MemPlace)
    (hval : ∀ (j : Nat) t v, Tryz.f6.params[j]? = some t → args[j]? = some v → Value.okWide Tryz.prog W .any base t v)
    (hW : DataW.Whole enc Tryz.prog Tryz.f6.params.toList Rows.fnKeptSpec.vars false W args.toList ds gs before) (_hL : laidMetH Tryz.prog Rows.fnKeptRow.laid W) :
    Calls Tryz.prog 6 args W fun e W' => e = .returned (.bool true) ∧ Below W.heap.size W W' := by
  obtain ⟨p, q, hA0, hV, rfl, hfz, hnd⟩ := hW
  have hA : DataW.TrodAll enc Tryz.prog W 0 (fun _ => true) true Tryz.f6.params.toList args.toList ds p := hA0
  rw [Tryz.params6] at hA
  obtain ⟨v0, vs0, d0, ds0, p0, q0, hargs, rfl, rfl, hi0, r0⟩ := trodAll_cons hA
  obtain ⟨v1, vs1, d1, ds1, p1, q1, hargs1, rfl, rfl, ⟨n, h0⟩, r1⟩ := trodAll_cons r0
  obtain ⟨rfl, rfl, rfl⟩ := trodAll_nil r1
  obtain rfl : args = #[v0, v1] := by cases args; simp_all
  obtain ⟨x, rfl, rfl, rfl, wx⟩ := open_int Tryz.underlying5 (hval 0 5 v0 rfl rfl) hi0
  have bx := Go.bounds_u8 wx
  obtain ⟨X, rfl⟩ := Int.eq_ofNat_of_zero_le bx.1
  obtain ⟨a0, len0, cap0, rfl⟩ := okWide_slice Tryz.underlying31 (hval 1 31 v1 rfl rfl)
  rcases open_strings Tryz.underlying31 Tryz.underlying9 cells_str h0 with ⟨e, _⟩ | ⟨a, len, cap, zs, e, _, hlc, hm, hzl, _, hcell, hsz⟩
  · simp [Value.cells] at e
    obtain ⟨rfl, rfl, rfl⟩ := e
    exact FnKept_w X (by omega) none 0 0 [] W rfl (by omega) (fun i hi => by simp at hi) (fun s hs => by cases hs)
  · simp [Value.cells] at e
    obtain ⟨rfl, rfl, rfl⟩ := e
    simp only [if_true] at hzl
    have hmx : maxLen = 9223372036854775807 := rfl
    have hln : ((zs.take len0).map fun s => s.data.toList).length = len0 := by rw [List.length_map, List.length_take]; omega
    refine FnKept_w X (by omega) (some a) len0 cap0 ((zs.take len0).map fun s => s.data.toList) W hln (by omega) (fun i hi => ?_) (fun s hs => ?_)
    · rw [hln] at hi
      have h1 := hcell 0 (by omega)
      have hs : a.spot = none := by
        have := World.cell?_spot h1
        simpa [Addr.add] using this
      obtain ⟨b, off, sp⟩ := a
      obtain rfl : sp = none := hs
      have h2 := hcell i (by omega)
      have h3 : (⟨b, off, none⟩ : Addr).add i = ⟨b, off + i, none⟩ := by unfold Addr.add; split <;> simp_all
      rw [h3] at h2
      refine ⟨b, off, rfl, h2.trans ?_⟩
      rw [List.getD_eq_getElem?_getD, List.getElem?_eq_getElem (by omega)]
      simp only [List.getElem_map, List.getElem_take, B.data_bs, Option.getD_some]
    · obtain ⟨z, hz, rfl⟩ := List.mem_map.1 hs
      have := hsz z (List.mem_of_mem_take hz)
      rw [B.size_data] at this
      omega
end Go.Proofs.YtbfmmikllelfeaaGreatDoor.fnKept
