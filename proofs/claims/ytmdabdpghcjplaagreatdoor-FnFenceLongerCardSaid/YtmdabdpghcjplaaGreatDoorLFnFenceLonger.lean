/- FnFenceLonger: its contract over what its arguments read as. -/
import Derived.Test.YtmdabdpghcjplaaGreatDoorEn
import Derived.Test.YtmdabdpghcjplaaGreatDoorFh
namespace Go.Proofs.YtmdabdpghcjplaaGreatDoor.fnFenceLonger
open Go.ChangeShapes Go.WideShapes Go.ChangeAt Go.RowKit

theorem spec_at {H : Type} {enc : TypeId × Value → H} {W : World} {args : Array Value} {ds : List (DataW H)} {p : List MemPlace}
    (h : DataW.TrodAll enc Tryz.prog W 0 (fun _ => true) true Tryz.f5.params.toList args.toList ds p) : Rows.fnFenceLongerSpec.fn H ds = { results := [.lit (.bool true)], args := ds } := by
  rw [Tryz.params5] at h
  obtain ⟨v0, vs0, d0, ds0, p0, q0, hargs, rfl, rfl, h0, r0⟩ := trodAll_cons h
  obtain ⟨v1, vs1, d1, ds1, p1, q1, hargs1, rfl, rfl, h1, r1⟩ := trodAll_cons r0
  obtain ⟨v2, vs2, d2, ds2, p2, q2, hargs2, rfl, rfl, h2, r2⟩ := trodAll_cons r1
  obtain ⟨rfl, rfl, rfl⟩ := trodAll_nil r2
  rfl

theorem table_of {W : World} (h : laidMetH Tryz.prog Rows.fnFenceLongerRow.laid W) : Ents W := by
  have := h.filter (fun x => x.1 == "pub-paratext/pub/rscmarkdown.htmlEntities")
  exact ents_of_table this

set_option maxRecDepth 100000 in
theorem contract (H : Type) (enc : TypeId × Value → H) (W : World) (base : Nat) (args : Array Value) (ds gs : List (DataW H)) (before : List MemPlace)
    (hval : ∀ (j : Nat) t v, Tryz.f5.params[j]? = some t → args[j]? = some v → Value.okWide Tryz.prog W .any base t v)
    (hW : DataW.Whole enc Tryz.prog Tryz.f5.params.toList Rows.fnFenceLongerSpec.vars false W args.toList ds gs before) (hL : laidMetH Tryz.prog Rows.fnFenceLongerRow.laid W) :
    Calls Tryz.prog 5 args W fun e W' => e = .returned (.bool true) ∧ Below W.heap.size W W' := by
  obtain ⟨p, q, hA0, hV, rfl, hfz, hnd⟩ := hW
  have hA : DataW.TrodAll enc Tryz.prog W 0 (fun _ => true) true Tryz.f5.params.toList args.toList ds p := hA0
  rw [Tryz.params5] at hA
  obtain ⟨v0, vs0, d0, ds0, p0, q0, hargs, rfl, rfl, ⟨n0, h0⟩, r0⟩ := trodAll_cons hA
  obtain ⟨v1, vs1, d1, ds1, p1, q1, hargs1, rfl, rfl, h1, r1⟩ := trodAll_cons r0
  obtain ⟨v2, vs2, d2, ds2, p2, q2, hargs2, rfl, rfl, h2, r2⟩ := trodAll_cons r1
  obtain ⟨rfl, rfl, rfl⟩ := trodAll_nil r2
  obtain rfl : args = #[v0, v1, v2] := by cases args; simp_all
  obtain ⟨s, rfl⟩ := okWide_string Tryz.underlying9 (hval 0 9 v0 rfl rfl)
  obtain ⟨s', e0, _, hsz⟩ := DataW.trod_string Tryz.underlying9 h0
  simp [Value.cells] at e0
  subst e0
  obtain ⟨x, rfl, rfl, rfl, wx⟩ := open_int Tryz.underlying5 (hval 1 5 v1 rfl rfl) h1
  obtain ⟨y, rfl, rfl, rfl, wy⟩ := open_int Tryz.underlying5 (hval 2 5 v2 rfl rfl) h2
  have bx := Go.bounds_u8 wx
  have b_y := Go.bounds_u8 wy
  obtain ⟨X, rfl⟩ := Int.eq_ofNat_of_zero_le bx.1
  obtain ⟨Y, rfl⟩ := Int.eq_ofNat_of_zero_le b_y.1
  have hmx : maxLen = 9223372036854775807 := rfl
  have h := FnFenceLonger_w s.data.toList X Y W (by omega) (by omega) (by rw [← B.size_data]; omega) (table_of hL)
  rw [bs_toList] at h
  exact h
end Go.Proofs.YtmdabdpghcjplaaGreatDoor.fnFenceLonger
