/- No function of the program starts a goroutine: whatever a call can come to. -/
import Derived.Test.YtbfmmikllelfeaaGreatDoorRw
namespace Go.Proofs.YtbfmmikllelfeaaGreatDoor

theorem goes_none {P : Program} (h0 : P.funcs.any Func.goes = false) (f : FuncId) : P.goes f = false := by
  unfold Program.goes
  have h : ∀ g : FuncId, (P.funcs[g]?).any Func.goes = false := by
    intro g
    cases hg : P.funcs[g]? with
    | none => rfl
    | some fn =>
      have h1 := h0
      rw [Array.any_eq_false] at h1
      obtain ⟨hi, he⟩ := Array.getElem?_eq_some_iff.1 hg
      have h2 := h1 g hi
      rw [he] at h2
      simpa using h2
  rw [h0, Bool.and_false, Bool.or_false]
  have h3 : (fun g : FuncId => (P.funcs[g]?).any Func.goes) = fun _ => false := funext h
  rw [h3]
  simp

theorem goesFrom_none {P : Program} (h0 : P.funcs.any Func.goes = false) (s : String) : P.goesFrom s = false := by
  unfold Program.goesFrom
  cases P.funcNamed s with
  | none => rfl
  | some f => exact goes_none h0 f

/-- The row's word on goroutines, with no look at what its call comes to. -/
theorem goesBy_none {P : Program} (h0 : P.funcs.any Func.goes = false) {c : OpenClaim} (hs : c.start = .entering) : false = c.goesBy P := by
  unfold OpenClaim.goesBy Program.goesAt
  rw [goesFrom_none h0, hs]
  rfl

set_option maxRecDepth 100000 in
theorem no_goes : Tryz.prog.funcs.any Func.goes = false := by kernel_rfl

end Go.Proofs.YtbfmmikllelfeaaGreatDoor
