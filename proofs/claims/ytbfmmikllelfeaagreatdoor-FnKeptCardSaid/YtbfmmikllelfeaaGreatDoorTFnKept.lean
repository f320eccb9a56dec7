/-
  The law FnKept returns true for every kind and every slice of texts: a block of HTML of any of the seven kinds is kept as it stands, alone and between two paragraphs.
  No condition: the statement is the given card, for every argument. (The law's own guards let the greatest texts by.)
-/
import Derived.Test.YtbfmmikllelfeaaGreatDoorRw
import Derived.Test.YtbfmmikllelfeaaGreatDoorLFnKept
namespace Go.Proofs.YtbfmmikllelfeaaGreatDoor.fnKept
open Go.ChangeShapes Go.WideShapes Go.ChangeAt Go.RowKit

set_option maxRecDepth 100000 in
theorem laid_met (os : Os) (args : Array Value) : laidMet Tryz.prog Rows.fnKeptRow.laid ((laidWorld os).forCall (fun _ _ => 0) ⟨#[], args, []⟩).memory :=
  laidMet_of_run3 8 (by kernel_rfl) (by kernel_rfl) (by kernel_rfl)
theorem reads (os : Os) {H : Type} (enc : TypeId × Value → H) : ∃ places, DataW.whole enc Tryz.prog ((laidWorld os).forCall (fun _ _ => 0) ⟨#[], #[.int .u8 0, .slice none 0 0], []⟩).memory Tryz.f6.params.toList Rows.fnKeptSpec.vars false [.int .u8 0, .slice none 0 0] 8 = some ([.lit (.int .u8 0), .nil], [], places) :=
  ⟨[], by kernel_rfl⟩

set_option maxRecDepth 100000 in
theorem lifted (os : Os) (started : os.Started) (H : Type) (enc : TypeId × Value → H) (F : Stop.Interp) :
    ReturnsInHanded {} Tryz.checked os 6 .any ((OpenSpec.ofChange Rows.fnKeptSpec).preRow enc Tryz.prog Tryz.f6 Rows.fnKeptRow.domain false Rows.fnKeptRow.laid) (((OpenSpec.ofChange Rows.fnKeptSpec).at F).post enc Tryz.prog Tryz.f6 false true false false) := by
  obtain ⟨places, hx⟩ := reads os enc
  refine returnsInHanded_of_row (C := Tryz.checked) (s := OpenSpec.ofChange Rows.fnKeptSpec) own started (by kernel_rfl) Tryz.func6
    (witness_row_at (enc := enc) (C := Tryz.checked) false (laidWorld os) #[.int .u8 0, .slice none 0 0] rfl (by kernel_rfl) (by kernel_rfl) (by kernel_rfl)
      (OpenSpec.preRow_of_cond 8 hx (by kernel_rfl) (fun k hk => by cases hk) (by kernel_rfl) (laid_met os _))) ?_
  intro W base args ds gs before hval hW _ _ _ hL _ _
  refine (contract H enc W base args ds gs before hval hW hL).mono fun e W' ⟨he, hb⟩ => ⟨_, he, ?_⟩
  exact post_true rfl rfl (of_decide_eq_true (by kernel_rfl)) (fun p hp => spec_at hp) hW hb

theorem fact9 : (Rows.fnKeptRow.inPlace == Tryz.prog.inPlace 6) = true := by kernel_rfl
theorem fact10 : (Rows.fnKeptRow.unfollowed == Tryz.prog.unfollowed 6) = true := by kernel_rfl
theorem fact11 : (Rows.fnKeptRow.recurses == Tryz.prog.recurses 6) = true := by kernel_rfl
theorem fact12 : (Rows.fnKeptRow.named == Tryz.prog.varsNamed 6) = true := by kernel_rfl
set_option maxRecDepth 100000 in
theorem facts : joinedFacts Tryz.prog 6 Tryz.f6 (OpenSpec.ofChange Rows.fnKeptSpec).bare Rows.fnKeptRow = true :=
  facts_of (by kernel_rfl) fact1 fact2 (by kernel_rfl) (by kernel_rfl) rfl fact6 rfl fact8 fact9 fact10 fact11 fact12 (by kernel_rfl) (by kernel_rfl) (by kernel_rfl) (by kernel_rfl) (by kernel_rfl) rfl (by kernel_rfl) (by kernel_rfl) (by kernel_rfl)
    (by rw [fact22]; rfl) rfl fact24 fact25 (by rw [fact26]; rfl) (by rw [fact27]; rfl) rfl rfl (by kernel_rfl) (by kernel_rfl)

set_option maxRecDepth 100000 in
theorem said : Rows.FnKeptSaid :=
  OpenClaim.holds_of_cond 6 Tryz.f6 rfl rfl rfl rfl rfl rfl rfl ⟨rfl, rfl, rfl, rfl, rfl⟩ rfl rfl rfl rfl rfl (by kernel_rfl) Tryz.func6 facts
    (of_decide_eq_true (by kernel_rfl)) (by unfold Func.isWrapper; first | (rw [if_pos (by decide +kernel)]; kernel_rfl) | (rw [if_neg (by decide +kernel)]; exact ⟨rfl, rfl⟩))
    (fun os started H enc _ F => by rw [OpenClaim.pre_eq_preRow]; exact lifted os started H enc F)

theorem plain (f : FuncId) (fn : Func) (hf : Tryz.pinned.checked.prog.funcNamed "pub-paratext/laws.FnKept" = some f) (hfn : Tryz.pinned.checked.prog.funcs[f]? = some fn) :
    true = Tryz.pinned.checked.prog.looks [] ∧ ∀ (j : Nat) t, fn.params[j]? = some t → Tryz.pinned.checked.prog.wantsStandIn t = false := by
  obtain rfl : f = 6 := Option.some.inj ((show Tryz.prog.funcNamed "pub-paratext/laws.FnKept" = some 6 by kernel_rfl).symm.trans hf) |>.symm
  obtain rfl : fn = Tryz.f6 := (Option.some.inj (Tryz.func6.symm.trans hfn)).symm
  refine ⟨by kernel_rfl, fun j t ht => ?_⟩
  have hall : Tryz.f6.params.toList.all (fun t => Tryz.prog.wantsStandIn t == false) = true := by kernel_rfl
  have := List.all_eq_true.1 hall t (by rw [← Array.mem_def]; exact Array.mem_of_getElem? ht)
  have h2 : Tryz.prog.wantsStandIn t = false := by simpa using this
  exact h2

end Go.Proofs.YtbfmmikllelfeaaGreatDoor.fnKept
