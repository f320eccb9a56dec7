/-
  The law FnCodePoint returns true for every number and either base: a numeric reference to a number from 33 to 1114111 is this character, or the replacement character, if there is none; so are 0 and what is greater, up to seven decimal or six hexadecimal digits.
  No condition: the statement is the given card, for every argument. (The law's own guards let the greatest texts by.)
-/
import Derived.Test.YtcmpcjffmccllaaGreatDoorRw
import Derived.Test.YtcmpcjffmccllaaGreatDoorLFnCodePoint
namespace Go.Proofs.YtcmpcjffmccllaaGreatDoor.fnCodePoint
open Go.ChangeShapes Go.WideShapes Go.ChangeAt Go.RowKit

set_option maxRecDepth 100000 in
theorem laid_met (os : Os) (args : Array Value) : laidMet Tryz.prog Rows.fnCodePointRow.laid ((laidWorld os).forCall (fun _ _ => 0) ⟨#[], args, []⟩).memory :=
  laidMet_of_run3 8 (by kernel_rfl) (by kernel_rfl) (by kernel_rfl)
theorem reads (os : Os) {H : Type} (enc : TypeId × Value → H) : ∃ places, DataW.whole enc Tryz.prog ((laidWorld os).forCall (fun _ _ => 0) ⟨#[], #[.int .u32 0, .bool false], []⟩).memory Tryz.f3.params.toList Rows.fnCodePointSpec.vars false [.int .u32 0, .bool false] 8 = some ([.lit (.int .u32 0), .lit (.bool false)], [], places) :=
  ⟨[], by kernel_rfl⟩

set_option maxRecDepth 100000 in
theorem lifted (os : Os) (started : os.Started) (H : Type) (enc : TypeId × Value → H) (F : Stop.Interp) :
    ReturnsInHanded {} Tryz.checked os 3 .any ((OpenSpec.ofChange Rows.fnCodePointSpec).preRow enc Tryz.prog Tryz.f3 Rows.fnCodePointRow.domain false Rows.fnCodePointRow.laid) (((OpenSpec.ofChange Rows.fnCodePointSpec).at F).post enc Tryz.prog Tryz.f3 false true false false) := by
  obtain ⟨places, hx⟩ := reads os enc
  refine returnsInHanded_of_row (C := Tryz.checked) (s := OpenSpec.ofChange Rows.fnCodePointSpec) own started (by kernel_rfl) Tryz.func3
    (witness_row_at (enc := enc) (C := Tryz.checked) false (laidWorld os) #[.int .u32 0, .bool false] rfl (by kernel_rfl) (by kernel_rfl) (by kernel_rfl)
      (OpenSpec.preRow_of_cond 8 hx (by kernel_rfl) (fun k hk => by cases hk) (by kernel_rfl) (laid_met os _))) ?_
  intro W base args ds gs before hval hW _ _ _ hL _ _
  refine (contract H enc W base args ds gs before hval hW hL).mono fun e W' ⟨he, hb⟩ => ⟨_, he, ?_⟩
  exact post_true rfl rfl (of_decide_eq_true (by kernel_rfl)) (fun p hp => spec_at hp) hW hb

theorem fact9 : (Rows.fnCodePointRow.inPlace == Tryz.prog.inPlace 3) = true := by kernel_rfl
theorem fact10 : (Rows.fnCodePointRow.unfollowed == Tryz.prog.unfollowed 3) = true := by kernel_rfl
theorem fact11 : (Rows.fnCodePointRow.recurses == Tryz.prog.recurses 3) = true := by kernel_rfl
theorem fact12 : (Rows.fnCodePointRow.named == Tryz.prog.varsNamed 3) = true := by kernel_rfl
set_option maxRecDepth 100000 in
theorem facts : joinedFacts Tryz.prog 3 Tryz.f3 (OpenSpec.ofChange Rows.fnCodePointSpec).bare Rows.fnCodePointRow = true :=
  facts_of (by kernel_rfl) fact1 fact2 (by kernel_rfl) (by kernel_rfl) rfl fact6 rfl fact8 fact9 fact10 fact11 fact12 (by kernel_rfl) (by kernel_rfl) (by kernel_rfl) (by kernel_rfl) (by kernel_rfl) rfl (by kernel_rfl) (by kernel_rfl) (by kernel_rfl)
    (by rw [fact22]; rfl) rfl fact24 fact25 (by rw [fact26]; rfl) (by rw [fact27]; rfl) rfl rfl (by kernel_rfl) (by kernel_rfl)

set_option maxRecDepth 100000 in
theorem said : Rows.FnCodePointSaid :=
  OpenClaim.holds_of_cond 3 Tryz.f3 rfl rfl rfl rfl rfl rfl rfl ⟨rfl, rfl, rfl, rfl, rfl⟩ rfl rfl rfl rfl rfl (by kernel_rfl) Tryz.func3 facts
    (of_decide_eq_true (by kernel_rfl)) (by unfold Func.isWrapper; first | (rw [if_pos (by decide +kernel)]; kernel_rfl) | (rw [if_neg (by decide +kernel)]; exact ⟨rfl, rfl⟩))
    (fun os started H enc _ F => by rw [OpenClaim.pre_eq_preRow]; exact lifted os started H enc F)

theorem plain (f : FuncId) (fn : Func) (hf : Tryz.pinned.checked.prog.funcNamed "pub-paratext/laws.FnCodePoint" = some f) (hfn : Tryz.pinned.checked.prog.funcs[f]? = some fn) :
    true = Tryz.pinned.checked.prog.looks [] ∧ ∀ (j : Nat) t, fn.params[j]? = some t → Tryz.pinned.checked.prog.wantsStandIn t = false := by
  obtain rfl : f = 3 := Option.some.inj ((show Tryz.prog.funcNamed "pub-paratext/laws.FnCodePoint" = some 3 by kernel_rfl).symm.trans hf) |>.symm
  obtain rfl : fn = Tryz.f3 := (Option.some.inj (Tryz.func3.symm.trans hfn)).symm
  refine ⟨by kernel_rfl, fun j t ht => ?_⟩
  have hall : Tryz.f3.params.toList.all (fun t => Tryz.prog.wantsStandIn t == false) = true := by kernel_rfl
  have := List.all_eq_true.1 hall t (by rw [← Array.mem_def]; exact Array.mem_of_getElem? ht)
  have h2 : Tryz.prog.wantsStandIn t = false := by simpa using this
  exact h2

set_option maxRecDepth 100000 in
theorem card : Rows.FnCodePointCardSaid :=
  Claim7.holds_tied_plain_at .later [] _ _ _ _ said (fun _ h => by cases h) (by kernel_rfl) (fun _ h => by cases h) fnCodePoint_row_tie rfl ⟨rfl, rfl⟩ (by kernel_rfl) rfl plain (by kernel_rfl)
end Go.Proofs.YtcmpcjffmccllaaGreatDoor.fnCodePoint
