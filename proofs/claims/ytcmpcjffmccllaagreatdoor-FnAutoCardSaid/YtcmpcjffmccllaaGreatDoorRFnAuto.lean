/-
  The law FnAuto returns true for every five texts and either scheme: with automatic links an address that begins with http or https among words is a link to itself, without them it is text.
  No condition: the statement is the given card, for every argument. (The law's own guards let the greatest texts by.)
-/
import Derived.Test.YtcmpcjffmccllaaGreatDoorRw
import Derived.Test.YtcmpcjffmccllaaGreatDoorLFnAuto
namespace Go.Proofs.YtcmpcjffmccllaaGreatDoor.fnAuto
open Go.ChangeShapes Go.WideShapes Go.ChangeAt Go.RowKit

set_option maxRecDepth 100000 in
theorem laid_met (os : Os) (args : Array Value) : laidMet Tryz.prog Rows.fnAutoRow.laid ((laidWorld os).forCall (fun _ _ => 0) ⟨#[], args, []⟩).memory :=
  laidMet_of_run3 8 (by kernel_rfl) (by kernel_rfl) (by kernel_rfl)
theorem reads (os : Os) {H : Type} (enc : TypeId × Value → H) : ∃ places, DataW.whole enc Tryz.prog ((laidWorld os).forCall (fun _ _ => 0) ⟨#[], #[.string ⟨#[]⟩, .string ⟨#[]⟩, .string ⟨#[]⟩, .string ⟨#[]⟩, .string ⟨#[]⟩, .bool false], []⟩).memory Tryz.f8.params.toList Rows.fnAutoSpec.vars false [.string ⟨#[]⟩, .string ⟨#[]⟩, .string ⟨#[]⟩, .string ⟨#[]⟩, .string ⟨#[]⟩, .bool false] 8 = some ([.lit (.string []), .lit (.string []), .lit (.string []), .lit (.string []), .lit (.string []), .lit (.bool false)], [], places) :=
  ⟨[], by kernel_rfl⟩

set_option maxRecDepth 100000 in
theorem lifted (os : Os) (started : os.Started) (H : Type) (enc : TypeId × Value → H) (F : Stop.Interp) :
    ReturnsInHanded {} Tryz.checked os 8 .any ((OpenSpec.ofChange Rows.fnAutoSpec).preRow enc Tryz.prog Tryz.f8 Rows.fnAutoRow.domain false Rows.fnAutoRow.laid) (((OpenSpec.ofChange Rows.fnAutoSpec).at F).post enc Tryz.prog Tryz.f8 false true false false) := by
  obtain ⟨places, hx⟩ := reads os enc
  refine returnsInHanded_of_row (C := Tryz.checked) (s := OpenSpec.ofChange Rows.fnAutoSpec) own started (by kernel_rfl) Tryz.func8
    (witness_row_at (enc := enc) (C := Tryz.checked) false (laidWorld os) #[.string ⟨#[]⟩, .string ⟨#[]⟩, .string ⟨#[]⟩, .string ⟨#[]⟩, .string ⟨#[]⟩, .bool false] rfl (by kernel_rfl) (by kernel_rfl) (by kernel_rfl)
      (OpenSpec.preRow_of_cond 8 hx (by kernel_rfl) (fun k hk => by cases hk) (by kernel_rfl) (laid_met os _))) ?_
  intro W base args ds gs before hval hW _ _ _ hL _ _
  refine (contract H enc W base args ds gs before hval hW hL).mono fun e W' ⟨he, hb⟩ => ⟨_, he, ?_⟩
  exact post_true rfl rfl (of_decide_eq_true (by kernel_rfl)) (fun p hp => spec_at hp) hW hb

theorem fact9 : (Rows.fnAutoRow.inPlace == Tryz.prog.inPlace 8) = true := by kernel_rfl
theorem fact10 : (Rows.fnAutoRow.unfollowed == Tryz.prog.unfollowed 8) = true := by kernel_rfl
theorem fact11 : (Rows.fnAutoRow.recurses == Tryz.prog.recurses 8) = true := by kernel_rfl
theorem fact12 : (Rows.fnAutoRow.named == Tryz.prog.varsNamed 8) = true := by kernel_rfl
set_option maxRecDepth 100000 in
theorem facts : joinedFacts Tryz.prog 8 Tryz.f8 (OpenSpec.ofChange Rows.fnAutoSpec).bare Rows.fnAutoRow = true :=
  facts_of (by kernel_rfl) fact1 fact2 (by kernel_rfl) (by kernel_rfl) rfl fact6 rfl fact8 fact9 fact10 fact11 fact12 (by kernel_rfl) (by kernel_rfl) (by kernel_rfl) (by kernel_rfl) (by kernel_rfl) rfl (by kernel_rfl) (by kernel_rfl) (by kernel_rfl)
    (by rw [fact22]; rfl) rfl fact24 fact25 (by rw [fact26]; rfl) (by rw [fact27]; rfl) rfl rfl (by kernel_rfl) (by kernel_rfl)

set_option maxRecDepth 100000 in
theorem said : Rows.FnAutoSaid :=
  OpenClaim.holds_of_cond 8 Tryz.f8 rfl rfl rfl rfl rfl rfl rfl ⟨rfl, rfl, rfl, rfl, rfl⟩ rfl rfl rfl rfl rfl (by kernel_rfl) Tryz.func8 facts
    (of_decide_eq_true (by kernel_rfl)) (by unfold Func.isWrapper; first | (rw [if_pos (by decide +kernel)]; kernel_rfl) | (rw [if_neg (by decide +kernel)]; exact ⟨rfl, rfl⟩))
    (fun os started H enc _ F => by rw [OpenClaim.pre_eq_preRow]; exact lifted os started H enc F)

theorem plain (f : FuncId) (fn : Func) (hf : Tryz.pinned.checked.prog.funcNamed "pub-paratext/laws.FnAuto" = some f) (hfn : Tryz.pinned.checked.prog.funcs[f]? = some fn) :
    true = Tryz.pinned.checked.prog.looks [] ∧ ∀ (j : Nat) t, fn.params[j]? = some t → Tryz.pinned.checked.prog.wantsStandIn t = false := by
  obtain rfl : f = 8 := Option.some.inj ((show Tryz.prog.funcNamed "pub-paratext/laws.FnAuto" = some 8 by kernel_rfl).symm.trans hf) |>.symm
  obtain rfl : fn = Tryz.f8 := (Option.some.inj (Tryz.func8.symm.trans hfn)).symm
  refine ⟨by kernel_rfl, fun j t ht => ?_⟩
  have hall : Tryz.f8.params.toList.all (fun t => Tryz.prog.wantsStandIn t == false) = true := by kernel_rfl
  have := List.all_eq_true.1 hall t (by rw [← Array.mem_def]; exact Array.mem_of_getElem? ht)
  have h2 : Tryz.prog.wantsStandIn t = false := by simpa using this
  exact h2

set_option maxRecDepth 100000 in
theorem card : Rows.FnAutoCardSaid :=
  Claim7.holds_tied_plain_at .later [] _ _ _ _ said (fun _ h => by cases h) (by kernel_rfl) (fun _ h => by cases h) fnAuto_row_tie rfl ⟨rfl, rfl⟩ (by kernel_rfl) rfl plain (by kernel_rfl)
end Go.Proofs.YtcmpcjffmccllaaGreatDoor.fnAuto
