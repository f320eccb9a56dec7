/-
  DERIVED. GIVEN WITH THE SEED: THE CARDS: each row of YtegnaedkalobgaaGreatDoorRows.lean that lists a variable, with what it lists TIED to the program's text (the seventh form; the later family's looks); each row that meets fmt, with fmt's text TOLD by the authors' own Lean function (tested against real Go, not proved from fmt's source: count such statements apart). THE CARD IS WHAT COUNTS. Prove the row's statement (the work); the ties are given (YtegnaedkalobgaaGreatDoorTie.lean); close each card by the builder's one call (the guide's Derived/Test/ToyasCard.lean, 'card_holds'). Laid BY PROGRAM, IN A SANDBOX (cutbox-door.mjs). By AI agents, Wed Nov 11 2026. No macro, syntax, notation, axiom, sorry.
-/
import Derived.Test.YtegnaedkalobgaaGreatDoorRows
import GoSem.ClaimSeven
namespace Go.Proofs.YtegnaedkalobgaaGreatDoor
namespace Rows

/-- THE TIED CARD OF 'laws.FnBlank'. -/
def fnBlankCard : Claim7 := { stood := { row := fnBlankRow, standIns := [], harness := (true, "758f7828a34c17e22b456e3e4a0b5e160982a299b840c098a7a9fb5fc21ce9fb"), looks := true }, kinds := [], alts := [], laidByText := true, laidKinds := [.data, .data, .data, .data, .sentinel, .sentinel, .data, .pinned], laidTests := true, laidLooks := .later }
def FnBlankCardSaid : Prop := Claim7.holds Tryz.pinned (.plain (OpenSpec.ofChange fnBlankSpec)) fnBlankCard

/-- THE TIED CARD OF 'laws.FnBreak'. -/
def fnBreakCard : Claim7 := { stood := { row := fnBreakRow, standIns := [], harness := (true, "758f7828a34c17e22b456e3e4a0b5e160982a299b840c098a7a9fb5fc21ce9fb"), looks := true }, kinds := [], alts := [], laidByText := true, laidKinds := [.data, .data, .data, .data, .sentinel, .sentinel, .data, .pinned], laidTests := true, laidLooks := .later }
def FnBreakCardSaid : Prop := Claim7.holds Tryz.pinned (.plain (OpenSpec.ofChange fnBreakSpec)) fnBreakCard

/-- THE SECOND FORM's CARD OF 'laws.FnBlank'. -/
def fnBlankUptoCard : Claim7 := { stood := { row := fnBlankUptoRow, standIns := [], harness := (true, "758f7828a34c17e22b456e3e4a0b5e160982a299b840c098a7a9fb5fc21ce9fb"), looks := true }, kinds := [], alts := [], laidByText := true, laidKinds := [.data, .data, .data, .data, .sentinel, .sentinel, .data, .pinned], laidTests := true, laidLooks := .later }
def FnBlankUptoCardSaid : Prop := Claim7.holds Tryz.pinned (.plain (OpenSpec.upto fnBlankSpec)) fnBlankUptoCard

/-- THE SECOND FORM's CARD OF 'laws.FnBreak'. -/
def fnBreakUptoCard : Claim7 := { stood := { row := fnBreakUptoRow, standIns := [], harness := (true, "758f7828a34c17e22b456e3e4a0b5e160982a299b840c098a7a9fb5fc21ce9fb"), looks := true }, kinds := [], alts := [], laidByText := true, laidKinds := [.data, .data, .data, .data, .sentinel, .sentinel, .data, .pinned], laidTests := true, laidLooks := .later }
def FnBreakUptoCardSaid : Prop := Claim7.holds Tryz.pinned (.plain (OpenSpec.upto fnBreakSpec)) fnBreakUptoCard
end Rows
end Go.Proofs.YtegnaedkalobgaaGreatDoor
