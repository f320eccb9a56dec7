/-
  DERIVED. GIVEN WITH THE SEED: THE CARDS: each row of YtigcmibkgcmfcaaGreatDoorRows.lean that lists a variable, with what it lists TIED to the program's text (the seventh form; the later family's looks); each row that meets fmt, with fmt's text TOLD by the authors' own Lean function (tested against real Go, not proved from fmt's source: count such statements apart). THE CARD IS WHAT COUNTS. Prove the row's statement (the work); the ties are given (YtigcmibkgcmfcaaGreatDoorTie.lean); close each card by the builder's one call (the guide's Derived/Test/ToyasCard.lean, 'card_holds'). Laid BY PROGRAM, IN A SANDBOX (cutbox-door.mjs). By AI agents, Wed Nov 11 2026. No macro, syntax, notation, axiom, sorry.
-/
import Derived.Test.YtigcmibkgcmfcaaGreatDoorRows
import GoSem.ClaimSeven
namespace Go.Proofs.YtigcmibkgcmfcaaGreatDoor
namespace Rows

/-- THE TIED CARD OF 'laws.FnBreak'. -/
def fnBreakCard : Claim7 := { stood := { row := fnBreakRow, standIns := [], harness := (true, "1570aed2e019e86144c73db912f68457925f9c72de751aa25716700b47f7b1d7"), looks := true }, kinds := [], alts := [], laidByText := true, laidKinds := [.data, .data, .data, .data, .sentinel, .sentinel, .data, .pinned], laidTests := true, laidLooks := .later }
def FnBreakCardSaid : Prop := Claim7.holds Tryz.pinned (.plain (OpenSpec.ofChange fnBreakSpec)) fnBreakCard

/-- THE TIED CARD OF 'laws.FnIndented'. -/
def fnIndentedCard : Claim7 := { stood := { row := fnIndentedRow, standIns := [], harness := (true, "1570aed2e019e86144c73db912f68457925f9c72de751aa25716700b47f7b1d7"), looks := true }, kinds := [], alts := [], laidByText := true, laidKinds := [.data, .data, .data, .data, .sentinel, .sentinel, .data, .pinned], laidTests := true, laidLooks := .later }
def FnIndentedCardSaid : Prop := Claim7.holds Tryz.pinned (.plain (OpenSpec.ofChange fnIndentedSpec)) fnIndentedCard

/-- THE TIED CARD OF 'laws.FnFenceLonger'. -/
def fnFenceLongerCard : Claim7 := { stood := { row := fnFenceLongerRow, standIns := [], harness := (true, "1570aed2e019e86144c73db912f68457925f9c72de751aa25716700b47f7b1d7"), looks := true }, kinds := [], alts := [], laidByText := true, laidKinds := [.data, .data, .data, .data, .sentinel, .sentinel, .data, .pinned], laidTests := true, laidLooks := .later }
def FnFenceLongerCardSaid : Prop := Claim7.holds Tryz.pinned (.plain (OpenSpec.ofChange fnFenceLongerSpec)) fnFenceLongerCard

/-- THE TIED CARD OF 'laws.FnHeading'. -/
def fnHeadingCard : Claim7 := { stood := { row := fnHeadingRow, standIns := [], harness := (true, "1570aed2e019e86144c73db912f68457925f9c72de751aa25716700b47f7b1d7"), looks := true }, kinds := [], alts := [], laidByText := true, laidKinds := [.data, .data, .data, .data, .sentinel, .sentinel, .data, .pinned], laidTests := true, laidLooks := .later }
def FnHeadingCardSaid : Prop := Claim7.holds Tryz.pinned (.plain (OpenSpec.ofChange fnHeadingSpec)) fnHeadingCard

/-- THE TIED CARD OF 'laws.FnCodePoint'. -/
def fnCodePointCard : Claim7 := { stood := { row := fnCodePointRow, standIns := [], harness := (true, "1570aed2e019e86144c73db912f68457925f9c72de751aa25716700b47f7b1d7"), looks := true }, kinds := [], alts := [], laidByText := true, laidKinds := [.data, .data, .data, .data, .sentinel, .sentinel, .data, .pinned], laidTests := true, laidLooks := .later }
def FnCodePointCardSaid : Prop := Claim7.holds Tryz.pinned (.plain (OpenSpec.ofChange fnCodePointSpec)) fnCodePointCard

/-- THE TIED CARD OF 'laws.FnCodeSpan'. -/
def fnCodeSpanCard : Claim7 := { stood := { row := fnCodeSpanRow, standIns := [], harness := (true, "1570aed2e019e86144c73db912f68457925f9c72de751aa25716700b47f7b1d7"), looks := true }, kinds := [], alts := [], laidByText := true, laidKinds := [.data, .data, .data, .data, .sentinel, .sentinel, .data, .pinned], laidTests := true, laidLooks := .later }
def FnCodeSpanCardSaid : Prop := Claim7.holds Tryz.pinned (.plain (OpenSpec.ofChange fnCodeSpanSpec)) fnCodeSpanCard

/-- THE SECOND FORM's CARD OF 'laws.FnBreak'. -/
def fnBreakUptoCard : Claim7 := { stood := { row := fnBreakUptoRow, standIns := [], harness := (true, "1570aed2e019e86144c73db912f68457925f9c72de751aa25716700b47f7b1d7"), looks := true }, kinds := [], alts := [], laidByText := true, laidKinds := [.data, .data, .data, .data, .sentinel, .sentinel, .data, .pinned], laidTests := true, laidLooks := .later }
def FnBreakUptoCardSaid : Prop := Claim7.holds Tryz.pinned (.plain (OpenSpec.upto fnBreakSpec)) fnBreakUptoCard

/-- THE SECOND FORM's CARD OF 'laws.FnIndented'. -/
def fnIndentedUptoCard : Claim7 := { stood := { row := fnIndentedUptoRow, standIns := [], harness := (true, "1570aed2e019e86144c73db912f68457925f9c72de751aa25716700b47f7b1d7"), looks := true }, kinds := [], alts := [], laidByText := true, laidKinds := [.data, .data, .data, .data, .sentinel, .sentinel, .data, .pinned], laidTests := true, laidLooks := .later }
def FnIndentedUptoCardSaid : Prop := Claim7.holds Tryz.pinned (.plain (OpenSpec.upto fnIndentedSpec)) fnIndentedUptoCard

/-- THE SECOND FORM's CARD OF 'laws.FnFenceLonger'. -/
def fnFenceLongerUptoCard : Claim7 := { stood := { row := fnFenceLongerUptoRow, standIns := [], harness := (true, "1570aed2e019e86144c73db912f68457925f9c72de751aa25716700b47f7b1d7"), looks := true }, kinds := [], alts := [], laidByText := true, laidKinds := [.data, .data, .data, .data, .sentinel, .sentinel, .data, .pinned], laidTests := true, laidLooks := .later }
def FnFenceLongerUptoCardSaid : Prop := Claim7.holds Tryz.pinned (.plain (OpenSpec.upto fnFenceLongerSpec)) fnFenceLongerUptoCard

/-- THE SECOND FORM's CARD OF 'laws.FnHeading'. -/
def fnHeadingUptoCard : Claim7 := { stood := { row := fnHeadingUptoRow, standIns := [], harness := (true, "1570aed2e019e86144c73db912f68457925f9c72de751aa25716700b47f7b1d7"), looks := true }, kinds := [], alts := [], laidByText := true, laidKinds := [.data, .data, .data, .data, .sentinel, .sentinel, .data, .pinned], laidTests := true, laidLooks := .later }
def FnHeadingUptoCardSaid : Prop := Claim7.holds Tryz.pinned (.plain (OpenSpec.upto fnHeadingSpec)) fnHeadingUptoCard

/-- THE SECOND FORM's CARD OF 'laws.FnCodePoint'. -/
def fnCodePointUptoCard : Claim7 := { stood := { row := fnCodePointUptoRow, standIns := [], harness := (true, "1570aed2e019e86144c73db912f68457925f9c72de751aa25716700b47f7b1d7"), looks := true }, kinds := [], alts := [], laidByText := true, laidKinds := [.data, .data, .data, .data, .sentinel, .sentinel, .data, .pinned], laidTests := true, laidLooks := .later }
def FnCodePointUptoCardSaid : Prop := Claim7.holds Tryz.pinned (.plain (OpenSpec.upto fnCodePointSpec)) fnCodePointUptoCard

/-- THE SECOND FORM's CARD OF 'laws.FnCodeSpan'. -/
def fnCodeSpanUptoCard : Claim7 := { stood := { row := fnCodeSpanUptoRow, standIns := [], harness := (true, "1570aed2e019e86144c73db912f68457925f9c72de751aa25716700b47f7b1d7"), looks := true }, kinds := [], alts := [], laidByText := true, laidKinds := [.data, .data, .data, .data, .sentinel, .sentinel, .data, .pinned], laidTests := true, laidLooks := .later }
def FnCodeSpanUptoCardSaid : Prop := Claim7.holds Tryz.pinned (.plain (OpenSpec.upto fnCodeSpanSpec)) fnCodeSpanUptoCard
end Rows
end Go.Proofs.YtigcmibkgcmfcaaGreatDoor
