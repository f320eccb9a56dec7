/-
  DERIVED. GIVEN WITH THE SEED: THE CARDS: each row of YtcmpcjffmccllaaGreatDoorRows.lean that lists a variable, with what it lists TIED to the program's text (the seventh form; the later family's looks); each row that meets fmt, with fmt's text TOLD by the authors' own Lean function (tested against real Go, not proved from fmt's source: count such statements apart). THE CARD IS WHAT COUNTS. Prove the row's statement (the work); the ties are given (YtcmpcjffmccllaaGreatDoorTie.lean); close each card by the builder's one call (the guide's Derived/Test/ToyasCard.lean, 'card_holds'). Laid BY PROGRAM, IN A SANDBOX (cutbox-door.mjs). By AI agents, Wed Nov 11 2026. No macro, syntax, notation, axiom, sorry.
-/
import Derived.Test.YtcmpcjffmccllaaGreatDoorRows
import GoSem.ClaimSeven
namespace Go.Proofs.YtcmpcjffmccllaaGreatDoor
namespace Rows

/-- THE TIED CARD OF 'laws.FnCodePoint'. -/
def fnCodePointCard : Claim7 := { stood := { row := fnCodePointRow, standIns := [], harness := (true, "ae18eea359163607b8b5cfa3dac1861430afca6a70a2a78bbdc4c1a5546dcf7b"), looks := true }, kinds := [], alts := [], laidByText := true, laidKinds := [.data, .data, .data, .data, .sentinel, .sentinel, .data, .pinned], laidTests := true, laidLooks := .later }
def FnCodePointCardSaid : Prop := Claim7.holds Tryz.pinned (.plain (OpenSpec.ofChange fnCodePointSpec)) fnCodePointCard

/-- THE TIED CARD OF 'laws.FnCodeSpan'. -/
def fnCodeSpanCard : Claim7 := { stood := { row := fnCodeSpanRow, standIns := [], harness := (true, "ae18eea359163607b8b5cfa3dac1861430afca6a70a2a78bbdc4c1a5546dcf7b"), looks := true }, kinds := [], alts := [], laidByText := true, laidKinds := [.data, .data, .data, .data, .sentinel, .sentinel, .data, .pinned], laidTests := true, laidLooks := .later }
def FnCodeSpanCardSaid : Prop := Claim7.holds Tryz.pinned (.plain (OpenSpec.ofChange fnCodeSpanSpec)) fnCodeSpanCard

/-- THE TIED CARD OF 'laws.FnSmartDash'. -/
def fnSmartDashCard : Claim7 := { stood := { row := fnSmartDashRow, standIns := [], harness := (true, "ae18eea359163607b8b5cfa3dac1861430afca6a70a2a78bbdc4c1a5546dcf7b"), looks := true }, kinds := [], alts := [], laidByText := true, laidKinds := [.data, .data, .data, .data, .sentinel, .sentinel, .data, .pinned], laidTests := true, laidLooks := .later }
def FnSmartDashCardSaid : Prop := Claim7.holds Tryz.pinned (.plain (OpenSpec.ofChange fnSmartDashSpec)) fnSmartDashCard

/-- THE TIED CARD OF 'laws.FnKept'. -/
def fnKeptCard : Claim7 := { stood := { row := fnKeptRow, standIns := [], harness := (true, "ae18eea359163607b8b5cfa3dac1861430afca6a70a2a78bbdc4c1a5546dcf7b"), looks := true }, kinds := [], alts := [], laidByText := true, laidKinds := [.data, .data, .data, .data, .sentinel, .sentinel, .data, .pinned], laidTests := true, laidLooks := .later }
def FnKeptCardSaid : Prop := Claim7.holds Tryz.pinned (.plain (OpenSpec.ofChange fnKeptSpec)) fnKeptCard

/-- THE TIED CARD OF 'laws.FnInterrupts'. -/
def fnInterruptsCard : Claim7 := { stood := { row := fnInterruptsRow, standIns := [], harness := (true, "ae18eea359163607b8b5cfa3dac1861430afca6a70a2a78bbdc4c1a5546dcf7b"), looks := true }, kinds := [], alts := [], laidByText := true, laidKinds := [.data, .data, .data, .data, .sentinel, .sentinel, .data, .pinned], laidTests := true, laidLooks := .later }
def FnInterruptsCardSaid : Prop := Claim7.holds Tryz.pinned (.plain (OpenSpec.ofChange fnInterruptsSpec)) fnInterruptsCard

/-- THE TIED CARD OF 'laws.FnAuto'. -/
def fnAutoCard : Claim7 := { stood := { row := fnAutoRow, standIns := [], harness := (true, "ae18eea359163607b8b5cfa3dac1861430afca6a70a2a78bbdc4c1a5546dcf7b"), looks := true }, kinds := [], alts := [], laidByText := true, laidKinds := [.data, .data, .data, .data, .sentinel, .sentinel, .data, .pinned], laidTests := true, laidLooks := .later }
def FnAutoCardSaid : Prop := Claim7.holds Tryz.pinned (.plain (OpenSpec.ofChange fnAutoSpec)) fnAutoCard

/-- THE TIED CARD OF 'laws.FnMail'. -/
def fnMailCard : Claim7 := { stood := { row := fnMailRow, standIns := [], harness := (true, "ae18eea359163607b8b5cfa3dac1861430afca6a70a2a78bbdc4c1a5546dcf7b"), looks := true }, kinds := [], alts := [], laidByText := true, laidKinds := [.data, .data, .data, .data, .sentinel, .sentinel, .data, .pinned], laidTests := true, laidLooks := .later }
def FnMailCardSaid : Prop := Claim7.holds Tryz.pinned (.plain (OpenSpec.ofChange fnMailSpec)) fnMailCard

/-- THE SECOND FORM's CARD OF 'laws.FnCodePoint'. -/
def fnCodePointUptoCard : Claim7 := { stood := { row := fnCodePointUptoRow, standIns := [], harness := (true, "ae18eea359163607b8b5cfa3dac1861430afca6a70a2a78bbdc4c1a5546dcf7b"), looks := true }, kinds := [], alts := [], laidByText := true, laidKinds := [.data, .data, .data, .data, .sentinel, .sentinel, .data, .pinned], laidTests := true, laidLooks := .later }
def FnCodePointUptoCardSaid : Prop := Claim7.holds Tryz.pinned (.plain (OpenSpec.upto fnCodePointSpec)) fnCodePointUptoCard

/-- THE SECOND FORM's CARD OF 'laws.FnCodeSpan'. -/
def fnCodeSpanUptoCard : Claim7 := { stood := { row := fnCodeSpanUptoRow, standIns := [], harness := (true, "ae18eea359163607b8b5cfa3dac1861430afca6a70a2a78bbdc4c1a5546dcf7b"), looks := true }, kinds := [], alts := [], laidByText := true, laidKinds := [.data, .data, .data, .data, .sentinel, .sentinel, .data, .pinned], laidTests := true, laidLooks := .later }
def FnCodeSpanUptoCardSaid : Prop := Claim7.holds Tryz.pinned (.plain (OpenSpec.upto fnCodeSpanSpec)) fnCodeSpanUptoCard

/-- THE SECOND FORM's CARD OF 'laws.FnSmartDash'. -/
def fnSmartDashUptoCard : Claim7 := { stood := { row := fnSmartDashUptoRow, standIns := [], harness := (true, "ae18eea359163607b8b5cfa3dac1861430afca6a70a2a78bbdc4c1a5546dcf7b"), looks := true }, kinds := [], alts := [], laidByText := true, laidKinds := [.data, .data, .data, .data, .sentinel, .sentinel, .data, .pinned], laidTests := true, laidLooks := .later }
def FnSmartDashUptoCardSaid : Prop := Claim7.holds Tryz.pinned (.plain (OpenSpec.upto fnSmartDashSpec)) fnSmartDashUptoCard

/-- THE SECOND FORM's CARD OF 'laws.FnKept'. -/
def fnKeptUptoCard : Claim7 := { stood := { row := fnKeptUptoRow, standIns := [], harness := (true, "ae18eea359163607b8b5cfa3dac1861430afca6a70a2a78bbdc4c1a5546dcf7b"), looks := true }, kinds := [], alts := [], laidByText := true, laidKinds := [.data, .data, .data, .data, .sentinel, .sentinel, .data, .pinned], laidTests := true, laidLooks := .later }
def FnKeptUptoCardSaid : Prop := Claim7.holds Tryz.pinned (.plain (OpenSpec.upto fnKeptSpec)) fnKeptUptoCard

/-- THE SECOND FORM's CARD OF 'laws.FnInterrupts'. -/
def fnInterruptsUptoCard : Claim7 := { stood := { row := fnInterruptsUptoRow, standIns := [], harness := (true, "ae18eea359163607b8b5cfa3dac1861430afca6a70a2a78bbdc4c1a5546dcf7b"), looks := true }, kinds := [], alts := [], laidByText := true, laidKinds := [.data, .data, .data, .data, .sentinel, .sentinel, .data, .pinned], laidTests := true, laidLooks := .later }
def FnInterruptsUptoCardSaid : Prop := Claim7.holds Tryz.pinned (.plain (OpenSpec.upto fnInterruptsSpec)) fnInterruptsUptoCard

/-- THE SECOND FORM's CARD OF 'laws.FnAuto'. -/
def fnAutoUptoCard : Claim7 := { stood := { row := fnAutoUptoRow, standIns := [], harness := (true, "ae18eea359163607b8b5cfa3dac1861430afca6a70a2a78bbdc4c1a5546dcf7b"), looks := true }, kinds := [], alts := [], laidByText := true, laidKinds := [.data, .data, .data, .data, .sentinel, .sentinel, .data, .pinned], laidTests := true, laidLooks := .later }
def FnAutoUptoCardSaid : Prop := Claim7.holds Tryz.pinned (.plain (OpenSpec.upto fnAutoSpec)) fnAutoUptoCard

/-- THE SECOND FORM's CARD OF 'laws.FnMail'. -/
def fnMailUptoCard : Claim7 := { stood := { row := fnMailUptoRow, standIns := [], harness := (true, "ae18eea359163607b8b5cfa3dac1861430afca6a70a2a78bbdc4c1a5546dcf7b"), looks := true }, kinds := [], alts := [], laidByText := true, laidKinds := [.data, .data, .data, .data, .sentinel, .sentinel, .data, .pinned], laidTests := true, laidLooks := .later }
def FnMailUptoCardSaid : Prop := Claim7.holds Tryz.pinned (.plain (OpenSpec.upto fnMailSpec)) fnMailUptoCard
end Rows
end Go.Proofs.YtcmpcjffmccllaaGreatDoor
