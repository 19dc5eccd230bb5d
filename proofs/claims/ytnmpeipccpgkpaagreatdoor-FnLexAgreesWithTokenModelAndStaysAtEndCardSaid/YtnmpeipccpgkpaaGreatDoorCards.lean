/-
  DERIVED. GIVEN WITH THE SEED: THE CARDS: each row of YtnmpeipccpgkpaaGreatDoorRows.lean that lists a variable, with what it lists TIED to the program's text (the seventh form; the later family's looks); each row that meets fmt, with fmt's text TOLD by the authors' own Lean function (tested against real Go, not proved from fmt's source: count such statements apart). THE CARD IS WHAT COUNTS. Prove the row's statement (the work); the ties are given (YtnmpeipccpgkpaaGreatDoorTie.lean); close each card by the builder's one call (the guide's Derived/Test/ToyasCard.lean, 'card_holds'). Laid BY PROGRAM, IN A SANDBOX (cutbox-door.mjs). By AI agents, Wed Nov 11 2026. No macro, syntax, notation, axiom, sorry.
-/
import Derived.Test.YtnmpeipccpgkpaaGreatDoorRows
import GoSem.ClaimSeven
namespace Go.Proofs.YtnmpeipccpgkpaaGreatDoor
namespace Rows

/-- THE TIED CARD OF 'n005_77.FnLexMarksCallAcrossLineBreak'. -/
def fnLexMarksCallAcrossLineBreakCard : Claim7 := { stood := { row := fnLexMarksCallAcrossLineBreakRow, standIns := [], harness := (true, "6f4ef6a4d74782d6e691677deed77d40940ba5351eb98cf51039b5dbf7f0847c"), looks := true }, kinds := [], alts := [], laidByText := true, laidKinds := [.data, .data, .data, .sentinel, .sentinel, .sentinel, .sentinel, .sentinel, .sentinel, .sentinel, .data], laidTests := true, laidLooks := .later }
def FnLexMarksCallAcrossLineBreakCardSaid : Prop := Claim7.holds Tryz.pinned (.plain (OpenSpec.ofChange fnLexMarksCallAcrossLineBreakSpec)) fnLexMarksCallAcrossLineBreakCard

/-- THE TIED CARD OF 'n005_77.FnLexAgreesWithTokenModelAndStaysAtEnd'. -/
def fnLexAgreesWithTokenModelAndStaysAtEndCard : Claim7 := { stood := { row := fnLexAgreesWithTokenModelAndStaysAtEndRow, standIns := [], harness := (true, "6f4ef6a4d74782d6e691677deed77d40940ba5351eb98cf51039b5dbf7f0847c"), looks := true }, kinds := [], alts := [], laidByText := true, laidKinds := [.data, .data, .data, .sentinel, .sentinel, .sentinel, .sentinel, .sentinel, .sentinel, .sentinel, .data], laidTests := true, laidLooks := .later }
def FnLexAgreesWithTokenModelAndStaysAtEndCardSaid : Prop := Claim7.holds Tryz.pinned (.plain (OpenSpec.ofChange fnLexAgreesWithTokenModelAndStaysAtEndSpec)) fnLexAgreesWithTokenModelAndStaysAtEndCard

/-- THE SECOND FORM's CARD OF 'n005_77.FnLexMarksCallAcrossLineBreak'. -/
def fnLexMarksCallAcrossLineBreakUptoCard : Claim7 := { stood := { row := fnLexMarksCallAcrossLineBreakUptoRow, standIns := [], harness := (true, "6f4ef6a4d74782d6e691677deed77d40940ba5351eb98cf51039b5dbf7f0847c"), looks := true }, kinds := [], alts := [], laidByText := true, laidKinds := [.data, .data, .data, .sentinel, .sentinel, .sentinel, .sentinel, .sentinel, .sentinel, .sentinel, .data], laidTests := true, laidLooks := .later }
def FnLexMarksCallAcrossLineBreakUptoCardSaid : Prop := Claim7.holds Tryz.pinned (.plain (OpenSpec.upto fnLexMarksCallAcrossLineBreakSpec)) fnLexMarksCallAcrossLineBreakUptoCard

/-- THE SECOND FORM's CARD OF 'n005_77.FnLexAgreesWithTokenModelAndStaysAtEnd'. -/
def fnLexAgreesWithTokenModelAndStaysAtEndUptoCard : Claim7 := { stood := { row := fnLexAgreesWithTokenModelAndStaysAtEndUptoRow, standIns := [], harness := (true, "6f4ef6a4d74782d6e691677deed77d40940ba5351eb98cf51039b5dbf7f0847c"), looks := true }, kinds := [], alts := [], laidByText := true, laidKinds := [.data, .data, .data, .sentinel, .sentinel, .sentinel, .sentinel, .sentinel, .sentinel, .sentinel, .data], laidTests := true, laidLooks := .later }
def FnLexAgreesWithTokenModelAndStaysAtEndUptoCardSaid : Prop := Claim7.holds Tryz.pinned (.plain (OpenSpec.upto fnLexAgreesWithTokenModelAndStaysAtEndSpec)) fnLexAgreesWithTokenModelAndStaysAtEndUptoCard
end Rows
end Go.Proofs.YtnmpeipccpgkpaaGreatDoor
