/-
  DERIVED. GIVEN WITH THE SEED: THE CARDS: each row of YtnmpeipccpgkpaaDoorRows.lean that lists a variable, with what it lists TIED to the program's text (the seventh form; the later family's looks); each row that meets fmt, with fmt's text TOLD by the authors' own Lean function (tested against real Go, not proved from fmt's source: count such statements apart). THE CARD IS WHAT COUNTS. Prove the row's statement (the work); the ties are given (YtnmpeipccpgkpaaDoorTie.lean); close each card by the builder's one call (the guide's Derived/Test/ToyasCard.lean, 'card_holds'). Laid BY PROGRAM, IN A SANDBOX (cutbox-door.mjs). By AI agents, Wed Nov 11 2026. No macro, syntax, notation, axiom, sorry.
-/
import Derived.Test.YtnmpeipccpgkpaaDoorRows
import GoSem.ClaimSeven
namespace Go.Proofs.YtnmpeipccpgkpaaDoor
namespace Rows

/-- THE TIED CARD OF 'n005_77.FnScanPositionsAdvanceToEnd'. -/
def fnScanPositionsAdvanceToEndCard : Claim7 := { stood := { row := fnScanPositionsAdvanceToEndRow, standIns := [], harness := (true, "0363a8ff5fe007758f80125bd249c8ccbae2106ae20ee969b4b33e734c2ca95d"), looks := true }, kinds := [], alts := [], laidByText := true, laidKinds := [.data, .data, .data, .sentinel, .sentinel, .sentinel, .sentinel, .sentinel, .sentinel, .sentinel, .data], laidTests := true, laidLooks := .later }
def FnScanPositionsAdvanceToEndCardSaid : Prop := Claim7.holds Tryd.pinned (.plain (OpenSpec.ofChange fnScanPositionsAdvanceToEndSpec)) fnScanPositionsAdvanceToEndCard

/-- THE SECOND FORM's CARD OF 'n005_77.FnScanPositionsAdvanceToEnd'. -/
def fnScanPositionsAdvanceToEndUptoCard : Claim7 := { stood := { row := fnScanPositionsAdvanceToEndUptoRow, standIns := [], harness := (true, "0363a8ff5fe007758f80125bd249c8ccbae2106ae20ee969b4b33e734c2ca95d"), looks := true }, kinds := [], alts := [], laidByText := true, laidKinds := [.data, .data, .data, .sentinel, .sentinel, .sentinel, .sentinel, .sentinel, .sentinel, .sentinel, .data], laidTests := true, laidLooks := .later }
def FnScanPositionsAdvanceToEndUptoCardSaid : Prop := Claim7.holds Tryd.pinned (.plain (OpenSpec.upto fnScanPositionsAdvanceToEndSpec)) fnScanPositionsAdvanceToEndUptoCard
end Rows
end Go.Proofs.YtnmpeipccpgkpaaDoor
