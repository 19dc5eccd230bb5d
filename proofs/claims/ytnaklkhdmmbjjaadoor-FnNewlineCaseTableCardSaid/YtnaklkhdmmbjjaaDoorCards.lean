/-
  DERIVED. GIVEN WITH THE SEED: THE CARDS: each row of YtnaklkhdmmbjjaaDoorRows.lean that lists a variable, with what it lists TIED to the program's text (the seventh form; the later family's looks); each row that meets fmt, with fmt's text TOLD by the authors' own Lean function (tested against real Go, not proved from fmt's source: count such statements apart). THE CARD IS WHAT COUNTS. Prove the row's statement (the work); the ties are given (YtnaklkhdmmbjjaaDoorTie.lean); close each card by the builder's one call (the guide's Derived/Test/ToyasCard.lean, 'card_holds'). Laid BY PROGRAM, IN A SANDBOX (cutbox-door.mjs). By AI agents, Wed Nov 11 2026. No macro, syntax, notation, axiom, sorry.
-/
import Derived.Test.YtnaklkhdmmbjjaaDoorRows
import GoSem.ClaimSeven
namespace Go.Proofs.YtnaklkhdmmbjjaaDoor
namespace Rows

/-- THE TIED CARD OF 'n005_39.FnNewlineCaseTable'. -/
def fnNewlineCaseTableCard : Claim7 := { stood := { row := fnNewlineCaseTableRow, standIns := [], harness := (true, "5eddaf6f036f9ae7c7f7df207602ddb0dd04903b8f5525741ebf3c0d42fde639"), looks := true }, kinds := [], alts := [], laidByText := true, laidKinds := [.sentinel, .sentinel, .sentinel, .sentinel], laidTests := true, laidLooks := .later }
def FnNewlineCaseTableCardSaid : Prop := Claim7.holds Tryd.pinned (.plain (OpenSpec.ofChange fnNewlineCaseTableSpec)) fnNewlineCaseTableCard

/-- THE SECOND FORM's CARD OF 'n005_39.FnNewlineCaseTable'. -/
def fnNewlineCaseTableUptoCard : Claim7 := { stood := { row := fnNewlineCaseTableUptoRow, standIns := [], harness := (true, "5eddaf6f036f9ae7c7f7df207602ddb0dd04903b8f5525741ebf3c0d42fde639"), looks := true }, kinds := [], alts := [], laidByText := true, laidKinds := [.sentinel, .sentinel, .sentinel, .sentinel], laidTests := true, laidLooks := .later }
def FnNewlineCaseTableUptoCardSaid : Prop := Claim7.holds Tryd.pinned (.plain (OpenSpec.upto fnNewlineCaseTableSpec)) fnNewlineCaseTableUptoCard
end Rows
end Go.Proofs.YtnaklkhdmmbjjaaDoor
