/-
  DERIVED. GIVEN WITH THE SEED: THE CARDS: each row of YtbolfnpocmbbhaaDoorRows.lean that lists a variable, with what it lists TIED to the program's text (the seventh form; the later family's looks); each row that meets fmt, with fmt's text TOLD by the authors' own Lean function (tested against real Go, not proved from fmt's source: count such statements apart). THE CARD IS WHAT COUNTS. Prove the row's statement (the work); the ties are given (YtbolfnpocmbbhaaDoorTie.lean); close each card by the builder's one call (the guide's Derived/Test/ToyasCard.lean, 'card_holds'). Laid BY PROGRAM, IN A SANDBOX (cutbox-door.mjs). By AI agents, Wed Nov 11 2026. No macro, syntax, notation, axiom, sorry.
-/
import Derived.Test.YtbolfnpocmbbhaaDoorRows
import GoSem.ClaimSeven
namespace Go.Proofs.YtbolfnpocmbbhaaDoor
namespace Rows

/-- THE TIED CARD OF 'n005_118.FnReadNextAgreesWithPeek'. -/
def fnReadNextAgreesWithPeekCard : Claim7 := { stood := { row := fnReadNextAgreesWithPeekRow, standIns := [], harness := (true, "479ab3016c63818b1d2d0274a4ffd77035f155ad4b4ceb148777161e8fa07093"), looks := true }, kinds := [], alts := [], laidByText := true, laidKinds := [.sentinel, .sentinel, .sentinel, .sentinel], laidTests := true, laidLooks := .later }
def FnReadNextAgreesWithPeekCardSaid : Prop := Claim7.holds Tryd.pinned (.plain (OpenSpec.ofChange fnReadNextAgreesWithPeekSpec)) fnReadNextAgreesWithPeekCard

/-- THE TIED CARD OF 'n005_118.FnReadNextYieldsBytesThenEOF'. -/
def fnReadNextYieldsBytesThenEOFCard : Claim7 := { stood := { row := fnReadNextYieldsBytesThenEOFRow, standIns := [], harness := (true, "479ab3016c63818b1d2d0274a4ffd77035f155ad4b4ceb148777161e8fa07093"), looks := true }, kinds := [], alts := [], laidByText := true, laidKinds := [.sentinel, .sentinel, .sentinel], laidTests := true, laidLooks := .later }
def FnReadNextYieldsBytesThenEOFCardSaid : Prop := Claim7.holds Tryd.pinned (.plain (OpenSpec.ofChange fnReadNextYieldsBytesThenEOFSpec)) fnReadNextYieldsBytesThenEOFCard

/-- THE TIED CARD OF 'n005_118.FnNewScannerNextCountsColumns'. -/
def fnNewScannerNextCountsColumnsCard : Claim7 := { stood := { row := fnNewScannerNextCountsColumnsRow, standIns := [], harness := (true, "479ab3016c63818b1d2d0274a4ffd77035f155ad4b4ceb148777161e8fa07093"), looks := true }, kinds := [], alts := [], laidByText := true, laidKinds := [.sentinel, .sentinel, .sentinel, .sentinel], laidTests := true, laidLooks := .later }
def FnNewScannerNextCountsColumnsCardSaid : Prop := Claim7.holds Tryd.pinned (.plain (OpenSpec.ofChange fnNewScannerNextCountsColumnsSpec)) fnNewScannerNextCountsColumnsCard

/-- THE TIED CARD OF 'n005_118.FnErrorSnapshotsPosition'. -/
def fnErrorSnapshotsPositionCard : Claim7 := { stood := { row := fnErrorSnapshotsPositionRow, standIns := [], harness := (true, "479ab3016c63818b1d2d0274a4ffd77035f155ad4b4ceb148777161e8fa07093"), looks := true }, kinds := [], alts := [], laidByText := true, laidKinds := [.sentinel, .sentinel, .sentinel, .sentinel], laidTests := true, laidLooks := .later }
def FnErrorSnapshotsPositionCardSaid : Prop := Claim7.holds Tryd.pinned (.plain (OpenSpec.ofChange fnErrorSnapshotsPositionSpec)) fnErrorSnapshotsPositionCard

/-- THE SECOND FORM's CARD OF 'n005_118.FnReadNextAgreesWithPeek'. -/
def fnReadNextAgreesWithPeekUptoCard : Claim7 := { stood := { row := fnReadNextAgreesWithPeekUptoRow, standIns := [], harness := (true, "479ab3016c63818b1d2d0274a4ffd77035f155ad4b4ceb148777161e8fa07093"), looks := true }, kinds := [], alts := [], laidByText := true, laidKinds := [.sentinel, .sentinel, .sentinel, .sentinel], laidTests := true, laidLooks := .later }
def FnReadNextAgreesWithPeekUptoCardSaid : Prop := Claim7.holds Tryd.pinned (.plain (OpenSpec.upto fnReadNextAgreesWithPeekSpec)) fnReadNextAgreesWithPeekUptoCard

/-- THE SECOND FORM's CARD OF 'n005_118.FnReadNextYieldsBytesThenEOF'. -/
def fnReadNextYieldsBytesThenEOFUptoCard : Claim7 := { stood := { row := fnReadNextYieldsBytesThenEOFUptoRow, standIns := [], harness := (true, "479ab3016c63818b1d2d0274a4ffd77035f155ad4b4ceb148777161e8fa07093"), looks := true }, kinds := [], alts := [], laidByText := true, laidKinds := [.sentinel, .sentinel, .sentinel], laidTests := true, laidLooks := .later }
def FnReadNextYieldsBytesThenEOFUptoCardSaid : Prop := Claim7.holds Tryd.pinned (.plain (OpenSpec.upto fnReadNextYieldsBytesThenEOFSpec)) fnReadNextYieldsBytesThenEOFUptoCard

/-- THE SECOND FORM's CARD OF 'n005_118.FnNewScannerNextCountsColumns'. -/
def fnNewScannerNextCountsColumnsUptoCard : Claim7 := { stood := { row := fnNewScannerNextCountsColumnsUptoRow, standIns := [], harness := (true, "479ab3016c63818b1d2d0274a4ffd77035f155ad4b4ceb148777161e8fa07093"), looks := true }, kinds := [], alts := [], laidByText := true, laidKinds := [.sentinel, .sentinel, .sentinel, .sentinel], laidTests := true, laidLooks := .later }
def FnNewScannerNextCountsColumnsUptoCardSaid : Prop := Claim7.holds Tryd.pinned (.plain (OpenSpec.upto fnNewScannerNextCountsColumnsSpec)) fnNewScannerNextCountsColumnsUptoCard

/-- THE SECOND FORM's CARD OF 'n005_118.FnErrorSnapshotsPosition'. -/
def fnErrorSnapshotsPositionUptoCard : Claim7 := { stood := { row := fnErrorSnapshotsPositionUptoRow, standIns := [], harness := (true, "479ab3016c63818b1d2d0274a4ffd77035f155ad4b4ceb148777161e8fa07093"), looks := true }, kinds := [], alts := [], laidByText := true, laidKinds := [.sentinel, .sentinel, .sentinel, .sentinel], laidTests := true, laidLooks := .later }
def FnErrorSnapshotsPositionUptoCardSaid : Prop := Claim7.holds Tryd.pinned (.plain (OpenSpec.upto fnErrorSnapshotsPositionSpec)) fnErrorSnapshotsPositionUptoCard
end Rows
end Go.Proofs.YtbolfnpocmbbhaaDoor
