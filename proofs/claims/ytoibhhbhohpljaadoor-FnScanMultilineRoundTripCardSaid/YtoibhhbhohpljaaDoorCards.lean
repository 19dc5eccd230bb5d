/-
  DERIVED. GIVEN WITH THE SEED: THE CARDS: each row of YtoibhhbhohpljaaDoorRows.lean that lists a variable, with what it lists TIED to the program's text (the seventh form; the later family's looks); each row that meets fmt, with fmt's text TOLD by the authors' own Lean function (tested against real Go, not proved from fmt's source: count such statements apart). THE CARD IS WHAT COUNTS. Prove the row's statement (the work); the ties are given (YtoibhhbhohpljaaDoorTie.lean); close each card by the builder's one call (the guide's Derived/Test/ToyasCard.lean, 'card_holds'). Laid BY PROGRAM, IN A SANDBOX (cutbox-door.mjs). By AI agents, Wed Nov 11 2026. No macro, syntax, notation, axiom, sorry.
-/
import Derived.Test.YtoibhhbhohpljaaDoorRows
import GoSem.ClaimSeven
namespace Go.Proofs.YtoibhhbhohpljaaDoor
namespace Rows

/-- THE TIED CARD OF 'n005_131.FnCountSepPositionAdvancesByCount'. -/
def fnCountSepPositionAdvancesByCountCard : Claim7 := { stood := { row := fnCountSepPositionAdvancesByCountRow, standIns := [], harness := (true, "bb3f8b3d2f4412c2ebe84ad9092729bc8e7ed714d149b2c5ba22f1bac07a3662"), looks := true }, kinds := [], alts := [], laidByText := true, laidKinds := [.sentinel, .sentinel, .sentinel, .sentinel], laidTests := true, laidLooks := .later }
def FnCountSepPositionAdvancesByCountCardSaid : Prop := Claim7.holds Tryd.pinned (.plain (OpenSpec.ofChange fnCountSepPositionAdvancesByCountSpec)) fnCountSepPositionAdvancesByCountCard

/-- THE TIED CARD OF 'n005_131.FnScanEscapeWritesOneByteEatsAtMostThreeDigits'. -/
def fnScanEscapeWritesOneByteEatsAtMostThreeDigitsCard : Claim7 := { stood := { row := fnScanEscapeWritesOneByteEatsAtMostThreeDigitsRow, standIns := [], harness := (true, "bb3f8b3d2f4412c2ebe84ad9092729bc8e7ed714d149b2c5ba22f1bac07a3662"), looks := true }, kinds := [], alts := [], laidByText := true, laidKinds := [.data, .data, .data, .sentinel, .sentinel, .sentinel, .sentinel, .sentinel, .sentinel, .sentinel], laidTests := true, laidLooks := .later }
def FnScanEscapeWritesOneByteEatsAtMostThreeDigitsCardSaid : Prop := Claim7.holds Tryd.pinned (.plain (OpenSpec.ofChange fnScanEscapeWritesOneByteEatsAtMostThreeDigitsSpec)) fnScanEscapeWritesOneByteEatsAtMostThreeDigitsCard

/-- THE TIED CARD OF 'n005_131.FnScanStringInvertsEscapedEncoding'. -/
def fnScanStringInvertsEscapedEncodingCard : Claim7 := { stood := { row := fnScanStringInvertsEscapedEncodingRow, standIns := [], harness := (true, "bb3f8b3d2f4412c2ebe84ad9092729bc8e7ed714d149b2c5ba22f1bac07a3662"), looks := true }, kinds := [], alts := [], laidByText := true, laidKinds := [.data, .data, .data, .sentinel, .sentinel, .sentinel, .sentinel, .sentinel, .sentinel, .sentinel], laidTests := true, laidLooks := .later }
def FnScanStringInvertsEscapedEncodingCardSaid : Prop := Claim7.holds Tryd.pinned (.plain (OpenSpec.ofChange fnScanStringInvertsEscapedEncodingSpec)) fnScanStringInvertsEscapedEncodingCard

/-- THE TIED CARD OF 'n005_131.FnScanMultilineMatchesLeftmostClose'. -/
def fnScanMultilineMatchesLeftmostCloseCard : Claim7 := { stood := { row := fnScanMultilineMatchesLeftmostCloseRow, standIns := [], harness := (true, "bb3f8b3d2f4412c2ebe84ad9092729bc8e7ed714d149b2c5ba22f1bac07a3662"), looks := true }, kinds := [], alts := [], laidByText := true, laidKinds := [.sentinel, .sentinel, .sentinel, .sentinel, .sentinel], laidTests := true, laidLooks := .later }
def FnScanMultilineMatchesLeftmostCloseCardSaid : Prop := Claim7.holds Tryd.pinned (.plain (OpenSpec.ofChange fnScanMultilineMatchesLeftmostCloseSpec)) fnScanMultilineMatchesLeftmostCloseCard

/-- THE TIED CARD OF 'n005_131.FnScanMultilineRoundTrip'. -/
def fnScanMultilineRoundTripCard : Claim7 := { stood := { row := fnScanMultilineRoundTripRow, standIns := [], harness := (true, "bb3f8b3d2f4412c2ebe84ad9092729bc8e7ed714d149b2c5ba22f1bac07a3662"), looks := true }, kinds := [], alts := [], laidByText := true, laidKinds := [.sentinel, .sentinel, .sentinel, .sentinel, .sentinel], laidTests := true, laidLooks := .later }
def FnScanMultilineRoundTripCardSaid : Prop := Claim7.holds Tryd.pinned (.plain (OpenSpec.ofChange fnScanMultilineRoundTripSpec)) fnScanMultilineRoundTripCard

/-- THE SECOND FORM's CARD OF 'n005_131.FnCountSepPositionAdvancesByCount'. -/
def fnCountSepPositionAdvancesByCountUptoCard : Claim7 := { stood := { row := fnCountSepPositionAdvancesByCountUptoRow, standIns := [], harness := (true, "bb3f8b3d2f4412c2ebe84ad9092729bc8e7ed714d149b2c5ba22f1bac07a3662"), looks := true }, kinds := [], alts := [], laidByText := true, laidKinds := [.sentinel, .sentinel, .sentinel, .sentinel], laidTests := true, laidLooks := .later }
def FnCountSepPositionAdvancesByCountUptoCardSaid : Prop := Claim7.holds Tryd.pinned (.plain (OpenSpec.upto fnCountSepPositionAdvancesByCountSpec)) fnCountSepPositionAdvancesByCountUptoCard

/-- THE SECOND FORM's CARD OF 'n005_131.FnScanEscapeWritesOneByteEatsAtMostThreeDigits'. -/
def fnScanEscapeWritesOneByteEatsAtMostThreeDigitsUptoCard : Claim7 := { stood := { row := fnScanEscapeWritesOneByteEatsAtMostThreeDigitsUptoRow, standIns := [], harness := (true, "bb3f8b3d2f4412c2ebe84ad9092729bc8e7ed714d149b2c5ba22f1bac07a3662"), looks := true }, kinds := [], alts := [], laidByText := true, laidKinds := [.data, .data, .data, .sentinel, .sentinel, .sentinel, .sentinel, .sentinel, .sentinel, .sentinel], laidTests := true, laidLooks := .later }
def FnScanEscapeWritesOneByteEatsAtMostThreeDigitsUptoCardSaid : Prop := Claim7.holds Tryd.pinned (.plain (OpenSpec.upto fnScanEscapeWritesOneByteEatsAtMostThreeDigitsSpec)) fnScanEscapeWritesOneByteEatsAtMostThreeDigitsUptoCard

/-- THE SECOND FORM's CARD OF 'n005_131.FnScanStringInvertsEscapedEncoding'. -/
def fnScanStringInvertsEscapedEncodingUptoCard : Claim7 := { stood := { row := fnScanStringInvertsEscapedEncodingUptoRow, standIns := [], harness := (true, "bb3f8b3d2f4412c2ebe84ad9092729bc8e7ed714d149b2c5ba22f1bac07a3662"), looks := true }, kinds := [], alts := [], laidByText := true, laidKinds := [.data, .data, .data, .sentinel, .sentinel, .sentinel, .sentinel, .sentinel, .sentinel, .sentinel], laidTests := true, laidLooks := .later }
def FnScanStringInvertsEscapedEncodingUptoCardSaid : Prop := Claim7.holds Tryd.pinned (.plain (OpenSpec.upto fnScanStringInvertsEscapedEncodingSpec)) fnScanStringInvertsEscapedEncodingUptoCard

/-- THE SECOND FORM's CARD OF 'n005_131.FnScanMultilineMatchesLeftmostClose'. -/
def fnScanMultilineMatchesLeftmostCloseUptoCard : Claim7 := { stood := { row := fnScanMultilineMatchesLeftmostCloseUptoRow, standIns := [], harness := (true, "bb3f8b3d2f4412c2ebe84ad9092729bc8e7ed714d149b2c5ba22f1bac07a3662"), looks := true }, kinds := [], alts := [], laidByText := true, laidKinds := [.sentinel, .sentinel, .sentinel, .sentinel, .sentinel], laidTests := true, laidLooks := .later }
def FnScanMultilineMatchesLeftmostCloseUptoCardSaid : Prop := Claim7.holds Tryd.pinned (.plain (OpenSpec.upto fnScanMultilineMatchesLeftmostCloseSpec)) fnScanMultilineMatchesLeftmostCloseUptoCard

/-- THE SECOND FORM's CARD OF 'n005_131.FnScanMultilineRoundTrip'. -/
def fnScanMultilineRoundTripUptoCard : Claim7 := { stood := { row := fnScanMultilineRoundTripUptoRow, standIns := [], harness := (true, "bb3f8b3d2f4412c2ebe84ad9092729bc8e7ed714d149b2c5ba22f1bac07a3662"), looks := true }, kinds := [], alts := [], laidByText := true, laidKinds := [.sentinel, .sentinel, .sentinel, .sentinel, .sentinel], laidTests := true, laidLooks := .later }
def FnScanMultilineRoundTripUptoCardSaid : Prop := Claim7.holds Tryd.pinned (.plain (OpenSpec.upto fnScanMultilineRoundTripSpec)) fnScanMultilineRoundTripUptoCard
end Rows
end Go.Proofs.YtoibhhbhohpljaaDoor
