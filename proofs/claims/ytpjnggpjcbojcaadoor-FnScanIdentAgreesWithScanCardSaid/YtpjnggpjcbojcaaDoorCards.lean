/-
  DERIVED. GIVEN WITH THE SEED: THE CARDS: each row of YtpjnggpjcbojcaaDoorRows.lean that lists a variable, with what it lists TIED to the program's text (the seventh form; the later family's looks); each row that meets fmt, with fmt's text TOLD by the authors' own Lean function (tested against real Go, not proved from fmt's source: count such statements apart). THE CARD IS WHAT COUNTS. Prove the row's statement (the work); the ties are given (YtpjnggpjcbojcaaDoorTie.lean); close each card by the builder's one call (the guide's Derived/Test/ToyasCard.lean, 'card_holds'). Laid BY PROGRAM, IN A SANDBOX (cutbox-door.mjs). By AI agents, Wed Nov 11 2026. No macro, syntax, notation, axiom, sorry.
-/
import Derived.Test.YtpjnggpjcbojcaaDoorRows
import GoSem.ClaimSeven
namespace Go.Proofs.YtpjnggpjcbojcaaDoor
namespace Rows

/-- THE TIED CARD OF 'n005_160.FnSkipCommentsLongEnclosed'. -/
def fnSkipCommentsLongEnclosedCard : Claim7 := { stood := { row := fnSkipCommentsLongEnclosedRow, standIns := [], harness := (true, "2f3fc52630b4a72c6d9a0fa6f69ee0283d351390958457b8036fa6e22d804ecd"), looks := true }, kinds := [], alts := [], laidByText := true, laidKinds := [.sentinel, .sentinel, .sentinel, .sentinel, .sentinel], laidTests := true, laidLooks := .later }
def FnSkipCommentsLongEnclosedCardSaid : Prop := Claim7.holds Tryd.pinned (.plain (OpenSpec.ofChange fnSkipCommentsLongEnclosedSpec)) fnSkipCommentsLongEnclosedCard

/-- THE TIED CARD OF 'n005_160.FnScanNumberRescanFixpoint'. -/
def fnScanNumberRescanFixpointCard : Claim7 := { stood := { row := fnScanNumberRescanFixpointRow, standIns := [], harness := (true, "2f3fc52630b4a72c6d9a0fa6f69ee0283d351390958457b8036fa6e22d804ecd"), looks := true }, kinds := [], alts := [], laidByText := true, laidKinds := [.sentinel, .sentinel, .sentinel, .sentinel, .sentinel], laidTests := true, laidLooks := .later }
def FnScanNumberRescanFixpointCardSaid : Prop := Claim7.holds Tryd.pinned (.plain (OpenSpec.ofChange fnScanNumberRescanFixpointSpec)) fnScanNumberRescanFixpointCard

/-- THE TIED CARD OF 'n005_160.FnScanIdentAgreesWithScan'. -/
def fnScanIdentAgreesWithScanCard : Claim7 := { stood := { row := fnScanIdentAgreesWithScanRow, standIns := [], harness := (true, "2f3fc52630b4a72c6d9a0fa6f69ee0283d351390958457b8036fa6e22d804ecd"), looks := true }, kinds := [], alts := [], laidByText := true, laidKinds := [.data, .data, .data, .sentinel, .sentinel, .sentinel, .sentinel, .sentinel, .sentinel, .sentinel, .data], laidTests := true, laidLooks := .later }
def FnScanIdentAgreesWithScanCardSaid : Prop := Claim7.holds Tryd.pinned (.plain (OpenSpec.ofChange fnScanIdentAgreesWithScanSpec)) fnScanIdentAgreesWithScanCard

/-- THE TIED CARD OF 'n005_160.FnScanDecimalPrefixOfIdent'. -/
def fnScanDecimalPrefixOfIdentCard : Claim7 := { stood := { row := fnScanDecimalPrefixOfIdentRow, standIns := [], harness := (true, "2f3fc52630b4a72c6d9a0fa6f69ee0283d351390958457b8036fa6e22d804ecd"), looks := true }, kinds := [], alts := [], laidByText := true, laidKinds := [.sentinel, .sentinel, .sentinel, .sentinel, .sentinel], laidTests := true, laidLooks := .later }
def FnScanDecimalPrefixOfIdentCardSaid : Prop := Claim7.holds Tryd.pinned (.plain (OpenSpec.ofChange fnScanDecimalPrefixOfIdentSpec)) fnScanDecimalPrefixOfIdentCard

/-- THE SECOND FORM's CARD OF 'n005_160.FnSkipCommentsLongEnclosed'. -/
def fnSkipCommentsLongEnclosedUptoCard : Claim7 := { stood := { row := fnSkipCommentsLongEnclosedUptoRow, standIns := [], harness := (true, "2f3fc52630b4a72c6d9a0fa6f69ee0283d351390958457b8036fa6e22d804ecd"), looks := true }, kinds := [], alts := [], laidByText := true, laidKinds := [.sentinel, .sentinel, .sentinel, .sentinel, .sentinel], laidTests := true, laidLooks := .later }
def FnSkipCommentsLongEnclosedUptoCardSaid : Prop := Claim7.holds Tryd.pinned (.plain (OpenSpec.upto fnSkipCommentsLongEnclosedSpec)) fnSkipCommentsLongEnclosedUptoCard

/-- THE SECOND FORM's CARD OF 'n005_160.FnScanNumberRescanFixpoint'. -/
def fnScanNumberRescanFixpointUptoCard : Claim7 := { stood := { row := fnScanNumberRescanFixpointUptoRow, standIns := [], harness := (true, "2f3fc52630b4a72c6d9a0fa6f69ee0283d351390958457b8036fa6e22d804ecd"), looks := true }, kinds := [], alts := [], laidByText := true, laidKinds := [.sentinel, .sentinel, .sentinel, .sentinel, .sentinel], laidTests := true, laidLooks := .later }
def FnScanNumberRescanFixpointUptoCardSaid : Prop := Claim7.holds Tryd.pinned (.plain (OpenSpec.upto fnScanNumberRescanFixpointSpec)) fnScanNumberRescanFixpointUptoCard

/-- THE SECOND FORM's CARD OF 'n005_160.FnScanIdentAgreesWithScan'. -/
def fnScanIdentAgreesWithScanUptoCard : Claim7 := { stood := { row := fnScanIdentAgreesWithScanUptoRow, standIns := [], harness := (true, "2f3fc52630b4a72c6d9a0fa6f69ee0283d351390958457b8036fa6e22d804ecd"), looks := true }, kinds := [], alts := [], laidByText := true, laidKinds := [.data, .data, .data, .sentinel, .sentinel, .sentinel, .sentinel, .sentinel, .sentinel, .sentinel, .data], laidTests := true, laidLooks := .later }
def FnScanIdentAgreesWithScanUptoCardSaid : Prop := Claim7.holds Tryd.pinned (.plain (OpenSpec.upto fnScanIdentAgreesWithScanSpec)) fnScanIdentAgreesWithScanUptoCard

/-- THE SECOND FORM's CARD OF 'n005_160.FnScanDecimalPrefixOfIdent'. -/
def fnScanDecimalPrefixOfIdentUptoCard : Claim7 := { stood := { row := fnScanDecimalPrefixOfIdentUptoRow, standIns := [], harness := (true, "2f3fc52630b4a72c6d9a0fa6f69ee0283d351390958457b8036fa6e22d804ecd"), looks := true }, kinds := [], alts := [], laidByText := true, laidKinds := [.sentinel, .sentinel, .sentinel, .sentinel, .sentinel], laidTests := true, laidLooks := .later }
def FnScanDecimalPrefixOfIdentUptoCardSaid : Prop := Claim7.holds Tryd.pinned (.plain (OpenSpec.upto fnScanDecimalPrefixOfIdentSpec)) fnScanDecimalPrefixOfIdentUptoCard
end Rows
end Go.Proofs.YtpjnggpjcbojcaaDoor
