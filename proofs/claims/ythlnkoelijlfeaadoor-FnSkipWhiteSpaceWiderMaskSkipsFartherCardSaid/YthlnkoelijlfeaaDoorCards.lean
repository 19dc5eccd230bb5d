/-
  DERIVED. GIVEN WITH THE SEED: THE CARDS: each row of YthlnkoelijlfeaaDoorRows.lean that lists a variable, with what it lists TIED to the program's text (the seventh form; the later family's looks); each row that meets fmt, with fmt's text TOLD by the authors' own Lean function (tested against real Go, not proved from fmt's source: count such statements apart). THE CARD IS WHAT COUNTS. Prove the row's statement (the work); the ties are given (YthlnkoelijlfeaaDoorTie.lean); close each card by the builder's one call (the guide's Derived/Test/ToyasCard.lean, 'card_holds'). Laid BY PROGRAM, IN A SANDBOX (cutbox-door.mjs). By AI agents, Wed Nov 11 2026. No macro, syntax, notation, axiom, sorry.
-/
import Derived.Test.YthlnkoelijlfeaaDoorRows
import GoSem.ClaimSeven
namespace Go.Proofs.YthlnkoelijlfeaaDoor
namespace Rows

/-- THE TIED CARD OF 'n005_39.FnSkipWhiteSpaceFirstOutsideMask'. -/
def fnSkipWhiteSpaceFirstOutsideMaskCard : Claim7 := { stood := { row := fnSkipWhiteSpaceFirstOutsideMaskRow, standIns := [], harness := (true, "dc48a5eaf9d075244fefecf02a9dbea310f6e1f3ecb7fe2b141318c0c456c721"), looks := true }, kinds := [], alts := [], laidByText := true, laidKinds := [.sentinel, .sentinel, .sentinel, .sentinel], laidTests := true, laidLooks := .later }
def FnSkipWhiteSpaceFirstOutsideMaskCardSaid : Prop := Claim7.holds Tryd.pinned (.plain (OpenSpec.ofChange fnSkipWhiteSpaceFirstOutsideMaskSpec)) fnSkipWhiteSpaceFirstOutsideMaskCard

/-- THE TIED CARD OF 'n005_39.FnNextStreamMatchesModel'. -/
def fnNextStreamMatchesModelCard : Claim7 := { stood := { row := fnNextStreamMatchesModelRow, standIns := [], harness := (true, "dc48a5eaf9d075244fefecf02a9dbea310f6e1f3ecb7fe2b141318c0c456c721"), looks := true }, kinds := [], alts := [], laidByText := true, laidKinds := [.sentinel, .sentinel, .sentinel, .sentinel], laidTests := true, laidLooks := .later }
def FnNextStreamMatchesModelCardSaid : Prop := Claim7.holds Tryd.pinned (.plain (OpenSpec.ofChange fnNextStreamMatchesModelSpec)) fnNextStreamMatchesModelCard

/-- THE TIED CARD OF 'n005_39.FnPeekDoesNotDisturbStream'. -/
def fnPeekDoesNotDisturbStreamCard : Claim7 := { stood := { row := fnPeekDoesNotDisturbStreamRow, standIns := [], harness := (true, "dc48a5eaf9d075244fefecf02a9dbea310f6e1f3ecb7fe2b141318c0c456c721"), looks := true }, kinds := [], alts := [], laidByText := true, laidKinds := [.sentinel, .sentinel, .sentinel, .sentinel], laidTests := true, laidLooks := .later }
def FnPeekDoesNotDisturbStreamCardSaid : Prop := Claim7.holds Tryd.pinned (.plain (OpenSpec.ofChange fnPeekDoesNotDisturbStreamSpec)) fnPeekDoesNotDisturbStreamCard

/-- THE TIED CARD OF 'n005_39.FnSkipWhiteSpaceWiderMaskSkipsFarther'. -/
def fnSkipWhiteSpaceWiderMaskSkipsFartherCard : Claim7 := { stood := { row := fnSkipWhiteSpaceWiderMaskSkipsFartherRow, standIns := [], harness := (true, "dc48a5eaf9d075244fefecf02a9dbea310f6e1f3ecb7fe2b141318c0c456c721"), looks := true }, kinds := [], alts := [], laidByText := true, laidKinds := [.sentinel, .sentinel, .sentinel, .sentinel], laidTests := true, laidLooks := .later }
def FnSkipWhiteSpaceWiderMaskSkipsFartherCardSaid : Prop := Claim7.holds Tryd.pinned (.plain (OpenSpec.ofChange fnSkipWhiteSpaceWiderMaskSkipsFartherSpec)) fnSkipWhiteSpaceWiderMaskSkipsFartherCard

/-- THE TIED CARD OF 'n005_39.FnPeekShowsNextRawByte'. -/
def fnPeekShowsNextRawByteCard : Claim7 := { stood := { row := fnPeekShowsNextRawByteRow, standIns := [], harness := (true, "dc48a5eaf9d075244fefecf02a9dbea310f6e1f3ecb7fe2b141318c0c456c721"), looks := true }, kinds := [], alts := [], laidByText := true, laidKinds := [.sentinel, .sentinel, .sentinel, .sentinel], laidTests := true, laidLooks := .later }
def FnPeekShowsNextRawByteCardSaid : Prop := Claim7.holds Tryd.pinned (.plain (OpenSpec.ofChange fnPeekShowsNextRawByteSpec)) fnPeekShowsNextRawByteCard

/-- THE TIED CARD OF 'n005_39.FnNewlineAgreesWithNext'. -/
def fnNewlineAgreesWithNextCard : Claim7 := { stood := { row := fnNewlineAgreesWithNextRow, standIns := [], harness := (true, "dc48a5eaf9d075244fefecf02a9dbea310f6e1f3ecb7fe2b141318c0c456c721"), looks := true }, kinds := [], alts := [], laidByText := true, laidKinds := [.sentinel, .sentinel, .sentinel, .sentinel], laidTests := true, laidLooks := .later }
def FnNewlineAgreesWithNextCardSaid : Prop := Claim7.holds Tryd.pinned (.plain (OpenSpec.ofChange fnNewlineAgreesWithNextSpec)) fnNewlineAgreesWithNextCard

/-- THE TIED CARD OF 'n005_39.FnNextEOFAbsorbsAndNeverYieldsCR'. -/
def fnNextEOFAbsorbsAndNeverYieldsCRCard : Claim7 := { stood := { row := fnNextEOFAbsorbsAndNeverYieldsCRRow, standIns := [], harness := (true, "dc48a5eaf9d075244fefecf02a9dbea310f6e1f3ecb7fe2b141318c0c456c721"), looks := true }, kinds := [], alts := [], laidByText := true, laidKinds := [.sentinel, .sentinel, .sentinel, .sentinel], laidTests := true, laidLooks := .later }
def FnNextEOFAbsorbsAndNeverYieldsCRCardSaid : Prop := Claim7.holds Tryd.pinned (.plain (OpenSpec.ofChange fnNextEOFAbsorbsAndNeverYieldsCRSpec)) fnNextEOFAbsorbsAndNeverYieldsCRCard

/-- THE TIED CARD OF 'n005_39.FnNewlineCaseTable'. -/
def fnNewlineCaseTableCard : Claim7 := { stood := { row := fnNewlineCaseTableRow, standIns := [], harness := (true, "dc48a5eaf9d075244fefecf02a9dbea310f6e1f3ecb7fe2b141318c0c456c721"), looks := true }, kinds := [], alts := [], laidByText := true, laidKinds := [.sentinel, .sentinel, .sentinel, .sentinel], laidTests := true, laidLooks := .later }
def FnNewlineCaseTableCardSaid : Prop := Claim7.holds Tryd.pinned (.plain (OpenSpec.ofChange fnNewlineCaseTableSpec)) fnNewlineCaseTableCard

/-- THE SECOND FORM's CARD OF 'n005_39.FnSkipWhiteSpaceFirstOutsideMask'. -/
def fnSkipWhiteSpaceFirstOutsideMaskUptoCard : Claim7 := { stood := { row := fnSkipWhiteSpaceFirstOutsideMaskUptoRow, standIns := [], harness := (true, "dc48a5eaf9d075244fefecf02a9dbea310f6e1f3ecb7fe2b141318c0c456c721"), looks := true }, kinds := [], alts := [], laidByText := true, laidKinds := [.sentinel, .sentinel, .sentinel, .sentinel], laidTests := true, laidLooks := .later }
def FnSkipWhiteSpaceFirstOutsideMaskUptoCardSaid : Prop := Claim7.holds Tryd.pinned (.plain (OpenSpec.upto fnSkipWhiteSpaceFirstOutsideMaskSpec)) fnSkipWhiteSpaceFirstOutsideMaskUptoCard

/-- THE SECOND FORM's CARD OF 'n005_39.FnNextStreamMatchesModel'. -/
def fnNextStreamMatchesModelUptoCard : Claim7 := { stood := { row := fnNextStreamMatchesModelUptoRow, standIns := [], harness := (true, "dc48a5eaf9d075244fefecf02a9dbea310f6e1f3ecb7fe2b141318c0c456c721"), looks := true }, kinds := [], alts := [], laidByText := true, laidKinds := [.sentinel, .sentinel, .sentinel, .sentinel], laidTests := true, laidLooks := .later }
def FnNextStreamMatchesModelUptoCardSaid : Prop := Claim7.holds Tryd.pinned (.plain (OpenSpec.upto fnNextStreamMatchesModelSpec)) fnNextStreamMatchesModelUptoCard

/-- THE SECOND FORM's CARD OF 'n005_39.FnPeekDoesNotDisturbStream'. -/
def fnPeekDoesNotDisturbStreamUptoCard : Claim7 := { stood := { row := fnPeekDoesNotDisturbStreamUptoRow, standIns := [], harness := (true, "dc48a5eaf9d075244fefecf02a9dbea310f6e1f3ecb7fe2b141318c0c456c721"), looks := true }, kinds := [], alts := [], laidByText := true, laidKinds := [.sentinel, .sentinel, .sentinel, .sentinel], laidTests := true, laidLooks := .later }
def FnPeekDoesNotDisturbStreamUptoCardSaid : Prop := Claim7.holds Tryd.pinned (.plain (OpenSpec.upto fnPeekDoesNotDisturbStreamSpec)) fnPeekDoesNotDisturbStreamUptoCard

/-- THE SECOND FORM's CARD OF 'n005_39.FnSkipWhiteSpaceWiderMaskSkipsFarther'. -/
def fnSkipWhiteSpaceWiderMaskSkipsFartherUptoCard : Claim7 := { stood := { row := fnSkipWhiteSpaceWiderMaskSkipsFartherUptoRow, standIns := [], harness := (true, "dc48a5eaf9d075244fefecf02a9dbea310f6e1f3ecb7fe2b141318c0c456c721"), looks := true }, kinds := [], alts := [], laidByText := true, laidKinds := [.sentinel, .sentinel, .sentinel, .sentinel], laidTests := true, laidLooks := .later }
def FnSkipWhiteSpaceWiderMaskSkipsFartherUptoCardSaid : Prop := Claim7.holds Tryd.pinned (.plain (OpenSpec.upto fnSkipWhiteSpaceWiderMaskSkipsFartherSpec)) fnSkipWhiteSpaceWiderMaskSkipsFartherUptoCard

/-- THE SECOND FORM's CARD OF 'n005_39.FnPeekShowsNextRawByte'. -/
def fnPeekShowsNextRawByteUptoCard : Claim7 := { stood := { row := fnPeekShowsNextRawByteUptoRow, standIns := [], harness := (true, "dc48a5eaf9d075244fefecf02a9dbea310f6e1f3ecb7fe2b141318c0c456c721"), looks := true }, kinds := [], alts := [], laidByText := true, laidKinds := [.sentinel, .sentinel, .sentinel, .sentinel], laidTests := true, laidLooks := .later }
def FnPeekShowsNextRawByteUptoCardSaid : Prop := Claim7.holds Tryd.pinned (.plain (OpenSpec.upto fnPeekShowsNextRawByteSpec)) fnPeekShowsNextRawByteUptoCard

/-- THE SECOND FORM's CARD OF 'n005_39.FnNewlineAgreesWithNext'. -/
def fnNewlineAgreesWithNextUptoCard : Claim7 := { stood := { row := fnNewlineAgreesWithNextUptoRow, standIns := [], harness := (true, "dc48a5eaf9d075244fefecf02a9dbea310f6e1f3ecb7fe2b141318c0c456c721"), looks := true }, kinds := [], alts := [], laidByText := true, laidKinds := [.sentinel, .sentinel, .sentinel, .sentinel], laidTests := true, laidLooks := .later }
def FnNewlineAgreesWithNextUptoCardSaid : Prop := Claim7.holds Tryd.pinned (.plain (OpenSpec.upto fnNewlineAgreesWithNextSpec)) fnNewlineAgreesWithNextUptoCard

/-- THE SECOND FORM's CARD OF 'n005_39.FnNextEOFAbsorbsAndNeverYieldsCR'. -/
def fnNextEOFAbsorbsAndNeverYieldsCRUptoCard : Claim7 := { stood := { row := fnNextEOFAbsorbsAndNeverYieldsCRUptoRow, standIns := [], harness := (true, "dc48a5eaf9d075244fefecf02a9dbea310f6e1f3ecb7fe2b141318c0c456c721"), looks := true }, kinds := [], alts := [], laidByText := true, laidKinds := [.sentinel, .sentinel, .sentinel, .sentinel], laidTests := true, laidLooks := .later }
def FnNextEOFAbsorbsAndNeverYieldsCRUptoCardSaid : Prop := Claim7.holds Tryd.pinned (.plain (OpenSpec.upto fnNextEOFAbsorbsAndNeverYieldsCRSpec)) fnNextEOFAbsorbsAndNeverYieldsCRUptoCard

/-- THE SECOND FORM's CARD OF 'n005_39.FnNewlineCaseTable'. -/
def fnNewlineCaseTableUptoCard : Claim7 := { stood := { row := fnNewlineCaseTableUptoRow, standIns := [], harness := (true, "dc48a5eaf9d075244fefecf02a9dbea310f6e1f3ecb7fe2b141318c0c456c721"), looks := true }, kinds := [], alts := [], laidByText := true, laidKinds := [.sentinel, .sentinel, .sentinel, .sentinel], laidTests := true, laidLooks := .later }
def FnNewlineCaseTableUptoCardSaid : Prop := Claim7.holds Tryd.pinned (.plain (OpenSpec.upto fnNewlineCaseTableSpec)) fnNewlineCaseTableUptoCard
end Rows
end Go.Proofs.YthlnkoelijlfeaaDoor
