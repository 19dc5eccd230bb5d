/-
  DERIVED. GIVEN WITH THE SEED: THE CARDS: each row of YtgldbnpphmddhaaDoorRows.lean that lists a variable, with what it lists TIED to the program's text (the seventh form; the later family's looks); each row that meets fmt, with fmt's text TOLD by the authors' own Lean function (tested against real Go, not proved from fmt's source: count such statements apart). THE CARD IS WHAT COUNTS. Prove the row's statement (the work); the ties are given (YtgldbnpphmddhaaDoorTie.lean); close each card by the builder's one call (the guide's Derived/Test/ToyasCard.lean, 'card_holds'). Laid BY PROGRAM, IN A SANDBOX (cutbox-door.mjs). By AI agents, Wed Nov 11 2026. No macro, syntax, notation, axiom, sorry.
-/
import Derived.Test.YtgldbnpphmddhaaDoorRows
import GoSem.ClaimSeven
namespace Go.Proofs.YtgldbnpphmddhaaDoor
namespace Rows

/-- THE TIED CARD OF 'n005_145.FnWriteCharAppendsLowByte'. -/
def fnWriteCharAppendsLowByteCard : Claim7 := { stood := { row := fnWriteCharAppendsLowByteRow, standIns := [], harness := (true, "9a894c9bf8c39d818e7bda409067dc4fe1180276a3b0aaddc5b9f58d10827b9c"), looks := false }, kinds := [], alts := [], laidByText := true, laidKinds := [.sentinel], laidTests := true, laidLooks := .later }
def FnWriteCharAppendsLowByteCardSaid : Prop := Claim7.holds Tryd.pinned (.plain (OpenSpec.ofChange fnWriteCharAppendsLowByteSpec)) fnWriteCharAppendsLowByteCard

/-- THE TIED CARD OF 'n005_145.FnWriteCharScriptSpellsBytes'. -/
def fnWriteCharScriptSpellsBytesCard : Claim7 := { stood := { row := fnWriteCharScriptSpellsBytesRow, standIns := [], harness := (true, "9a894c9bf8c39d818e7bda409067dc4fe1180276a3b0aaddc5b9f58d10827b9c"), looks := false }, kinds := [], alts := [], laidByText := true, laidKinds := [.sentinel], laidTests := true, laidLooks := .later }
def FnWriteCharScriptSpellsBytesCardSaid : Prop := Claim7.holds Tryd.pinned (.plain (OpenSpec.ofChange fnWriteCharScriptSpellsBytesSpec)) fnWriteCharScriptSpellsBytesCard

/-- THE SECOND FORM's CARD OF 'n005_145.FnWriteCharAppendsLowByte'. -/
def fnWriteCharAppendsLowByteUptoCard : Claim7 := { stood := { row := fnWriteCharAppendsLowByteUptoRow, standIns := [], harness := (true, "9a894c9bf8c39d818e7bda409067dc4fe1180276a3b0aaddc5b9f58d10827b9c"), looks := false }, kinds := [], alts := [], laidByText := true, laidKinds := [.sentinel], laidTests := true, laidLooks := .later }
def FnWriteCharAppendsLowByteUptoCardSaid : Prop := Claim7.holds Tryd.pinned (.plain (OpenSpec.upto fnWriteCharAppendsLowByteSpec)) fnWriteCharAppendsLowByteUptoCard

/-- THE SECOND FORM's CARD OF 'n005_145.FnWriteCharScriptSpellsBytes'. -/
def fnWriteCharScriptSpellsBytesUptoCard : Claim7 := { stood := { row := fnWriteCharScriptSpellsBytesUptoRow, standIns := [], harness := (true, "9a894c9bf8c39d818e7bda409067dc4fe1180276a3b0aaddc5b9f58d10827b9c"), looks := false }, kinds := [], alts := [], laidByText := true, laidKinds := [.sentinel], laidTests := true, laidLooks := .later }
def FnWriteCharScriptSpellsBytesUptoCardSaid : Prop := Claim7.holds Tryd.pinned (.plain (OpenSpec.upto fnWriteCharScriptSpellsBytesSpec)) fnWriteCharScriptSpellsBytesUptoCard
end Rows
end Go.Proofs.YtgldbnpphmddhaaDoor
