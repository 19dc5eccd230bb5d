/-
  NARROWER THAN 'FOR EVERY INPUT', by the rows' own cells (each row's printed sentence says how): FnWriteCharAppendsLowByte: laid · FnWriteCharScriptSpellsBytes: laid.
  DERIVED. THE GIVEN ROWS OF THIS SEAT. 2 by the template 'for every input the law returns true; each argument reads behind the call as it read before'; 0 by the template 'total and deterministic' (their statements: YtgldbnpphmddhaaDoorTotals.lean).
  GIVEN WITH THE SEED: the statements are not yours to turn. If you find one false, say at which input.
  Laid BY PROGRAM, IN A SANDBOX (cutbox-rows.mjs): the forced cells as the released guide's own fill.sh prints them over the translation cd0a0778e6eea04f… (all of the seat's roots in one cut). By AI agents, Wed Nov 11 2026. No macro, syntax, notation, axiom, sorry.
-/
import Derived.Test.YtgldbnpphmddhaaDoorChecked
import GoSem.Claim
import GoSem.ClaimJoined
import GoSem.ClaimMapViews
import Derived.JoinedTies
import Derived.KernelRfl
namespace Go.Proofs.YtgldbnpphmddhaaDoor
/- THE CELL 'sum', in the pinned program and in every row, IS THE sha256 OF THE DUMP (.gsa) THAT YtgldbnpphmddhaaDoorProg.lean LOADS. Nothing in Lean hashes anything: it is a label: what it is worth is what the hold of that sum in a sandbox is worth. -/
noncomputable def Tryd.pinned : Pinned := { name := "ytgldbnpphmddhaadoor", sum := "cd0a0778e6eea04f148752e10cd05824f3d2de4fc4c24a16bac04680552cd5b3", checked := Tryd.checked }
namespace Rows
def none {H : Type} : Left H := { results := [], args := [] }

/- WHAT THE LISTED PACKAGE-LEVEL VARIABLES READ AS WHEN THE CALL BEGINS. Each datum BY PROGRAM (the guide's laid-datum.mjs) off the statement by which the dump's own 'gosem.cut.vars' lays the variable. In a bare row this is a premise. The card (YtgldbnpphmddhaaDoorCards.lean) ties it to the program's text. -/
def laid_bytes_ErrTooLarge {H : Type} : DataW H := .iface "*errors.errorString" (.ptr (.agg [.lit (.string [98, 121, 116, 101, 115, 46, 66, 117, 102, 102, 101, 114, 58, 32, 116, 111, 111, 32, 108, 97, 114, 103, 101])]))

/-- 'n005_145.FnWriteCharAppendsLowByte': WHATEVER THE INPUT: true; the input reads as it did. -/
def fnWriteCharAppendsLowByteSpec : ChangeSpec := { name := "fnWriteCharAppendsLowByte", fn := fun _ => fun
  | [d1, d2] => { results := [.lit (.bool true)], args := [d1, d2] }
  | _ => none }
def fnWriteCharAppendsLowByteRow : OpenClaim := { program := "ytgldbnpphmddhaadoor", sum := "cd0a0778e6eea04f148752e10cd05824f3d2de4fc4c24a16bac04680552cd5b3", func := "github.com/yuin/gopher-lua/n005_145.FnWriteCharAppendsLowByte", spec := "fnWriteCharAppendsLowByte", named := ["bytes.ErrTooLarge"], apart := false, laid := [("bytes.ErrTooLarge", laid_bytes_ErrTooLarge)] }
def FnWriteCharAppendsLowByteSaid : Prop := fnWriteCharAppendsLowByteRow.holds Tryd.pinned (OpenSpec.ofChange fnWriteCharAppendsLowByteSpec)

/-- ITS FALSE NEIGHBOUR: 'it returns false'. Refute it at one input. -/
def fnWriteCharAppendsLowByteWrong : ChangeSpec := { name := "fnWriteCharAppendsLowByte", fn := fun _ => fun
  | [d1, d2] => { results := [.lit (.bool false)], args := [d1, d2] }
  | _ => none }
def FnWriteCharAppendsLowByteWrongFalsely : Prop := fnWriteCharAppendsLowByteRow.holds Tryd.pinned (OpenSpec.ofChange fnWriteCharAppendsLowByteWrong)

/-- 'n005_145.FnWriteCharScriptSpellsBytes': WHATEVER THE INPUT: true; the input reads as it did. -/
def fnWriteCharScriptSpellsBytesSpec : ChangeSpec := { name := "fnWriteCharScriptSpellsBytes", fn := fun _ => fun
  | [d] => { results := [.lit (.bool true)], args := [d] }
  | _ => none }
def fnWriteCharScriptSpellsBytesRow : OpenClaim := { program := "ytgldbnpphmddhaadoor", sum := "cd0a0778e6eea04f148752e10cd05824f3d2de4fc4c24a16bac04680552cd5b3", func := "github.com/yuin/gopher-lua/n005_145.FnWriteCharScriptSpellsBytes", spec := "fnWriteCharScriptSpellsBytes", named := ["bytes.ErrTooLarge"], apart := false, laid := [("bytes.ErrTooLarge", laid_bytes_ErrTooLarge)] }
def FnWriteCharScriptSpellsBytesSaid : Prop := fnWriteCharScriptSpellsBytesRow.holds Tryd.pinned (OpenSpec.ofChange fnWriteCharScriptSpellsBytesSpec)

/-- ITS FALSE NEIGHBOUR: 'it returns false'. Refute it at one input. -/
def fnWriteCharScriptSpellsBytesWrong : ChangeSpec := { name := "fnWriteCharScriptSpellsBytes", fn := fun _ => fun
  | [d] => { results := [.lit (.bool false)], args := [d] }
  | _ => none }
def FnWriteCharScriptSpellsBytesWrongFalsely : Prop := fnWriteCharScriptSpellsBytesRow.holds Tryd.pinned (OpenSpec.ofChange fnWriteCharScriptSpellsBytesWrong)

/- THE SECOND FORM. 'bulk': how many values and letters a reading holds, each counted each time it is reached (what is shared counts as often as it is met; a slice's spare places count too). A statement '..UptoSaid' is the law's where the arguments, and the package variables that the reading takes, are together of bulk at most 1048576: NARROWER than '..Said'. Prove '..Said' where nothing that the law and all that it calls make is longer than what came in: it says more and counts as full. Else prove '..UptoSaid'. A law counts once. -/
mutual
def uptoBulk {H : Type} : DataW H → Nat
  | .lit (.string bytes) => bytes.length + 1
  | .lit _ => 1
  | .nil => 1
  | .ptr d => uptoBulk d + 1
  | .slice elems spare => uptoBulkAll elems + uptoBulkAll spare + 1
  | .agg parts => uptoBulkAll parts + 1
  | .iface _ d => uptoBulk d + 1
  | .map entries => uptoBulkEntries entries + 1
  | .held _ => 1
def uptoBulkAll {H : Type} : List (DataW H) → Nat
  | [] => 0
  | d :: r => uptoBulk d + uptoBulkAll r
def uptoBulkEntries {H : Type} : List (Lit × DataW H) → Nat
  | [] => 0
  | x :: r => uptoBulkEntry x + uptoBulkEntries r
def uptoBulkEntry {H : Type} : Lit × DataW H → Nat
  | (.string bytes, d) => bytes.length + uptoBulk d + 1
  | (_, d) => uptoBulk d + 1
 end
def uptoSmall : (H : Type) → List (DataW H) → Bool := fun _ ds => decide (uptoBulkAll ds ≤ 1048576)
def OpenSpec.upto (s : _root_.Go.ChangeSpec) : _root_.Go.OpenSpec := { _root_.Go.OpenSpec.ofChange s with cond := some uptoSmall }

/-- 'n005_145.FnWriteCharAppendsLowByte', WHERE WHAT IT READS IS OF BULK AT MOST 1048576: true; the input reads as it did. -/
def fnWriteCharAppendsLowByteUptoRow : OpenClaim := { program := "ytgldbnpphmddhaadoor", sum := "cd0a0778e6eea04f148752e10cd05824f3d2de4fc4c24a16bac04680552cd5b3", func := "github.com/yuin/gopher-lua/n005_145.FnWriteCharAppendsLowByte", spec := "fnWriteCharAppendsLowByte", named := ["bytes.ErrTooLarge"], apart := false, laid := [("bytes.ErrTooLarge", laid_bytes_ErrTooLarge)], narrowed := true }
def FnWriteCharAppendsLowByteUptoSaid : Prop := fnWriteCharAppendsLowByteUptoRow.holds Tryd.pinned (OpenSpec.upto fnWriteCharAppendsLowByteSpec)

/-- 'n005_145.FnWriteCharScriptSpellsBytes', WHERE WHAT IT READS IS OF BULK AT MOST 1048576: true; the input reads as it did. -/
def fnWriteCharScriptSpellsBytesUptoRow : OpenClaim := { program := "ytgldbnpphmddhaadoor", sum := "cd0a0778e6eea04f148752e10cd05824f3d2de4fc4c24a16bac04680552cd5b3", func := "github.com/yuin/gopher-lua/n005_145.FnWriteCharScriptSpellsBytes", spec := "fnWriteCharScriptSpellsBytes", named := ["bytes.ErrTooLarge"], apart := false, laid := [("bytes.ErrTooLarge", laid_bytes_ErrTooLarge)], narrowed := true }
def FnWriteCharScriptSpellsBytesUptoSaid : Prop := fnWriteCharScriptSpellsBytesUptoRow.holds Tryd.pinned (OpenSpec.upto fnWriteCharScriptSpellsBytesSpec)

end Rows
end Go.Proofs.YtgldbnpphmddhaaDoor
