/-
  NARROWER THAN 'FOR EVERY INPUT', by the rows' own cells (each row's printed sentence says how): FnReadNextAgreesWithPeek: laid · FnReadNextYieldsBytesThenEOF: laid · FnNewScannerNextCountsColumns: laid · FnErrorSnapshotsPosition: laid.
  DERIVED. THE GIVEN ROWS OF THIS SEAT. 4 by the template 'for every input the law returns true; each argument reads behind the call as it read before'; 0 by the template 'total and deterministic' (their statements: YtbolfnpocmbbhaaDoorTotals.lean).
  GIVEN WITH THE SEED: the statements are not yours to turn. If you find one false, say at which input.
  Laid BY PROGRAM, IN A SANDBOX (cutbox-rows.mjs): the forced cells as the released guide's own fill.sh prints them over the translation 248cb0a2cd78f6c3… (all of the seat's roots in one cut). By AI agents, Wed Nov 11 2026. No macro, syntax, notation, axiom, sorry.
-/
import Derived.Test.YtbolfnpocmbbhaaDoorChecked
import GoSem.Claim
import GoSem.ClaimJoined
import GoSem.ClaimMapViews
import Derived.JoinedTies
import Derived.KernelRfl
namespace Go.Proofs.YtbolfnpocmbbhaaDoor
/- THE CELL 'sum', in the pinned program and in every row, IS THE sha256 OF THE DUMP (.gsa) THAT YtbolfnpocmbbhaaDoorProg.lean LOADS. Nothing in Lean hashes anything: it is a label: what it is worth is what the hold of that sum in a sandbox is worth. -/
noncomputable def Tryd.pinned : Pinned := { name := "ytbolfnpocmbbhaadoor", sum := "248cb0a2cd78f6c3055e310342fa9330136bc54e4c3a944ed5ce2efe52e33f9d", checked := Tryd.checked }
namespace Rows
def none {H : Type} : Left H := { results := [], args := [] }

/- WHAT THE LISTED PACKAGE-LEVEL VARIABLES READ AS WHEN THE CALL BEGINS. Each datum BY PROGRAM (the guide's laid-datum.mjs) off the statement by which the dump's own 'gosem.cut.vars' lays the variable. In a bare row this is a premise. The card (YtbolfnpocmbbhaaDoorCards.lean) ties it to the program's text. -/
def laid_io_EOF {H : Type} : DataW H := .iface "*errors.errorString" (.ptr (.agg [.lit (.string [69, 79, 70])]))
def laid_io_ErrNoProgress {H : Type} : DataW H := .iface "*errors.errorString" (.ptr (.agg [.lit (.string [109, 117, 108, 116, 105, 112, 108, 101, 32, 82, 101, 97, 100, 32, 99, 97, 108, 108, 115, 32, 114, 101, 116, 117, 114, 110, 32, 110, 111, 32, 100, 97, 116, 97, 32, 111, 114, 32, 101, 114, 114, 111, 114])]))
def laid_bufio_ErrInvalidUnreadByte {H : Type} : DataW H := .iface "*errors.errorString" (.ptr (.agg [.lit (.string [98, 117, 102, 105, 111, 58, 32, 105, 110, 118, 97, 108, 105, 100, 32, 117, 115, 101, 32, 111, 102, 32, 85, 110, 114, 101, 97, 100, 66, 121, 116, 101])]))
def laid_bufio_errNegativeRead {H : Type} : DataW H := .iface "*errors.errorString" (.ptr (.agg [.lit (.string [98, 117, 102, 105, 111, 58, 32, 114, 101, 97, 100, 101, 114, 32, 114, 101, 116, 117, 114, 110, 101, 100, 32, 110, 101, 103, 97, 116, 105, 118, 101, 32, 99, 111, 117, 110, 116, 32, 102, 114, 111, 109, 32, 82, 101, 97, 100])]))

/-- 'n005_118.FnReadNextAgreesWithPeek': WHATEVER THE INPUT: true; the input reads as it did. -/
def fnReadNextAgreesWithPeekSpec : ChangeSpec := { name := "fnReadNextAgreesWithPeek", fn := fun _ => fun
  | [d1, d2] => { results := [.lit (.bool true)], args := [d1, d2] }
  | _ => none }
def fnReadNextAgreesWithPeekRow : OpenClaim := { program := "ytbolfnpocmbbhaadoor", sum := "248cb0a2cd78f6c3055e310342fa9330136bc54e4c3a944ed5ce2efe52e33f9d", func := "github.com/yuin/gopher-lua/n005_118.FnReadNextAgreesWithPeek", spec := "fnReadNextAgreesWithPeek", unfollowed := true, recurses := true, named := ["io.EOF", "bufio.errNegativeRead", "io.ErrNoProgress", "bufio.ErrInvalidUnreadByte"], apart := false, laid := [("io.EOF", laid_io_EOF), ("io.ErrNoProgress", laid_io_ErrNoProgress), ("bufio.ErrInvalidUnreadByte", laid_bufio_ErrInvalidUnreadByte), ("bufio.errNegativeRead", laid_bufio_errNegativeRead)] }
def FnReadNextAgreesWithPeekSaid : Prop := fnReadNextAgreesWithPeekRow.holds Tryd.pinned (OpenSpec.ofChange fnReadNextAgreesWithPeekSpec)

/-- ITS FALSE NEIGHBOUR: 'it returns false'. Refute it at one input. -/
def fnReadNextAgreesWithPeekWrong : ChangeSpec := { name := "fnReadNextAgreesWithPeek", fn := fun _ => fun
  | [d1, d2] => { results := [.lit (.bool false)], args := [d1, d2] }
  | _ => none }
def FnReadNextAgreesWithPeekWrongFalsely : Prop := fnReadNextAgreesWithPeekRow.holds Tryd.pinned (OpenSpec.ofChange fnReadNextAgreesWithPeekWrong)

/-- 'n005_118.FnReadNextYieldsBytesThenEOF': WHATEVER THE INPUT: true; the input reads as it did. -/
def fnReadNextYieldsBytesThenEOFSpec : ChangeSpec := { name := "fnReadNextYieldsBytesThenEOF", fn := fun _ => fun
  | [d1, d2] => { results := [.lit (.bool true)], args := [d1, d2] }
  | _ => none }
def fnReadNextYieldsBytesThenEOFRow : OpenClaim := { program := "ytbolfnpocmbbhaadoor", sum := "248cb0a2cd78f6c3055e310342fa9330136bc54e4c3a944ed5ce2efe52e33f9d", func := "github.com/yuin/gopher-lua/n005_118.FnReadNextYieldsBytesThenEOF", spec := "fnReadNextYieldsBytesThenEOF", unfollowed := true, recurses := true, named := ["io.EOF", "bufio.errNegativeRead", "io.ErrNoProgress"], apart := false, laid := [("io.EOF", laid_io_EOF), ("io.ErrNoProgress", laid_io_ErrNoProgress), ("bufio.errNegativeRead", laid_bufio_errNegativeRead)] }
def FnReadNextYieldsBytesThenEOFSaid : Prop := fnReadNextYieldsBytesThenEOFRow.holds Tryd.pinned (OpenSpec.ofChange fnReadNextYieldsBytesThenEOFSpec)

/-- ITS FALSE NEIGHBOUR: 'it returns false'. Refute it at one input. -/
def fnReadNextYieldsBytesThenEOFWrong : ChangeSpec := { name := "fnReadNextYieldsBytesThenEOF", fn := fun _ => fun
  | [d1, d2] => { results := [.lit (.bool false)], args := [d1, d2] }
  | _ => none }
def FnReadNextYieldsBytesThenEOFWrongFalsely : Prop := fnReadNextYieldsBytesThenEOFRow.holds Tryd.pinned (OpenSpec.ofChange fnReadNextYieldsBytesThenEOFWrong)

/-- 'n005_118.FnNewScannerNextCountsColumns': WHATEVER THE INPUT: true; the input reads as it did. -/
def fnNewScannerNextCountsColumnsSpec : ChangeSpec := { name := "fnNewScannerNextCountsColumns", fn := fun _ => fun
  | [d1, d2] => { results := [.lit (.bool true)], args := [d1, d2] }
  | _ => none }
def fnNewScannerNextCountsColumnsRow : OpenClaim := { program := "ytbolfnpocmbbhaadoor", sum := "248cb0a2cd78f6c3055e310342fa9330136bc54e4c3a944ed5ce2efe52e33f9d", func := "github.com/yuin/gopher-lua/n005_118.FnNewScannerNextCountsColumns", spec := "fnNewScannerNextCountsColumns", unfollowed := true, recurses := true, named := ["io.EOF", "bufio.errNegativeRead", "io.ErrNoProgress", "bufio.ErrInvalidUnreadByte"], apart := false, laid := [("io.EOF", laid_io_EOF), ("io.ErrNoProgress", laid_io_ErrNoProgress), ("bufio.ErrInvalidUnreadByte", laid_bufio_ErrInvalidUnreadByte), ("bufio.errNegativeRead", laid_bufio_errNegativeRead)] }
def FnNewScannerNextCountsColumnsSaid : Prop := fnNewScannerNextCountsColumnsRow.holds Tryd.pinned (OpenSpec.ofChange fnNewScannerNextCountsColumnsSpec)

/-- ITS FALSE NEIGHBOUR: 'it returns false'. Refute it at one input. -/
def fnNewScannerNextCountsColumnsWrong : ChangeSpec := { name := "fnNewScannerNextCountsColumns", fn := fun _ => fun
  | [d1, d2] => { results := [.lit (.bool false)], args := [d1, d2] }
  | _ => none }
def FnNewScannerNextCountsColumnsWrongFalsely : Prop := fnNewScannerNextCountsColumnsRow.holds Tryd.pinned (OpenSpec.ofChange fnNewScannerNextCountsColumnsWrong)

/-- 'n005_118.FnErrorSnapshotsPosition': WHATEVER THE INPUT: true; the input reads as it did. -/
def fnErrorSnapshotsPositionSpec : ChangeSpec := { name := "fnErrorSnapshotsPosition", fn := fun _ => fun
  | [d1, d2, d3, d4] => { results := [.lit (.bool true)], args := [d1, d2, d3, d4] }
  | _ => none }
def fnErrorSnapshotsPositionRow : OpenClaim := { program := "ytbolfnpocmbbhaadoor", sum := "248cb0a2cd78f6c3055e310342fa9330136bc54e4c3a944ed5ce2efe52e33f9d", func := "github.com/yuin/gopher-lua/n005_118.FnErrorSnapshotsPosition", spec := "fnErrorSnapshotsPosition", unfollowed := true, recurses := true, named := ["io.EOF", "bufio.errNegativeRead", "io.ErrNoProgress", "bufio.ErrInvalidUnreadByte"], apart := false, laid := [("io.EOF", laid_io_EOF), ("io.ErrNoProgress", laid_io_ErrNoProgress), ("bufio.ErrInvalidUnreadByte", laid_bufio_ErrInvalidUnreadByte), ("bufio.errNegativeRead", laid_bufio_errNegativeRead)] }
def FnErrorSnapshotsPositionSaid : Prop := fnErrorSnapshotsPositionRow.holds Tryd.pinned (OpenSpec.ofChange fnErrorSnapshotsPositionSpec)

/-- ITS FALSE NEIGHBOUR: 'it returns false'. Refute it at one input. -/
def fnErrorSnapshotsPositionWrong : ChangeSpec := { name := "fnErrorSnapshotsPosition", fn := fun _ => fun
  | [d1, d2, d3, d4] => { results := [.lit (.bool false)], args := [d1, d2, d3, d4] }
  | _ => none }
def FnErrorSnapshotsPositionWrongFalsely : Prop := fnErrorSnapshotsPositionRow.holds Tryd.pinned (OpenSpec.ofChange fnErrorSnapshotsPositionWrong)

/- THE SECOND FORM. 'bulk': how many values and letters a reading holds, each counted each time it is reached (what is shared counts as often as it is met; a slice's spare places count too). A statement '..UptoSaid' is the law's where the arguments, and the package variables that the reading takes, are together of bulk at most 1048576: NARROWER than '..Said'. Prove '..Said' where nothing that the law and all that it calls make is longer than what came in: it says more and counts as full. Else prove '..UptoSaid'. A law counts once. -/
mutual
def uptoBulk {H : Type} : DataW H → Nat
  | .lit (.string bytes) => bytes.length + 1
  | .lit _ => 1
  | .nil => 1
  | .ptr d => uptoBulk d + 1
  | .slice elems spare => uptoBulkAll elems + uptoBulkAll spare + 1
  | .agg parts => uptoBulkAll parts + 1
  | .iface _ d => uptoBulk d + 1
  | .map entries => uptoBulkEntries entries + 1
  | .held _ => 1
def uptoBulkAll {H : Type} : List (DataW H) → Nat
  | [] => 0
  | d :: r => uptoBulk d + uptoBulkAll r
def uptoBulkEntries {H : Type} : List (Lit × DataW H) → Nat
  | [] => 0
  | x :: r => uptoBulkEntry x + uptoBulkEntries r
def uptoBulkEntry {H : Type} : Lit × DataW H → Nat
  | (.string bytes, d) => bytes.length + uptoBulk d + 1
  | (_, d) => uptoBulk d + 1
 end
def uptoSmall : (H : Type) → List (DataW H) → Bool := fun _ ds => decide (uptoBulkAll ds ≤ 1048576)
def OpenSpec.upto (s : _root_.Go.ChangeSpec) : _root_.Go.OpenSpec := { _root_.Go.OpenSpec.ofChange s with cond := some uptoSmall }

/-- 'n005_118.FnReadNextAgreesWithPeek', WHERE WHAT IT READS IS OF BULK AT MOST 1048576: true; the input reads as it did. -/
def fnReadNextAgreesWithPeekUptoRow : OpenClaim := { program := "ytbolfnpocmbbhaadoor", sum := "248cb0a2cd78f6c3055e310342fa9330136bc54e4c3a944ed5ce2efe52e33f9d", func := "github.com/yuin/gopher-lua/n005_118.FnReadNextAgreesWithPeek", spec := "fnReadNextAgreesWithPeek", unfollowed := true, recurses := true, named := ["io.EOF", "bufio.errNegativeRead", "io.ErrNoProgress", "bufio.ErrInvalidUnreadByte"], apart := false, laid := [("io.EOF", laid_io_EOF), ("io.ErrNoProgress", laid_io_ErrNoProgress), ("bufio.ErrInvalidUnreadByte", laid_bufio_ErrInvalidUnreadByte), ("bufio.errNegativeRead", laid_bufio_errNegativeRead)], narrowed := true }
def FnReadNextAgreesWithPeekUptoSaid : Prop := fnReadNextAgreesWithPeekUptoRow.holds Tryd.pinned (OpenSpec.upto fnReadNextAgreesWithPeekSpec)

/-- 'n005_118.FnReadNextYieldsBytesThenEOF', WHERE WHAT IT READS IS OF BULK AT MOST 1048576: true; the input reads as it did. -/
def fnReadNextYieldsBytesThenEOFUptoRow : OpenClaim := { program := "ytbolfnpocmbbhaadoor", sum := "248cb0a2cd78f6c3055e310342fa9330136bc54e4c3a944ed5ce2efe52e33f9d", func := "github.com/yuin/gopher-lua/n005_118.FnReadNextYieldsBytesThenEOF", spec := "fnReadNextYieldsBytesThenEOF", unfollowed := true, recurses := true, named := ["io.EOF", "bufio.errNegativeRead", "io.ErrNoProgress"], apart := false, laid := [("io.EOF", laid_io_EOF), ("io.ErrNoProgress", laid_io_ErrNoProgress), ("bufio.errNegativeRead", laid_bufio_errNegativeRead)], narrowed := true }
def FnReadNextYieldsBytesThenEOFUptoSaid : Prop := fnReadNextYieldsBytesThenEOFUptoRow.holds Tryd.pinned (OpenSpec.upto fnReadNextYieldsBytesThenEOFSpec)

/-- 'n005_118.FnNewScannerNextCountsColumns', WHERE WHAT IT READS IS OF BULK AT MOST 1048576: true; the input reads as it did. -/
def fnNewScannerNextCountsColumnsUptoRow : OpenClaim := { program := "ytbolfnpocmbbhaadoor", sum := "248cb0a2cd78f6c3055e310342fa9330136bc54e4c3a944ed5ce2efe52e33f9d", func := "github.com/yuin/gopher-lua/n005_118.FnNewScannerNextCountsColumns", spec := "fnNewScannerNextCountsColumns", unfollowed := true, recurses := true, named := ["io.EOF", "bufio.errNegativeRead", "io.ErrNoProgress", "bufio.ErrInvalidUnreadByte"], apart := false, laid := [("io.EOF", laid_io_EOF), ("io.ErrNoProgress", laid_io_ErrNoProgress), ("bufio.ErrInvalidUnreadByte", laid_bufio_ErrInvalidUnreadByte), ("bufio.errNegativeRead", laid_bufio_errNegativeRead)], narrowed := true }
def FnNewScannerNextCountsColumnsUptoSaid : Prop := fnNewScannerNextCountsColumnsUptoRow.holds Tryd.pinned (OpenSpec.upto fnNewScannerNextCountsColumnsSpec)

/-- 'n005_118.FnErrorSnapshotsPosition', WHERE WHAT IT READS IS OF BULK AT MOST 1048576: true; the input reads as it did. -/
def fnErrorSnapshotsPositionUptoRow : OpenClaim := { program := "ytbolfnpocmbbhaadoor", sum := "248cb0a2cd78f6c3055e310342fa9330136bc54e4c3a944ed5ce2efe52e33f9d", func := "github.com/yuin/gopher-lua/n005_118.FnErrorSnapshotsPosition", spec := "fnErrorSnapshotsPosition", unfollowed := true, recurses := true, named := ["io.EOF", "bufio.errNegativeRead", "io.ErrNoProgress", "bufio.ErrInvalidUnreadByte"], apart := false, laid := [("io.EOF", laid_io_EOF), ("io.ErrNoProgress", laid_io_ErrNoProgress), ("bufio.ErrInvalidUnreadByte", laid_bufio_ErrInvalidUnreadByte), ("bufio.errNegativeRead", laid_bufio_errNegativeRead)], narrowed := true }
def FnErrorSnapshotsPositionUptoSaid : Prop := fnErrorSnapshotsPositionUptoRow.holds Tryd.pinned (OpenSpec.upto fnErrorSnapshotsPositionSpec)

end Rows
end Go.Proofs.YtbolfnpocmbbhaaDoor
