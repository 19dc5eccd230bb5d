/-
  NARROWER THAN 'FOR EVERY INPUT', by the rows' own cells (each row's printed sentence says how): FnCountSepPositionAdvancesByCount: laid · FnScanEscapeWritesOneByteEatsAtMostThreeDigits: laid · FnScanStringInvertsEscapedEncoding: laid · FnScanMultilineMatchesLeftmostClose: laid · FnScanMultilineRoundTrip: laid.
  DERIVED. THE GIVEN ROWS OF THIS SEAT. 5 by the template 'for every input the law returns true; each argument reads behind the call as it read before'; 0 by the template 'total and deterministic' (their statements: YtoibhhbhohpljaaDoorTotals.lean).
  GIVEN WITH THE SEED: the statements are not yours to turn. If you find one false, say at which input.
  Laid BY PROGRAM, IN A SANDBOX (cutbox-rows.mjs): the forced cells as the released guide's own fill.sh prints them over the translation 1bbfb391c76f2cb9… (all of the seat's roots in one cut). By AI agents, Wed Nov 11 2026. No macro, syntax, notation, axiom, sorry.
-/
import Derived.Test.YtoibhhbhohpljaaDoorChecked
import GoSem.Claim
import GoSem.ClaimJoined
import GoSem.ClaimMapViews
import Derived.JoinedTies
import Derived.KernelRfl
namespace Go.Proofs.YtoibhhbhohpljaaDoor
/- THE CELL 'sum', in the pinned program and in every row, IS THE sha256 OF THE DUMP (.gsa) THAT YtoibhhbhohpljaaDoorProg.lean LOADS. Nothing in Lean hashes anything: it is a label: what it is worth is what the hold of that sum in a sandbox is worth. -/
noncomputable def Tryd.pinned : Pinned := { name := "ytoibhhbhohpljaadoor", sum := "1bbfb391c76f2cb9142a38543e924f837637c65e09026cc0d7d6f12553238533", checked := Tryd.checked }
namespace Rows
def none {H : Type} : Left H := { results := [], args := [] }

/- WHAT THE LISTED PACKAGE-LEVEL VARIABLES READ AS WHEN THE CALL BEGINS. Each datum BY PROGRAM (the guide's laid-datum.mjs) off the statement by which the dump's own 'gosem.cut.vars' lays the variable. In a bare row this is a premise. The card (YtoibhhbhohpljaaDoorCards.lean) ties it to the program's text. -/
def laid_io_EOF {H : Type} : DataW H := .iface "*errors.errorString" (.ptr (.agg [.lit (.string [69, 79, 70])]))
def laid_io_ErrNoProgress {H : Type} : DataW H := .iface "*errors.errorString" (.ptr (.agg [.lit (.string [109, 117, 108, 116, 105, 112, 108, 101, 32, 82, 101, 97, 100, 32, 99, 97, 108, 108, 115, 32, 114, 101, 116, 117, 114, 110, 32, 110, 111, 32, 100, 97, 116, 97, 32, 111, 114, 32, 101, 114, 114, 111, 114])]))
def laid_bufio_ErrInvalidUnreadByte {H : Type} : DataW H := .iface "*errors.errorString" (.ptr (.agg [.lit (.string [98, 117, 102, 105, 111, 58, 32, 105, 110, 118, 97, 108, 105, 100, 32, 117, 115, 101, 32, 111, 102, 32, 85, 110, 114, 101, 97, 100, 66, 121, 116, 101])]))
def laid_bufio_errNegativeRead {H : Type} : DataW H := .iface "*errors.errorString" (.ptr (.agg [.lit (.string [98, 117, 102, 105, 111, 58, 32, 114, 101, 97, 100, 101, 114, 32, 114, 101, 116, 117, 114, 110, 101, 100, 32, 110, 101, 103, 97, 116, 105, 118, 101, 32, 99, 111, 117, 110, 116, 32, 102, 114, 111, 109, 32, 82, 101, 97, 100])]))
def laid_math_bits_deBruijn32tab {H : Type} : DataW H := .agg [.lit (.int .u8 0), .lit (.int .u8 1), .lit (.int .u8 28), .lit (.int .u8 2), .lit (.int .u8 29), .lit (.int .u8 14), .lit (.int .u8 24), .lit (.int .u8 3), .lit (.int .u8 30), .lit (.int .u8 22), .lit (.int .u8 20), .lit (.int .u8 15), .lit (.int .u8 25), .lit (.int .u8 17), .lit (.int .u8 4), .lit (.int .u8 8), .lit (.int .u8 31), .lit (.int .u8 27), .lit (.int .u8 13), .lit (.int .u8 23), .lit (.int .u8 21), .lit (.int .u8 19), .lit (.int .u8 16), .lit (.int .u8 7), .lit (.int .u8 26), .lit (.int .u8 12), .lit (.int .u8 18), .lit (.int .u8 6), .lit (.int .u8 11), .lit (.int .u8 5), .lit (.int .u8 10), .lit (.int .u8 9)]
def laid_math_bits_deBruijn64tab {H : Type} : DataW H := .agg [.lit (.int .u8 0), .lit (.int .u8 1), .lit (.int .u8 56), .lit (.int .u8 2), .lit (.int .u8 57), .lit (.int .u8 49), .lit (.int .u8 28), .lit (.int .u8 3), .lit (.int .u8 61), .lit (.int .u8 58), .lit (.int .u8 42), .lit (.int .u8 50), .lit (.int .u8 38), .lit (.int .u8 29), .lit (.int .u8 17), .lit (.int .u8 4), .lit (.int .u8 62), .lit (.int .u8 47), .lit (.int .u8 59), .lit (.int .u8 36), .lit (.int .u8 45), .lit (.int .u8 43), .lit (.int .u8 51), .lit (.int .u8 22), .lit (.int .u8 53), .lit (.int .u8 39), .lit (.int .u8 33), .lit (.int .u8 30), .lit (.int .u8 24), .lit (.int .u8 18), .lit (.int .u8 12), .lit (.int .u8 5), .lit (.int .u8 63), .lit (.int .u8 55), .lit (.int .u8 48), .lit (.int .u8 27), .lit (.int .u8 60), .lit (.int .u8 41), .lit (.int .u8 37), .lit (.int .u8 16), .lit (.int .u8 46), .lit (.int .u8 35), .lit (.int .u8 44), .lit (.int .u8 21), .lit (.int .u8 52), .lit (.int .u8 32), .lit (.int .u8 23), .lit (.int .u8 11), .lit (.int .u8 54), .lit (.int .u8 26), .lit (.int .u8 40), .lit (.int .u8 15), .lit (.int .u8 34), .lit (.int .u8 20), .lit (.int .u8 31), .lit (.int .u8 10), .lit (.int .u8 25), .lit (.int .u8 14), .lit (.int .u8 19), .lit (.int .u8 9), .lit (.int .u8 13), .lit (.int .u8 8), .lit (.int .u8 7), .lit (.int .u8 6)]
def laid_internal_strconv_uint64pow10 {H : Type} : DataW H := .agg [.lit (.int .u64 1), .lit (.int .u64 10), .lit (.int .u64 100), .lit (.int .u64 1000), .lit (.int .u64 10000), .lit (.int .u64 100000), .lit (.int .u64 1000000), .lit (.int .u64 10000000), .lit (.int .u64 100000000), .lit (.int .u64 1000000000), .lit (.int .u64 10000000000), .lit (.int .u64 100000000000), .lit (.int .u64 1000000000000), .lit (.int .u64 10000000000000), .lit (.int .u64 100000000000000), .lit (.int .u64 1000000000000000), .lit (.int .u64 10000000000000000), .lit (.int .u64 100000000000000000), .lit (.int .u64 1000000000000000000), .lit (.int .u64 10000000000000000000)]
def laid_strconv_ErrRange {H : Type} : DataW H := .iface "*errors.errorString" (.ptr (.agg [.lit (.string [118, 97, 108, 117, 101, 32, 111, 117, 116, 32, 111, 102, 32, 114, 97, 110, 103, 101])]))
def laid_strconv_ErrSyntax {H : Type} : DataW H := .iface "*errors.errorString" (.ptr (.agg [.lit (.string [105, 110, 118, 97, 108, 105, 100, 32, 115, 121, 110, 116, 97, 120])]))
def laid_bytes_ErrTooLarge {H : Type} : DataW H := .iface "*errors.errorString" (.ptr (.agg [.lit (.string [98, 121, 116, 101, 115, 46, 66, 117, 102, 102, 101, 114, 58, 32, 116, 111, 111, 32, 108, 97, 114, 103, 101])]))

/-- 'n005_131.FnCountSepPositionAdvancesByCount': WHATEVER THE INPUT: true; the input reads as it did. -/
def fnCountSepPositionAdvancesByCountSpec : ChangeSpec := { name := "fnCountSepPositionAdvancesByCount", fn := fun _ => fun
  | [d] => { results := [.lit (.bool true)], args := [d] }
  | _ => none }
def fnCountSepPositionAdvancesByCountRow : OpenClaim := { program := "ytoibhhbhohpljaadoor", sum := "1bbfb391c76f2cb9142a38543e924f837637c65e09026cc0d7d6f12553238533", func := "github.com/yuin/gopher-lua/n005_131.FnCountSepPositionAdvancesByCount", spec := "fnCountSepPositionAdvancesByCount", unfollowed := true, recurses := true, named := ["io.EOF", "bufio.errNegativeRead", "io.ErrNoProgress", "bufio.ErrInvalidUnreadByte"], apart := false, laid := [("io.EOF", laid_io_EOF), ("io.ErrNoProgress", laid_io_ErrNoProgress), ("bufio.ErrInvalidUnreadByte", laid_bufio_ErrInvalidUnreadByte), ("bufio.errNegativeRead", laid_bufio_errNegativeRead)] }
def FnCountSepPositionAdvancesByCountSaid : Prop := fnCountSepPositionAdvancesByCountRow.holds Tryd.pinned (OpenSpec.ofChange fnCountSepPositionAdvancesByCountSpec)

/-- ITS FALSE NEIGHBOUR: 'it returns false'. Refute it at one input. -/
def fnCountSepPositionAdvancesByCountWrong : ChangeSpec := { name := "fnCountSepPositionAdvancesByCount", fn := fun _ => fun
  | [d] => { results := [.lit (.bool false)], args := [d] }
  | _ => none }
def FnCountSepPositionAdvancesByCountWrongFalsely : Prop := fnCountSepPositionAdvancesByCountRow.holds Tryd.pinned (OpenSpec.ofChange fnCountSepPositionAdvancesByCountWrong)

/-- 'n005_131.FnScanEscapeWritesOneByteEatsAtMostThreeDigits': WHATEVER THE INPUT: true; the input reads as it did. -/
def fnScanEscapeWritesOneByteEatsAtMostThreeDigitsSpec : ChangeSpec := { name := "fnScanEscapeWritesOneByteEatsAtMostThreeDigits", fn := fun _ => fun
  | [d] => { results := [.lit (.bool true)], args := [d] }
  | _ => none }
def fnScanEscapeWritesOneByteEatsAtMostThreeDigitsRow : OpenClaim := { program := "ytoibhhbhohpljaadoor", sum := "1bbfb391c76f2cb9142a38543e924f837637c65e09026cc0d7d6f12553238533", func := "github.com/yuin/gopher-lua/n005_131.FnScanEscapeWritesOneByteEatsAtMostThreeDigits", spec := "fnScanEscapeWritesOneByteEatsAtMostThreeDigits", unfollowed := true, recurses := true, named := ["io.EOF", "bufio.errNegativeRead", "io.ErrNoProgress", "bufio.ErrInvalidUnreadByte", "bytes.ErrTooLarge", "strconv.ErrSyntax", "strconv.ErrRange", "internal/strconv.uint64pow10", "math/bits.deBruijn32tab", "math/bits.deBruijn64tab"], apart := false, laid := [("math/bits.deBruijn32tab", laid_math_bits_deBruijn32tab), ("math/bits.deBruijn64tab", laid_math_bits_deBruijn64tab), ("internal/strconv.uint64pow10", laid_internal_strconv_uint64pow10), ("strconv.ErrRange", laid_strconv_ErrRange), ("strconv.ErrSyntax", laid_strconv_ErrSyntax), ("io.EOF", laid_io_EOF), ("io.ErrNoProgress", laid_io_ErrNoProgress), ("bytes.ErrTooLarge", laid_bytes_ErrTooLarge), ("bufio.ErrInvalidUnreadByte", laid_bufio_ErrInvalidUnreadByte), ("bufio.errNegativeRead", laid_bufio_errNegativeRead)] }
def FnScanEscapeWritesOneByteEatsAtMostThreeDigitsSaid : Prop := fnScanEscapeWritesOneByteEatsAtMostThreeDigitsRow.holds Tryd.pinned (OpenSpec.ofChange fnScanEscapeWritesOneByteEatsAtMostThreeDigitsSpec)

/-- ITS FALSE NEIGHBOUR: 'it returns false'. Refute it at one input. -/
def fnScanEscapeWritesOneByteEatsAtMostThreeDigitsWrong : ChangeSpec := { name := "fnScanEscapeWritesOneByteEatsAtMostThreeDigits", fn := fun _ => fun
  | [d] => { results := [.lit (.bool false)], args := [d] }
  | _ => none }
def FnScanEscapeWritesOneByteEatsAtMostThreeDigitsWrongFalsely : Prop := fnScanEscapeWritesOneByteEatsAtMostThreeDigitsRow.holds Tryd.pinned (OpenSpec.ofChange fnScanEscapeWritesOneByteEatsAtMostThreeDigitsWrong)

/-- 'n005_131.FnScanStringInvertsEscapedEncoding': WHATEVER THE INPUT: true; the input reads as it did. -/
def fnScanStringInvertsEscapedEncodingSpec : ChangeSpec := { name := "fnScanStringInvertsEscapedEncoding", fn := fun _ => fun
  | [d1, d2, d3] => { results := [.lit (.bool true)], args := [d1, d2, d3] }
  | _ => none }
def fnScanStringInvertsEscapedEncodingRow : OpenClaim := { program := "ytoibhhbhohpljaadoor", sum := "1bbfb391c76f2cb9142a38543e924f837637c65e09026cc0d7d6f12553238533", func := "github.com/yuin/gopher-lua/n005_131.FnScanStringInvertsEscapedEncoding", spec := "fnScanStringInvertsEscapedEncoding", unfollowed := true, recurses := true, named := ["io.EOF", "bufio.errNegativeRead", "io.ErrNoProgress", "bufio.ErrInvalidUnreadByte", "bytes.ErrTooLarge", "strconv.ErrSyntax", "strconv.ErrRange", "internal/strconv.uint64pow10", "math/bits.deBruijn32tab", "math/bits.deBruijn64tab"], apart := false, laid := [("math/bits.deBruijn32tab", laid_math_bits_deBruijn32tab), ("math/bits.deBruijn64tab", laid_math_bits_deBruijn64tab), ("internal/strconv.uint64pow10", laid_internal_strconv_uint64pow10), ("strconv.ErrRange", laid_strconv_ErrRange), ("strconv.ErrSyntax", laid_strconv_ErrSyntax), ("io.EOF", laid_io_EOF), ("io.ErrNoProgress", laid_io_ErrNoProgress), ("bytes.ErrTooLarge", laid_bytes_ErrTooLarge), ("bufio.ErrInvalidUnreadByte", laid_bufio_ErrInvalidUnreadByte), ("bufio.errNegativeRead", laid_bufio_errNegativeRead)] }
def FnScanStringInvertsEscapedEncodingSaid : Prop := fnScanStringInvertsEscapedEncodingRow.holds Tryd.pinned (OpenSpec.ofChange fnScanStringInvertsEscapedEncodingSpec)

/-- ITS FALSE NEIGHBOUR: 'it returns false'. Refute it at one input. -/
def fnScanStringInvertsEscapedEncodingWrong : ChangeSpec := { name := "fnScanStringInvertsEscapedEncoding", fn := fun _ => fun
  | [d1, d2, d3] => { results := [.lit (.bool false)], args := [d1, d2, d3] }
  | _ => none }
def FnScanStringInvertsEscapedEncodingWrongFalsely : Prop := fnScanStringInvertsEscapedEncodingRow.holds Tryd.pinned (OpenSpec.ofChange fnScanStringInvertsEscapedEncodingWrong)

/-- 'n005_131.FnScanMultilineMatchesLeftmostClose': WHATEVER THE INPUT: true; the input reads as it did. -/
def fnScanMultilineMatchesLeftmostCloseSpec : ChangeSpec := { name := "fnScanMultilineMatchesLeftmostClose", fn := fun _ => fun
  | [d] => { results := [.lit (.bool true)], args := [d] }
  | _ => none }
def fnScanMultilineMatchesLeftmostCloseRow : OpenClaim := { program := "ytoibhhbhohpljaadoor", sum := "1bbfb391c76f2cb9142a38543e924f837637c65e09026cc0d7d6f12553238533", func := "github.com/yuin/gopher-lua/n005_131.FnScanMultilineMatchesLeftmostClose", spec := "fnScanMultilineMatchesLeftmostClose", inPlace := ["internal/abi.NoEscape", "internal/bytealg.MakeNoZero"], unfollowed := true, recurses := true, named := ["io.EOF", "bufio.errNegativeRead", "io.ErrNoProgress", "bufio.ErrInvalidUnreadByte", "bytes.ErrTooLarge"], apart := false, laid := [("io.EOF", laid_io_EOF), ("io.ErrNoProgress", laid_io_ErrNoProgress), ("bytes.ErrTooLarge", laid_bytes_ErrTooLarge), ("bufio.ErrInvalidUnreadByte", laid_bufio_ErrInvalidUnreadByte), ("bufio.errNegativeRead", laid_bufio_errNegativeRead)] }
def FnScanMultilineMatchesLeftmostCloseSaid : Prop := fnScanMultilineMatchesLeftmostCloseRow.holds Tryd.pinned (OpenSpec.ofChange fnScanMultilineMatchesLeftmostCloseSpec)

/-- ITS FALSE NEIGHBOUR: 'it returns false'. Refute it at one input. -/
def fnScanMultilineMatchesLeftmostCloseWrong : ChangeSpec := { name := "fnScanMultilineMatchesLeftmostClose", fn := fun _ => fun
  | [d] => { results := [.lit (.bool false)], args := [d] }
  | _ => none }
def FnScanMultilineMatchesLeftmostCloseWrongFalsely : Prop := fnScanMultilineMatchesLeftmostCloseRow.holds Tryd.pinned (OpenSpec.ofChange fnScanMultilineMatchesLeftmostCloseWrong)

/-- 'n005_131.FnScanMultilineRoundTrip': WHATEVER THE INPUT: true; the input reads as it did. -/
def fnScanMultilineRoundTripSpec : ChangeSpec := { name := "fnScanMultilineRoundTrip", fn := fun _ => fun
  | [d1, d2, d3] => { results := [.lit (.bool true)], args := [d1, d2, d3] }
  | _ => none }
def fnScanMultilineRoundTripRow : OpenClaim := { program := "ytoibhhbhohpljaadoor", sum := "1bbfb391c76f2cb9142a38543e924f837637c65e09026cc0d7d6f12553238533", func := "github.com/yuin/gopher-lua/n005_131.FnScanMultilineRoundTrip", spec := "fnScanMultilineRoundTrip", inPlace := ["internal/abi.NoEscape", "internal/bytealg.MakeNoZero"], unfollowed := true, recurses := true, named := ["io.EOF", "bufio.errNegativeRead", "io.ErrNoProgress", "bufio.ErrInvalidUnreadByte", "bytes.ErrTooLarge"], apart := false, laid := [("io.EOF", laid_io_EOF), ("io.ErrNoProgress", laid_io_ErrNoProgress), ("bytes.ErrTooLarge", laid_bytes_ErrTooLarge), ("bufio.ErrInvalidUnreadByte", laid_bufio_ErrInvalidUnreadByte), ("bufio.errNegativeRead", laid_bufio_errNegativeRead)] }
def FnScanMultilineRoundTripSaid : Prop := fnScanMultilineRoundTripRow.holds Tryd.pinned (OpenSpec.ofChange fnScanMultilineRoundTripSpec)

/-- ITS FALSE NEIGHBOUR: 'it returns false'. Refute it at one input. -/
def fnScanMultilineRoundTripWrong : ChangeSpec := { name := "fnScanMultilineRoundTrip", fn := fun _ => fun
  | [d1, d2, d3] => { results := [.lit (.bool false)], args := [d1, d2, d3] }
  | _ => none }
def FnScanMultilineRoundTripWrongFalsely : Prop := fnScanMultilineRoundTripRow.holds Tryd.pinned (OpenSpec.ofChange fnScanMultilineRoundTripWrong)

/- THE SECOND FORM. 'bulk': how many values and letters a reading holds, each counted each time it is reached (what is shared counts as often as it is met; a slice's spare places count too). A statement '..UptoSaid' is the law's where the arguments, and the package variables that the reading takes, are together of bulk at most 1048576: NARROWER than '..Said'. Prove '..Said' where nothing that the law and all that it calls make is longer than what came in: it says more and counts as full. Else prove '..UptoSaid'. A law counts once. -/
mutual
def uptoBulk {H : Type} : DataW H → Nat
  | .lit (.string bytes) => bytes.length + 1
  | .lit _ => 1
  | .nil => 1
  | .ptr d => uptoBulk d + 1
  | .slice elems spare => uptoBulkAll elems + uptoBulkAll spare + 1
  | .agg parts => uptoBulkAll parts + 1
  | .iface _ d => uptoBulk d + 1
  | .map entries => uptoBulkEntries entries + 1
  | .held _ => 1
def uptoBulkAll {H : Type} : List (DataW H) → Nat
  | [] => 0
  | d :: r => uptoBulk d + uptoBulkAll r
def uptoBulkEntries {H : Type} : List (Lit × DataW H) → Nat
  | [] => 0
  | x :: r => uptoBulkEntry x + uptoBulkEntries r
def uptoBulkEntry {H : Type} : Lit × DataW H → Nat
  | (.string bytes, d) => bytes.length + uptoBulk d + 1
  | (_, d) => uptoBulk d + 1
 end
def uptoSmall : (H : Type) → List (DataW H) → Bool := fun _ ds => decide (uptoBulkAll ds ≤ 1048576)
def OpenSpec.upto (s : _root_.Go.ChangeSpec) : _root_.Go.OpenSpec := { _root_.Go.OpenSpec.ofChange s with cond := some uptoSmall }

/-- 'n005_131.FnCountSepPositionAdvancesByCount', WHERE WHAT IT READS IS OF BULK AT MOST 1048576: true; the input reads as it did. -/
def fnCountSepPositionAdvancesByCountUptoRow : OpenClaim := { program := "ytoibhhbhohpljaadoor", sum := "1bbfb391c76f2cb9142a38543e924f837637c65e09026cc0d7d6f12553238533", func := "github.com/yuin/gopher-lua/n005_131.FnCountSepPositionAdvancesByCount", spec := "fnCountSepPositionAdvancesByCount", unfollowed := true, recurses := true, named := ["io.EOF", "bufio.errNegativeRead", "io.ErrNoProgress", "bufio.ErrInvalidUnreadByte"], apart := false, laid := [("io.EOF", laid_io_EOF), ("io.ErrNoProgress", laid_io_ErrNoProgress), ("bufio.ErrInvalidUnreadByte", laid_bufio_ErrInvalidUnreadByte), ("bufio.errNegativeRead", laid_bufio_errNegativeRead)], narrowed := true }
def FnCountSepPositionAdvancesByCountUptoSaid : Prop := fnCountSepPositionAdvancesByCountUptoRow.holds Tryd.pinned (OpenSpec.upto fnCountSepPositionAdvancesByCountSpec)

/-- 'n005_131.FnScanEscapeWritesOneByteEatsAtMostThreeDigits', WHERE WHAT IT READS IS OF BULK AT MOST 1048576: true; the input reads as it did. -/
def fnScanEscapeWritesOneByteEatsAtMostThreeDigitsUptoRow : OpenClaim := { program := "ytoibhhbhohpljaadoor", sum := "1bbfb391c76f2cb9142a38543e924f837637c65e09026cc0d7d6f12553238533", func := "github.com/yuin/gopher-lua/n005_131.FnScanEscapeWritesOneByteEatsAtMostThreeDigits", spec := "fnScanEscapeWritesOneByteEatsAtMostThreeDigits", unfollowed := true, recurses := true, named := ["io.EOF", "bufio.errNegativeRead", "io.ErrNoProgress", "bufio.ErrInvalidUnreadByte", "bytes.ErrTooLarge", "strconv.ErrSyntax", "strconv.ErrRange", "internal/strconv.uint64pow10", "math/bits.deBruijn32tab", "math/bits.deBruijn64tab"], apart := false, laid := [("math/bits.deBruijn32tab", laid_math_bits_deBruijn32tab), ("math/bits.deBruijn64tab", laid_math_bits_deBruijn64tab), ("internal/strconv.uint64pow10", laid_internal_strconv_uint64pow10), ("strconv.ErrRange", laid_strconv_ErrRange), ("strconv.ErrSyntax", laid_strconv_ErrSyntax), ("io.EOF", laid_io_EOF), ("io.ErrNoProgress", laid_io_ErrNoProgress), ("bytes.ErrTooLarge", laid_bytes_ErrTooLarge), ("bufio.ErrInvalidUnreadByte", laid_bufio_ErrInvalidUnreadByte), ("bufio.errNegativeRead", laid_bufio_errNegativeRead)], narrowed := true }
def FnScanEscapeWritesOneByteEatsAtMostThreeDigitsUptoSaid : Prop := fnScanEscapeWritesOneByteEatsAtMostThreeDigitsUptoRow.holds Tryd.pinned (OpenSpec.upto fnScanEscapeWritesOneByteEatsAtMostThreeDigitsSpec)

/-- 'n005_131.FnScanStringInvertsEscapedEncoding', WHERE WHAT IT READS IS OF BULK AT MOST 1048576: true; the input reads as it did. -/
def fnScanStringInvertsEscapedEncodingUptoRow : OpenClaim := { program := "ytoibhhbhohpljaadoor", sum := "1bbfb391c76f2cb9142a38543e924f837637c65e09026cc0d7d6f12553238533", func := "github.com/yuin/gopher-lua/n005_131.FnScanStringInvertsEscapedEncoding", spec := "fnScanStringInvertsEscapedEncoding", unfollowed := true, recurses := true, named := ["io.EOF", "bufio.errNegativeRead", "io.ErrNoProgress", "bufio.ErrInvalidUnreadByte", "bytes.ErrTooLarge", "strconv.ErrSyntax", "strconv.ErrRange", "internal/strconv.uint64pow10", "math/bits.deBruijn32tab", "math/bits.deBruijn64tab"], apart := false, laid := [("math/bits.deBruijn32tab", laid_math_bits_deBruijn32tab), ("math/bits.deBruijn64tab", laid_math_bits_deBruijn64tab), ("internal/strconv.uint64pow10", laid_internal_strconv_uint64pow10), ("strconv.ErrRange", laid_strconv_ErrRange), ("strconv.ErrSyntax", laid_strconv_ErrSyntax), ("io.EOF", laid_io_EOF), ("io.ErrNoProgress", laid_io_ErrNoProgress), ("bytes.ErrTooLarge", laid_bytes_ErrTooLarge), ("bufio.ErrInvalidUnreadByte", laid_bufio_ErrInvalidUnreadByte), ("bufio.errNegativeRead", laid_bufio_errNegativeRead)], narrowed := true }
def FnScanStringInvertsEscapedEncodingUptoSaid : Prop := fnScanStringInvertsEscapedEncodingUptoRow.holds Tryd.pinned (OpenSpec.upto fnScanStringInvertsEscapedEncodingSpec)

/-- 'n005_131.FnScanMultilineMatchesLeftmostClose', WHERE WHAT IT READS IS OF BULK AT MOST 1048576: true; the input reads as it did. -/
def fnScanMultilineMatchesLeftmostCloseUptoRow : OpenClaim := { program := "ytoibhhbhohpljaadoor", sum := "1bbfb391c76f2cb9142a38543e924f837637c65e09026cc0d7d6f12553238533", func := "github.com/yuin/gopher-lua/n005_131.FnScanMultilineMatchesLeftmostClose", spec := "fnScanMultilineMatchesLeftmostClose", inPlace := ["internal/abi.NoEscape", "internal/bytealg.MakeNoZero"], unfollowed := true, recurses := true, named := ["io.EOF", "bufio.errNegativeRead", "io.ErrNoProgress", "bufio.ErrInvalidUnreadByte", "bytes.ErrTooLarge"], apart := false, laid := [("io.EOF", laid_io_EOF), ("io.ErrNoProgress", laid_io_ErrNoProgress), ("bytes.ErrTooLarge", laid_bytes_ErrTooLarge), ("bufio.ErrInvalidUnreadByte", laid_bufio_ErrInvalidUnreadByte), ("bufio.errNegativeRead", laid_bufio_errNegativeRead)], narrowed := true }
def FnScanMultilineMatchesLeftmostCloseUptoSaid : Prop := fnScanMultilineMatchesLeftmostCloseUptoRow.holds Tryd.pinned (OpenSpec.upto fnScanMultilineMatchesLeftmostCloseSpec)

/-- 'n005_131.FnScanMultilineRoundTrip', WHERE WHAT IT READS IS OF BULK AT MOST 1048576: true; the input reads as it did. -/
def fnScanMultilineRoundTripUptoRow : OpenClaim := { program := "ytoibhhbhohpljaadoor", sum := "1bbfb391c76f2cb9142a38543e924f837637c65e09026cc0d7d6f12553238533", func := "github.com/yuin/gopher-lua/n005_131.FnScanMultilineRoundTrip", spec := "fnScanMultilineRoundTrip", inPlace := ["internal/abi.NoEscape", "internal/bytealg.MakeNoZero"], unfollowed := true, recurses := true, named := ["io.EOF", "bufio.errNegativeRead", "io.ErrNoProgress", "bufio.ErrInvalidUnreadByte", "bytes.ErrTooLarge"], apart := false, laid := [("io.EOF", laid_io_EOF), ("io.ErrNoProgress", laid_io_ErrNoProgress), ("bytes.ErrTooLarge", laid_bytes_ErrTooLarge), ("bufio.ErrInvalidUnreadByte", laid_bufio_ErrInvalidUnreadByte), ("bufio.errNegativeRead", laid_bufio_errNegativeRead)], narrowed := true }
def FnScanMultilineRoundTripUptoSaid : Prop := fnScanMultilineRoundTripUptoRow.holds Tryd.pinned (OpenSpec.upto fnScanMultilineRoundTripSpec)

end Rows
end Go.Proofs.YtoibhhbhohpljaaDoor
