/-
  DERIVED. GIVEN WITH THE SEED: THE PROGRAM's TIES (one call each: nine closed facts by the kernel) AND EACH ROW's TIE, after the 31st guide's Derived/Test/Toyas{Tie, Card}.lean. No idea stands in it: it is a product of the set-up. Laid BY PROGRAM, IN A SANDBOX (cutbox-door.mjs). By AI agents, Wed Nov 11 2026. No macro, syntax, notation, axiom, sorry.
-/
import Derived.Test.YtpjnggpjcbojcaaDoorRows
import Derived.LaidByTextLater
import Derived.SevenTiedAt
import Derived.LaidSub
import Derived.LaidOnce
namespace Go.Proofs.YtpjnggpjcbojcaaDoor
open Go
set_option maxRecDepth 100000
theorem seatTie1 : Tryd.prog.laidByTextLater [("math/bits.deBruijn32tab", Rows.laid_math_bits_deBruijn32tab), ("math/bits.deBruijn64tab", Rows.laid_math_bits_deBruijn64tab), ("internal/strconv.uint64pow10", Rows.laid_internal_strconv_uint64pow10), ("strconv.ErrRange", Rows.laid_strconv_ErrRange), ("strconv.ErrSyntax", Rows.laid_strconv_ErrSyntax), ("io.EOF", Rows.laid_io_EOF), ("io.ErrNoProgress", Rows.laid_io_ErrNoProgress), ("bytes.ErrTooLarge", Rows.laid_bytes_ErrTooLarge), ("bufio.ErrInvalidUnreadByte", Rows.laid_bufio_ErrInvalidUnreadByte), ("bufio.errNegativeRead", Rows.laid_bufio_errNegativeRead), ("github.com/yuin/gopher-lua/parse.yyToknames", Rows.laid_github_com_yuin_gopher_lua_parse_yyToknames)] [.data, .data, .data, .sentinel, .sentinel, .sentinel, .sentinel, .sentinel, .sentinel, .sentinel, .data] true :=
  Program.laidByTextLater_by_one 162 8 65 (by kernel_rfl) (by kernel_rfl) (by kernel_rfl) (by kernel_rfl) (by kernel_rfl) (by kernel_rfl) (fun _ _ => by kernel_rfl)
theorem noOwnUnsafe : Tryd.pinned.checked.prog.headLifts.contains "ownunsafe" = false := by kernel_rfl
theorem tie : Tryd.prog.laidByTextLater [("io.EOF", Rows.laid_io_EOF), ("io.ErrNoProgress", Rows.laid_io_ErrNoProgress), ("bytes.ErrTooLarge", Rows.laid_bytes_ErrTooLarge), ("bufio.ErrInvalidUnreadByte", Rows.laid_bufio_ErrInvalidUnreadByte), ("bufio.errNegativeRead", Rows.laid_bufio_errNegativeRead)] [.sentinel, .sentinel, .sentinel, .sentinel, .sentinel] true :=
  Program.laidByTextLater.sub seatTie1 ["io.EOF", "io.ErrNoProgress", "bytes.ErrTooLarge", "bufio.ErrInvalidUnreadByte", "bufio.errNegativeRead"] (by kernel_rfl) (by kernel_rfl)
theorem fnSkipCommentsLongEnclosed_row_tie : Rows.fnSkipCommentsLongEnclosedRow.laidByTextAt .later Tryd.pinned [.sentinel, .sentinel, .sentinel, .sentinel, .sentinel] true :=
  OpenClaim.laidByTextAt_later rfl rfl tie noOwnUnsafe
theorem fnScanNumberRescanFixpoint_row_tie : Rows.fnScanNumberRescanFixpointRow.laidByTextAt .later Tryd.pinned [.sentinel, .sentinel, .sentinel, .sentinel, .sentinel] true :=
  OpenClaim.laidByTextAt_later rfl rfl tie noOwnUnsafe
theorem fnScanDecimalPrefixOfIdent_row_tie : Rows.fnScanDecimalPrefixOfIdentRow.laidByTextAt .later Tryd.pinned [.sentinel, .sentinel, .sentinel, .sentinel, .sentinel] true :=
  OpenClaim.laidByTextAt_later rfl rfl tie noOwnUnsafe
theorem tie2 : Tryd.prog.laidByTextLater [("math/bits.deBruijn32tab", Rows.laid_math_bits_deBruijn32tab), ("math/bits.deBruijn64tab", Rows.laid_math_bits_deBruijn64tab), ("internal/strconv.uint64pow10", Rows.laid_internal_strconv_uint64pow10), ("strconv.ErrRange", Rows.laid_strconv_ErrRange), ("strconv.ErrSyntax", Rows.laid_strconv_ErrSyntax), ("io.EOF", Rows.laid_io_EOF), ("io.ErrNoProgress", Rows.laid_io_ErrNoProgress), ("bytes.ErrTooLarge", Rows.laid_bytes_ErrTooLarge), ("bufio.ErrInvalidUnreadByte", Rows.laid_bufio_ErrInvalidUnreadByte), ("bufio.errNegativeRead", Rows.laid_bufio_errNegativeRead), ("github.com/yuin/gopher-lua/parse.yyToknames", Rows.laid_github_com_yuin_gopher_lua_parse_yyToknames)] [.data, .data, .data, .sentinel, .sentinel, .sentinel, .sentinel, .sentinel, .sentinel, .sentinel, .data] true :=
  Program.laidByTextLater.sub seatTie1 ["math/bits.deBruijn32tab", "math/bits.deBruijn64tab", "internal/strconv.uint64pow10", "strconv.ErrRange", "strconv.ErrSyntax", "io.EOF", "io.ErrNoProgress", "bytes.ErrTooLarge", "bufio.ErrInvalidUnreadByte", "bufio.errNegativeRead", "github.com/yuin/gopher-lua/parse.yyToknames"] (by kernel_rfl) (by kernel_rfl)
theorem fnScanIdentAgreesWithScan_row_tie : Rows.fnScanIdentAgreesWithScanRow.laidByTextAt .later Tryd.pinned [.data, .data, .data, .sentinel, .sentinel, .sentinel, .sentinel, .sentinel, .sentinel, .sentinel, .data] true :=
  OpenClaim.laidByTextAt_later rfl rfl tie2 noOwnUnsafe
theorem fnSkipCommentsLongEnclosedUpto_row_tie : Rows.fnSkipCommentsLongEnclosedUptoRow.laidByTextAt .later Tryd.pinned [.sentinel, .sentinel, .sentinel, .sentinel, .sentinel] true :=
  OpenClaim.laidByTextAt_later rfl rfl tie noOwnUnsafe
theorem fnScanNumberRescanFixpointUpto_row_tie : Rows.fnScanNumberRescanFixpointUptoRow.laidByTextAt .later Tryd.pinned [.sentinel, .sentinel, .sentinel, .sentinel, .sentinel] true :=
  OpenClaim.laidByTextAt_later rfl rfl tie noOwnUnsafe
theorem fnScanIdentAgreesWithScanUpto_row_tie : Rows.fnScanIdentAgreesWithScanUptoRow.laidByTextAt .later Tryd.pinned [.data, .data, .data, .sentinel, .sentinel, .sentinel, .sentinel, .sentinel, .sentinel, .sentinel, .data] true :=
  OpenClaim.laidByTextAt_later rfl rfl tie2 noOwnUnsafe
theorem fnScanDecimalPrefixOfIdentUpto_row_tie : Rows.fnScanDecimalPrefixOfIdentUptoRow.laidByTextAt .later Tryd.pinned [.sentinel, .sentinel, .sentinel, .sentinel, .sentinel] true :=
  OpenClaim.laidByTextAt_later rfl rfl tie noOwnUnsafe
end Go.Proofs.YtpjnggpjcbojcaaDoor
