/-
  DERIVED. GIVEN WITH THE SEED: THE PROGRAM's TIES (one call each: nine closed facts by the kernel) AND EACH ROW's TIE, after the 31st guide's Derived/Test/Toyas{Tie, Card}.lean. No idea stands in it: it is a product of the set-up. Laid BY PROGRAM, IN A SANDBOX (cutbox-door.mjs). By AI agents, Wed Nov 11 2026. No macro, syntax, notation, axiom, sorry.
-/
import Derived.Test.YtbgmeppidedfbaaDoorRows
import Derived.LaidByTextLater
import Derived.SevenTiedAt
import Derived.LaidSub
import Derived.LaidOnce
namespace Go.Proofs.YtbgmeppidedfbaaDoor
open Go
set_option maxRecDepth 100000
theorem seatTie1 : Tryd.prog.laidByTextLater [("math/bits.deBruijn32tab", Rows.laid_math_bits_deBruijn32tab), ("math/bits.deBruijn64tab", Rows.laid_math_bits_deBruijn64tab), ("internal/strconv.uint64pow10", Rows.laid_internal_strconv_uint64pow10), ("strconv.ErrRange", Rows.laid_strconv_ErrRange), ("strconv.ErrSyntax", Rows.laid_strconv_ErrSyntax), ("io.EOF", Rows.laid_io_EOF), ("loop.example/pub-g03023/pub/uint256.ErrEmptyString", Rows.laid_loop_example_pub_g03023_pub_uint256_ErrEmptyString), ("loop.example/pub-g03023/pub/uint256.ErrSyntax", Rows.laid_loop_example_pub_g03023_pub_uint256_ErrSyntax), ("loop.example/pub-g03023/pub/uint256.ErrMissingPrefix", Rows.laid_loop_example_pub_g03023_pub_uint256_ErrMissingPrefix), ("loop.example/pub-g03023/pub/uint256.ErrEmptyNumber", Rows.laid_loop_example_pub_g03023_pub_uint256_ErrEmptyNumber), ("loop.example/pub-g03023/pub/uint256.ErrLeadingZero", Rows.laid_loop_example_pub_g03023_pub_uint256_ErrLeadingZero), ("loop.example/pub-g03023/pub/uint256.ErrBig256Range", Rows.laid_loop_example_pub_g03023_pub_uint256_ErrBig256Range), ("loop.example/pub-g03023/pub/uint256.multipliers", Rows.laid_loop_example_pub_g03023_pub_uint256_multipliers)] [.data, .data, .data, .sentinel, .sentinel, .sentinel, .sentinel, .sentinel, .sentinel, .sentinel, .sentinel, .sentinel, .widerDeep] true :=
  Program.laidByTextLater_by_one 208 8 65 (by kernel_rfl) (by kernel_rfl) (by kernel_rfl) (by kernel_rfl) (by kernel_rfl) (by kernel_rfl) (fun _ _ => by kernel_rfl)
theorem noOwnUnsafe : Tryd.pinned.checked.prog.headLifts.contains "ownunsafe" = false := by kernel_rfl
theorem tie : Tryd.prog.laidByTextLater [("loop.example/pub-g03023/pub/uint256.ErrEmptyString", Rows.laid_loop_example_pub_g03023_pub_uint256_ErrEmptyString), ("loop.example/pub-g03023/pub/uint256.ErrSyntax", Rows.laid_loop_example_pub_g03023_pub_uint256_ErrSyntax), ("loop.example/pub-g03023/pub/uint256.ErrMissingPrefix", Rows.laid_loop_example_pub_g03023_pub_uint256_ErrMissingPrefix), ("loop.example/pub-g03023/pub/uint256.ErrEmptyNumber", Rows.laid_loop_example_pub_g03023_pub_uint256_ErrEmptyNumber), ("loop.example/pub-g03023/pub/uint256.ErrLeadingZero", Rows.laid_loop_example_pub_g03023_pub_uint256_ErrLeadingZero), ("loop.example/pub-g03023/pub/uint256.ErrBig256Range", Rows.laid_loop_example_pub_g03023_pub_uint256_ErrBig256Range)] [.sentinel, .sentinel, .sentinel, .sentinel, .sentinel, .sentinel] true :=
  Program.laidByTextLater.sub seatTie1 ["loop.example/pub-g03023/pub/uint256.ErrEmptyString", "loop.example/pub-g03023/pub/uint256.ErrSyntax", "loop.example/pub-g03023/pub/uint256.ErrMissingPrefix", "loop.example/pub-g03023/pub/uint256.ErrEmptyNumber", "loop.example/pub-g03023/pub/uint256.ErrLeadingZero", "loop.example/pub-g03023/pub/uint256.ErrBig256Range"] (by kernel_rfl) (by kernel_rfl)
theorem fnFromHexIs_row_tie : Rows.fnFromHexIsRow.laidByTextAt .later Tryd.pinned [.sentinel, .sentinel, .sentinel, .sentinel, .sentinel, .sentinel] true :=
  OpenClaim.laidByTextAt_later rfl rfl tie noOwnUnsafe
theorem tie2 : Tryd.prog.laidByTextLater [("math/bits.deBruijn32tab", Rows.laid_math_bits_deBruijn32tab), ("math/bits.deBruijn64tab", Rows.laid_math_bits_deBruijn64tab), ("internal/strconv.uint64pow10", Rows.laid_internal_strconv_uint64pow10)] [.data, .data, .data] true :=
  Program.laidByTextLater.sub seatTie1 ["math/bits.deBruijn32tab", "math/bits.deBruijn64tab", "internal/strconv.uint64pow10"] (by kernel_rfl) (by kernel_rfl)
theorem fnPrettyDecIs_row_tie : Rows.fnPrettyDecIsRow.laidByTextAt .later Tryd.pinned [.data, .data, .data] true :=
  OpenClaim.laidByTextAt_later rfl rfl tie2 noOwnUnsafe
theorem fnJsonIs_row_tie : Rows.fnJsonIsRow.laidByTextAt .later Tryd.pinned [.data, .data, .data] true :=
  OpenClaim.laidByTextAt_later rfl rfl tie2 noOwnUnsafe
theorem fnDecIs_row_tie : Rows.fnDecIsRow.laidByTextAt .later Tryd.pinned [.data, .data, .data] true :=
  OpenClaim.laidByTextAt_later rfl rfl tie2 noOwnUnsafe
theorem tie3 : Tryd.prog.laidByTextLater [("math/bits.deBruijn32tab", Rows.laid_math_bits_deBruijn32tab), ("math/bits.deBruijn64tab", Rows.laid_math_bits_deBruijn64tab), ("internal/strconv.uint64pow10", Rows.laid_internal_strconv_uint64pow10), ("strconv.ErrRange", Rows.laid_strconv_ErrRange), ("strconv.ErrSyntax", Rows.laid_strconv_ErrSyntax), ("io.EOF", Rows.laid_io_EOF), ("loop.example/pub-g03023/pub/uint256.ErrBig256Range", Rows.laid_loop_example_pub_g03023_pub_uint256_ErrBig256Range), ("loop.example/pub-g03023/pub/uint256.multipliers", Rows.laid_loop_example_pub_g03023_pub_uint256_multipliers)] [.data, .data, .data, .sentinel, .sentinel, .sentinel, .sentinel, .widerDeep] true :=
  Program.laidByTextLater.sub seatTie1 ["math/bits.deBruijn32tab", "math/bits.deBruijn64tab", "internal/strconv.uint64pow10", "strconv.ErrRange", "strconv.ErrSyntax", "io.EOF", "loop.example/pub-g03023/pub/uint256.ErrBig256Range", "loop.example/pub-g03023/pub/uint256.multipliers"] (by kernel_rfl) (by kernel_rfl)
theorem fnFromDecimalIs_row_tie : Rows.fnFromDecimalIsRow.laidByTextAt .later Tryd.pinned [.data, .data, .data, .sentinel, .sentinel, .sentinel, .sentinel, .widerDeep] true :=
  OpenClaim.laidByTextAt_later rfl rfl tie3 noOwnUnsafe
theorem tie4 : Tryd.prog.laidByTextLater [("math/bits.deBruijn32tab", Rows.laid_math_bits_deBruijn32tab), ("math/bits.deBruijn64tab", Rows.laid_math_bits_deBruijn64tab), ("internal/strconv.uint64pow10", Rows.laid_internal_strconv_uint64pow10), ("strconv.ErrRange", Rows.laid_strconv_ErrRange), ("strconv.ErrSyntax", Rows.laid_strconv_ErrSyntax), ("io.EOF", Rows.laid_io_EOF), ("loop.example/pub-g03023/pub/uint256.ErrEmptyString", Rows.laid_loop_example_pub_g03023_pub_uint256_ErrEmptyString), ("loop.example/pub-g03023/pub/uint256.ErrSyntax", Rows.laid_loop_example_pub_g03023_pub_uint256_ErrSyntax), ("loop.example/pub-g03023/pub/uint256.ErrMissingPrefix", Rows.laid_loop_example_pub_g03023_pub_uint256_ErrMissingPrefix), ("loop.example/pub-g03023/pub/uint256.ErrEmptyNumber", Rows.laid_loop_example_pub_g03023_pub_uint256_ErrEmptyNumber), ("loop.example/pub-g03023/pub/uint256.ErrLeadingZero", Rows.laid_loop_example_pub_g03023_pub_uint256_ErrLeadingZero), ("loop.example/pub-g03023/pub/uint256.ErrBig256Range", Rows.laid_loop_example_pub_g03023_pub_uint256_ErrBig256Range), ("loop.example/pub-g03023/pub/uint256.multipliers", Rows.laid_loop_example_pub_g03023_pub_uint256_multipliers)] [.data, .data, .data, .sentinel, .sentinel, .sentinel, .sentinel, .sentinel, .sentinel, .sentinel, .sentinel, .sentinel, .widerDeep] true :=
  Program.laidByTextLater.sub seatTie1 ["math/bits.deBruijn32tab", "math/bits.deBruijn64tab", "internal/strconv.uint64pow10", "strconv.ErrRange", "strconv.ErrSyntax", "io.EOF", "loop.example/pub-g03023/pub/uint256.ErrEmptyString", "loop.example/pub-g03023/pub/uint256.ErrSyntax", "loop.example/pub-g03023/pub/uint256.ErrMissingPrefix", "loop.example/pub-g03023/pub/uint256.ErrEmptyNumber", "loop.example/pub-g03023/pub/uint256.ErrLeadingZero", "loop.example/pub-g03023/pub/uint256.ErrBig256Range", "loop.example/pub-g03023/pub/uint256.multipliers"] (by kernel_rfl) (by kernel_rfl)
theorem fnReadTextIs_row_tie : Rows.fnReadTextIsRow.laidByTextAt .later Tryd.pinned [.data, .data, .data, .sentinel, .sentinel, .sentinel, .sentinel, .sentinel, .sentinel, .sentinel, .sentinel, .sentinel, .widerDeep] true :=
  OpenClaim.laidByTextAt_later rfl rfl tie4 noOwnUnsafe
theorem fnReadJsonPlain_row_tie : Rows.fnReadJsonPlainRow.laidByTextAt .later Tryd.pinned [.data, .data, .data, .sentinel, .sentinel, .sentinel, .sentinel, .sentinel, .sentinel, .sentinel, .sentinel, .sentinel, .widerDeep] true :=
  OpenClaim.laidByTextAt_later rfl rfl tie4 noOwnUnsafe
theorem fnReadJsonQuoted_row_tie : Rows.fnReadJsonQuotedRow.laidByTextAt .later Tryd.pinned [.data, .data, .data, .sentinel, .sentinel, .sentinel, .sentinel, .sentinel, .sentinel, .sentinel, .sentinel, .sentinel, .widerDeep] true :=
  OpenClaim.laidByTextAt_later rfl rfl tie4 noOwnUnsafe
theorem fnFromHexIsUpto_row_tie : Rows.fnFromHexIsUptoRow.laidByTextAt .later Tryd.pinned [.sentinel, .sentinel, .sentinel, .sentinel, .sentinel, .sentinel] true :=
  OpenClaim.laidByTextAt_later rfl rfl tie noOwnUnsafe
theorem fnPrettyDecIsUpto_row_tie : Rows.fnPrettyDecIsUptoRow.laidByTextAt .later Tryd.pinned [.data, .data, .data] true :=
  OpenClaim.laidByTextAt_later rfl rfl tie2 noOwnUnsafe
theorem fnJsonIsUpto_row_tie : Rows.fnJsonIsUptoRow.laidByTextAt .later Tryd.pinned [.data, .data, .data] true :=
  OpenClaim.laidByTextAt_later rfl rfl tie2 noOwnUnsafe
theorem fnDecIsUpto_row_tie : Rows.fnDecIsUptoRow.laidByTextAt .later Tryd.pinned [.data, .data, .data] true :=
  OpenClaim.laidByTextAt_later rfl rfl tie2 noOwnUnsafe
theorem fnFromDecimalIsUpto_row_tie : Rows.fnFromDecimalIsUptoRow.laidByTextAt .later Tryd.pinned [.data, .data, .data, .sentinel, .sentinel, .sentinel, .sentinel, .widerDeep] true :=
  OpenClaim.laidByTextAt_later rfl rfl tie3 noOwnUnsafe
theorem fnReadTextIsUpto_row_tie : Rows.fnReadTextIsUptoRow.laidByTextAt .later Tryd.pinned [.data, .data, .data, .sentinel, .sentinel, .sentinel, .sentinel, .sentinel, .sentinel, .sentinel, .sentinel, .sentinel, .widerDeep] true :=
  OpenClaim.laidByTextAt_later rfl rfl tie4 noOwnUnsafe
theorem fnReadJsonPlainUpto_row_tie : Rows.fnReadJsonPlainUptoRow.laidByTextAt .later Tryd.pinned [.data, .data, .data, .sentinel, .sentinel, .sentinel, .sentinel, .sentinel, .sentinel, .sentinel, .sentinel, .sentinel, .widerDeep] true :=
  OpenClaim.laidByTextAt_later rfl rfl tie4 noOwnUnsafe
theorem fnReadJsonQuotedUpto_row_tie : Rows.fnReadJsonQuotedUptoRow.laidByTextAt .later Tryd.pinned [.data, .data, .data, .sentinel, .sentinel, .sentinel, .sentinel, .sentinel, .sentinel, .sentinel, .sentinel, .sentinel, .widerDeep] true :=
  OpenClaim.laidByTextAt_later rfl rfl tie4 noOwnUnsafe
end Go.Proofs.YtbgmeppidedfbaaDoor
