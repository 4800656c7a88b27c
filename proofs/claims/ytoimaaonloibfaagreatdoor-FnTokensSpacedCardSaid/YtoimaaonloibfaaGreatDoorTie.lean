/-
  DERIVED. GIVEN WITH THE SEED: THE PROGRAM's TIES (one call each: nine closed facts by the kernel) AND EACH ROW's TIE, after the 31st guide's Derived/Test/Toyas{Tie, Card}.lean. No idea stands in it: it is a product of the set-up. Laid BY PROGRAM, IN A SANDBOX (cutbox-door.mjs). By AI agents, Wed Nov 11 2026. No macro, syntax, notation, axiom, sorry.
-/
import Derived.Test.YtoimaaonloibfaaGreatDoorRows
import Derived.LaidByTextLater
import Derived.SevenTiedAt
import Derived.LaidSub
import Derived.LaidOnce
namespace Go.Proofs.YtoimaaonloibfaaGreatDoor
open Go
set_option maxRecDepth 100000
theorem seatTie1 : Tryz.prog.laidByTextLater [("math/bits.deBruijn32tab", Rows.laid_math_bits_deBruijn32tab), ("math/bits.deBruijn64tab", Rows.laid_math_bits_deBruijn64tab), ("internal/strconv.uint64pow10", Rows.laid_internal_strconv_uint64pow10), ("strconv.ErrRange", Rows.laid_strconv_ErrRange), ("strconv.ErrSyntax", Rows.laid_strconv_ErrSyntax), ("io.EOF", Rows.laid_io_EOF), ("io.ErrNoProgress", Rows.laid_io_ErrNoProgress), ("bytes.ErrTooLarge", Rows.laid_bytes_ErrTooLarge), ("bufio.ErrInvalidUnreadByte", Rows.laid_bufio_ErrInvalidUnreadByte), ("bufio.errNegativeRead", Rows.laid_bufio_errNegativeRead), ("loop.example/pub-g01442/pub/lua/parse.reservedWords", Rows.laid_loop_example_pub_g01442_pub_lua_parse_reservedWords), ("loop.example/pub-g01442/pub/lua/parse.yyToknames", Rows.laid_loop_example_pub_g01442_pub_lua_parse_yyToknames)] [.data, .data, .data, .sentinel, .sentinel, .sentinel, .sentinel, .sentinel, .sentinel, .sentinel, .mapped, .data] true :=
  Program.laidByTextLater_by_one 277 8 65 (by kernel_rfl) (by kernel_rfl) (by kernel_rfl) (by kernel_rfl) (by kernel_rfl) (by kernel_rfl) (fun _ _ => by kernel_rfl)
theorem noOwnUnsafe : Tryz.pinned.checked.prog.headLifts.contains "ownunsafe" = false := by kernel_rfl
theorem tie : Tryz.prog.laidByTextLater [("math/bits.deBruijn32tab", Rows.laid_math_bits_deBruijn32tab), ("math/bits.deBruijn64tab", Rows.laid_math_bits_deBruijn64tab), ("internal/strconv.uint64pow10", Rows.laid_internal_strconv_uint64pow10), ("strconv.ErrRange", Rows.laid_strconv_ErrRange), ("strconv.ErrSyntax", Rows.laid_strconv_ErrSyntax), ("io.EOF", Rows.laid_io_EOF), ("io.ErrNoProgress", Rows.laid_io_ErrNoProgress), ("bytes.ErrTooLarge", Rows.laid_bytes_ErrTooLarge), ("bufio.ErrInvalidUnreadByte", Rows.laid_bufio_ErrInvalidUnreadByte), ("bufio.errNegativeRead", Rows.laid_bufio_errNegativeRead), ("loop.example/pub-g01442/pub/lua/parse.reservedWords", Rows.laid_loop_example_pub_g01442_pub_lua_parse_reservedWords), ("loop.example/pub-g01442/pub/lua/parse.yyToknames", Rows.laid_loop_example_pub_g01442_pub_lua_parse_yyToknames)] [.data, .data, .data, .sentinel, .sentinel, .sentinel, .sentinel, .sentinel, .sentinel, .sentinel, .mapped, .data] true :=
  Program.laidByTextLater.sub seatTie1 ["math/bits.deBruijn32tab", "math/bits.deBruijn64tab", "internal/strconv.uint64pow10", "strconv.ErrRange", "strconv.ErrSyntax", "io.EOF", "io.ErrNoProgress", "bytes.ErrTooLarge", "bufio.ErrInvalidUnreadByte", "bufio.errNegativeRead", "loop.example/pub-g01442/pub/lua/parse.reservedWords", "loop.example/pub-g01442/pub/lua/parse.yyToknames"] (by kernel_rfl) (by kernel_rfl)
theorem fnTokensSpaced_row_tie : Rows.fnTokensSpacedRow.laidByTextAt .later Tryz.pinned [.data, .data, .data, .sentinel, .sentinel, .sentinel, .sentinel, .sentinel, .sentinel, .sentinel, .mapped, .data] true :=
  OpenClaim.laidByTextAt_later rfl rfl tie noOwnUnsafe
theorem fnTokensSpacedUpto_row_tie : Rows.fnTokensSpacedUptoRow.laidByTextAt .later Tryz.pinned [.data, .data, .data, .sentinel, .sentinel, .sentinel, .sentinel, .sentinel, .sentinel, .sentinel, .mapped, .data] true :=
  OpenClaim.laidByTextAt_later rfl rfl tie noOwnUnsafe
end Go.Proofs.YtoimaaonloibfaaGreatDoor
