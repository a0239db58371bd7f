/-
  DERIVED. GIVEN WITH THE SEED: THE PROGRAM's TIES (one call each: nine closed facts by the kernel) AND EACH ROW's TIE, after the 31st guide's Derived/Test/Toyas{Tie, Card}.lean. No idea stands in it: it is a product of the set-up. Laid BY PROGRAM, IN A SANDBOX (cutbox-door.mjs). By AI agents, Wed Nov 11 2026. No macro, syntax, notation, axiom, sorry.
-/
import Derived.Test.YtflppablgdegcaaGreatDoorRows
import Derived.LaidByTextLater
import Derived.SevenTiedAt
import Derived.LaidSub
import Derived.LaidOnce
namespace Go.Proofs.YtflppablgdegcaaGreatDoor
open Go
set_option maxRecDepth 100000
theorem seatTie1 : Tryz.prog.laidByTextLater [("math/bits.deBruijn32tab", Rows.laid_math_bits_deBruijn32tab), ("math/bits.deBruijn64tab", Rows.laid_math_bits_deBruijn64tab), ("internal/strconv.float64info", Rows.laid_internal_strconv_float64info), ("internal/strconv.optimize", Rows.laid_internal_strconv_optimize), ("internal/strconv.float64pow10", Rows.laid_internal_strconv_float64pow10), ("io.EOF", Rows.laid_io_EOF), ("bytes.asciiSpace", Rows.laid_bytes_asciiSpace), ("strings.asciiSpace", Rows.laid_strings_asciiSpace), ("loop.example/pub-g03455/pub/m3u8.ErrPlaylistFull", Rows.laid_loop_example_pub_g03455_pub_m3u8_ErrPlaylistFull)] [.data, .data, .widerDeep, .data, .data, .sentinel, .data, .data, .sentinel] true :=
  Program.laidByTextLater_by_one 206 8 257 (by kernel_rfl) (by kernel_rfl) (by kernel_rfl) (by kernel_rfl) (by kernel_rfl) (by kernel_rfl) (fun _ _ => by kernel_rfl)
theorem seatTie2 : Tryz.prog.laidByTextLater [("math/bits.deBruijn32tab", Rows.laid_math_bits_deBruijn32tab), ("math/bits.deBruijn64tab", Rows.laid_math_bits_deBruijn64tab), ("internal/strconv.float64info", Rows.laid_internal_strconv_float64info), ("internal/strconv.optimize", Rows.laid_internal_strconv_optimize), ("internal/strconv.float64pow10", Rows.laid_internal_strconv_float64pow10), ("strconv.ErrSyntax", Rows.laid_strconv_ErrSyntax), ("io.EOF", Rows.laid_io_EOF), ("bytes.asciiSpace", Rows.laid_bytes_asciiSpace), ("strings.asciiSpace", Rows.laid_strings_asciiSpace), ("loop.example/pub-g03455/pub/m3u8.ErrPlaylistFull", Rows.laid_loop_example_pub_g03455_pub_m3u8_ErrPlaylistFull)] [.data, .data, .widerDeep, .data, .data, .sentinel, .sentinel, .data, .data, .sentinel] true :=
  Program.laidByTextLater_by_one 206 8 257 (by kernel_rfl) (by kernel_rfl) (by kernel_rfl) (by kernel_rfl) (by kernel_rfl) (by kernel_rfl) (fun _ _ => by kernel_rfl)
theorem noOwnUnsafe : Tryz.pinned.checked.prog.headLifts.contains "ownunsafe" = false := by kernel_rfl
theorem tie : Tryz.prog.laidByTextLater [("math/bits.deBruijn32tab", Rows.laid_math_bits_deBruijn32tab), ("math/bits.deBruijn64tab", Rows.laid_math_bits_deBruijn64tab), ("internal/strconv.float64info", Rows.laid_internal_strconv_float64info), ("internal/strconv.optimize", Rows.laid_internal_strconv_optimize), ("internal/strconv.float64pow10", Rows.laid_internal_strconv_float64pow10), ("io.EOF", Rows.laid_io_EOF), ("bytes.asciiSpace", Rows.laid_bytes_asciiSpace), ("strings.asciiSpace", Rows.laid_strings_asciiSpace), ("loop.example/pub-g03455/pub/m3u8.ErrPlaylistFull", Rows.laid_loop_example_pub_g03455_pub_m3u8_ErrPlaylistFull)] [.data, .data, .widerDeep, .data, .data, .sentinel, .data, .data, .sentinel] true :=
  Program.laidByTextLater.sub seatTie1 ["math/bits.deBruijn32tab", "math/bits.deBruijn64tab", "internal/strconv.float64info", "internal/strconv.optimize", "internal/strconv.float64pow10", "io.EOF", "bytes.asciiSpace", "strings.asciiSpace", "loop.example/pub-g03455/pub/m3u8.ErrPlaylistFull"] (by kernel_rfl) (by kernel_rfl)
theorem fnGrow_row_tie : Rows.fnGrowRow.laidByTextAt .later Tryz.pinned [.data, .data, .widerDeep, .data, .data, .sentinel, .data, .data, .sentinel] true :=
  OpenClaim.laidByTextAt_later rfl rfl tie noOwnUnsafe
theorem tie2 : Tryz.prog.laidByTextLater [("math/bits.deBruijn32tab", Rows.laid_math_bits_deBruijn32tab), ("math/bits.deBruijn64tab", Rows.laid_math_bits_deBruijn64tab), ("internal/strconv.float64info", Rows.laid_internal_strconv_float64info), ("internal/strconv.optimize", Rows.laid_internal_strconv_optimize), ("internal/strconv.float64pow10", Rows.laid_internal_strconv_float64pow10), ("strconv.ErrSyntax", Rows.laid_strconv_ErrSyntax), ("io.EOF", Rows.laid_io_EOF), ("bytes.asciiSpace", Rows.laid_bytes_asciiSpace), ("strings.asciiSpace", Rows.laid_strings_asciiSpace), ("loop.example/pub-g03455/pub/m3u8.ErrPlaylistFull", Rows.laid_loop_example_pub_g03455_pub_m3u8_ErrPlaylistFull)] [.data, .data, .widerDeep, .data, .data, .sentinel, .sentinel, .data, .data, .sentinel] true :=
  Program.laidByTextLater.sub seatTie2 ["math/bits.deBruijn32tab", "math/bits.deBruijn64tab", "internal/strconv.float64info", "internal/strconv.optimize", "internal/strconv.float64pow10", "strconv.ErrSyntax", "io.EOF", "bytes.asciiSpace", "strings.asciiSpace", "loop.example/pub-g03455/pub/m3u8.ErrPlaylistFull"] (by kernel_rfl) (by kernel_rfl)
theorem fnNoNumber_row_tie : Rows.fnNoNumberRow.laidByTextAt .later Tryz.pinned [.data, .data, .widerDeep, .data, .data, .sentinel, .sentinel, .data, .data, .sentinel] true :=
  OpenClaim.laidByTextAt_later rfl rfl tie2 noOwnUnsafe
theorem fnGrowUpto_row_tie : Rows.fnGrowUptoRow.laidByTextAt .later Tryz.pinned [.data, .data, .widerDeep, .data, .data, .sentinel, .data, .data, .sentinel] true :=
  OpenClaim.laidByTextAt_later rfl rfl tie noOwnUnsafe
theorem fnNoNumberUpto_row_tie : Rows.fnNoNumberUptoRow.laidByTextAt .later Tryz.pinned [.data, .data, .widerDeep, .data, .data, .sentinel, .sentinel, .data, .data, .sentinel] true :=
  OpenClaim.laidByTextAt_later rfl rfl tie2 noOwnUnsafe
end Go.Proofs.YtflppablgdegcaaGreatDoor
