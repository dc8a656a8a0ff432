/-
  DERIVED. GIVEN WITH THE SEED: THE PROGRAM's TIES (one call each: nine closed facts by the kernel) AND EACH ROW's TIE, after the 31st guide's Derived/Test/Toyas{Tie, Card}.lean. No idea stands in it: it is a product of the set-up. Laid BY PROGRAM, IN A SANDBOX (cutbox-door.mjs). By AI agents, Wed Nov 11 2026. No macro, syntax, notation, axiom, sorry.
-/
import Derived.Test.YtnbbppjgamdfeaaGreatDoorRows
import Derived.LaidByTextLater
import Derived.SevenTiedAt
import Derived.LaidSub
import Derived.LaidOnce
namespace Go.Proofs.YtnbbppjgamdfeaaGreatDoor
open Go
set_option maxRecDepth 100000
theorem seatTie1 : Tryz.prog.laidByTextLater [("errors.errorType", Rows.laid_errors_errorType), ("io.ErrShortBuffer", Rows.laid_io_ErrShortBuffer), ("io.EOF", Rows.laid_io_EOF), ("io.ErrUnexpectedEOF", Rows.laid_io_ErrUnexpectedEOF), ("io.ErrNoProgress", Rows.laid_io_ErrNoProgress), ("loop.example/pub-g03471/pub/flate.codeOrder", Rows.laid_loop_example_pub_g03471_pub_flate_codeOrder), ("loop.example/pub-g03471/pub/zlib.ErrDictionary", Rows.laid_loop_example_pub_g03471_pub_zlib_ErrDictionary), ("loop.example/pub-g03471/pub/zlib.ErrHeader", Rows.laid_loop_example_pub_g03471_pub_zlib_ErrHeader), ("loop.example/pub-g03471/pub/png.interlacing", Rows.laid_loop_example_pub_g03471_pub_png_interlacing), ("loop.example/pub-g03471/pub/png.ieeeTable", Rows.laid_loop_example_pub_g03471_pub_png_ieeeTable)] [.handle, .sentinel, .sentinel, .sentinel, .sentinel, .data, .sentinel, .sentinel, .data, .data] true :=
  Program.laidByTextLater_by_one 205 8 257 (by kernel_rfl) (by kernel_rfl) (by kernel_rfl) (by kernel_rfl) (by kernel_rfl) (by kernel_rfl) (fun _ _ => by kernel_rfl)
theorem noOwnUnsafe : Tryz.pinned.checked.prog.headLifts.contains "ownunsafe" = false := by kernel_rfl
theorem tie : Tryz.prog.laidByTextLater [("errors.errorType", Rows.laid_errors_errorType), ("io.ErrShortBuffer", Rows.laid_io_ErrShortBuffer), ("io.EOF", Rows.laid_io_EOF), ("io.ErrUnexpectedEOF", Rows.laid_io_ErrUnexpectedEOF), ("io.ErrNoProgress", Rows.laid_io_ErrNoProgress), ("loop.example/pub-g03471/pub/flate.codeOrder", Rows.laid_loop_example_pub_g03471_pub_flate_codeOrder), ("loop.example/pub-g03471/pub/zlib.ErrDictionary", Rows.laid_loop_example_pub_g03471_pub_zlib_ErrDictionary), ("loop.example/pub-g03471/pub/zlib.ErrHeader", Rows.laid_loop_example_pub_g03471_pub_zlib_ErrHeader), ("loop.example/pub-g03471/pub/png.interlacing", Rows.laid_loop_example_pub_g03471_pub_png_interlacing), ("loop.example/pub-g03471/pub/png.ieeeTable", Rows.laid_loop_example_pub_g03471_pub_png_ieeeTable)] [.handle, .sentinel, .sentinel, .sentinel, .sentinel, .data, .sentinel, .sentinel, .data, .data] true :=
  Program.laidByTextLater.sub seatTie1 ["errors.errorType", "io.ErrShortBuffer", "io.EOF", "io.ErrUnexpectedEOF", "io.ErrNoProgress", "loop.example/pub-g03471/pub/flate.codeOrder", "loop.example/pub-g03471/pub/zlib.ErrDictionary", "loop.example/pub-g03471/pub/zlib.ErrHeader", "loop.example/pub-g03471/pub/png.interlacing", "loop.example/pub-g03471/pub/png.ieeeTable"] (by kernel_rfl) (by kernel_rfl)
theorem fnBack_row_tie : Rows.fnBackRow.laidByTextAt .later Tryz.pinned [.handle, .sentinel, .sentinel, .sentinel, .sentinel, .data, .sentinel, .sentinel, .data, .data] true :=
  OpenClaim.laidByTextAt_later rfl rfl tie noOwnUnsafe
theorem fnBackUpto_row_tie : Rows.fnBackUptoRow.laidByTextAt .later Tryz.pinned [.handle, .sentinel, .sentinel, .sentinel, .sentinel, .data, .sentinel, .sentinel, .data, .data] true :=
  OpenClaim.laidByTextAt_later rfl rfl tie noOwnUnsafe
end Go.Proofs.YtnbbppjgamdfeaaGreatDoor
