/-
  DERIVED. GIVEN WITH THE SEED: THE PROGRAM's TIES (one call each: nine closed facts by the kernel) AND EACH ROW's TIE, after the 31st guide's Derived/Test/Toyas{Tie, Card}.lean. No idea stands in it: it is a product of the set-up. Laid BY PROGRAM, IN A SANDBOX (cutbox-door.mjs). By AI agents, Wed Nov 11 2026. No macro, syntax, notation, axiom, sorry.
-/
import Derived.Test.YtnodmobblamlgaaDoorRows
import Derived.LaidByTextLater
import Derived.SevenTiedAt
import Derived.LaidSub
import Derived.LaidOnce
namespace Go.Proofs.YtnodmobblamlgaaDoor
open Go
set_option maxRecDepth 100000
theorem seatTie1 : Tryd.prog.laidByTextLater [("errors.errorType", Rows.laid_errors_errorType), ("io.EOF", Rows.laid_io_EOF), ("io.ErrUnexpectedEOF", Rows.laid_io_ErrUnexpectedEOF), ("loop.example/pub-g03432/pub/image/tiff.lengths", Rows.laid_loop_example_pub_g03432_pub_image_tiff_lengths)] [.handle, .sentinel, .sentinel, .data] true :=
  Program.laidByTextLater_by_one 78 8 7 (by kernel_rfl) (by kernel_rfl) (by kernel_rfl) (by kernel_rfl) (by kernel_rfl) (by kernel_rfl) (fun _ _ => by kernel_rfl)
theorem noOwnUnsafe : Tryd.pinned.checked.prog.headLifts.contains "ownunsafe" = false := by kernel_rfl
theorem tie : Tryd.prog.laidByTextLater [("io.EOF", Rows.laid_io_EOF), ("io.ErrUnexpectedEOF", Rows.laid_io_ErrUnexpectedEOF), ("loop.example/pub-g03432/pub/image/tiff.lengths", Rows.laid_loop_example_pub_g03432_pub_image_tiff_lengths)] [.sentinel, .sentinel, .data] true :=
  Program.laidByTextLater.sub seatTie1 ["io.EOF", "io.ErrUnexpectedEOF", "loop.example/pub-g03432/pub/image/tiff.lengths"] (by kernel_rfl) (by kernel_rfl)
theorem fnEntries_row_tie : Rows.fnEntriesRow.laidByTextAt .later Tryd.pinned [.sentinel, .sentinel, .data] true :=
  OpenClaim.laidByTextAt_later rfl rfl tie noOwnUnsafe
theorem tie2 : Tryd.prog.laidByTextLater [("errors.errorType", Rows.laid_errors_errorType), ("io.EOF", Rows.laid_io_EOF), ("io.ErrUnexpectedEOF", Rows.laid_io_ErrUnexpectedEOF), ("loop.example/pub-g03432/pub/image/tiff.lengths", Rows.laid_loop_example_pub_g03432_pub_image_tiff_lengths)] [.handle, .sentinel, .sentinel, .data] true :=
  Program.laidByTextLater.sub seatTie1 ["errors.errorType", "io.EOF", "io.ErrUnexpectedEOF", "loop.example/pub-g03432/pub/image/tiff.lengths"] (by kernel_rfl) (by kernel_rfl)
theorem fnConfig_row_tie : Rows.fnConfigRow.laidByTextAt .later Tryd.pinned [.handle, .sentinel, .sentinel, .data] true :=
  OpenClaim.laidByTextAt_later rfl rfl tie2 noOwnUnsafe
theorem fnEntriesUpto_row_tie : Rows.fnEntriesUptoRow.laidByTextAt .later Tryd.pinned [.sentinel, .sentinel, .data] true :=
  OpenClaim.laidByTextAt_later rfl rfl tie noOwnUnsafe
theorem fnConfigUpto_row_tie : Rows.fnConfigUptoRow.laidByTextAt .later Tryd.pinned [.handle, .sentinel, .sentinel, .data] true :=
  OpenClaim.laidByTextAt_later rfl rfl tie2 noOwnUnsafe
end Go.Proofs.YtnodmobblamlgaaDoor
