/-
  DERIVED. GIVEN WITH THE SEED: THE PROGRAM's TIES (one call each: nine closed facts by the kernel) AND EACH ROW's TIE, after the 31st guide's Derived/Test/Toyas{Tie, Card}.lean. No idea stands in it: it is a product of the set-up. Laid BY PROGRAM, IN A SANDBOX (cutbox-door.mjs). By AI agents, Wed Nov 11 2026. No macro, syntax, notation, axiom, sorry.
-/
import Derived.Test.YbulkbzyeFmtRows
import Derived.LaidByTextLater
import Derived.SevenTiedAt
import Derived.LaidSub
import Derived.LaidOnce
namespace Go.Proofs.YbulkbzyeFmt
open Go
set_option maxRecDepth 100000
theorem seatTie1 : Ybaf.prog.laidByTextLater [("errors.errorType", Rows.laid_errors_errorType), ("io.EOF", Rows.laid_io_EOF), ("io.ErrUnexpectedEOF", Rows.laid_io_ErrUnexpectedEOF), ("example.com/rankd/rankd/server.errTruncated", Rows.laid_example_com_rankd_rankd_server_errTruncated)] [.handle, .called, .called, .called] true :=
  Program.laidByTextLater_by_one 73 8 2 (by kernel_rfl) (by kernel_rfl) (by kernel_rfl) (by kernel_rfl) (by kernel_rfl) (by kernel_rfl) (fun _ _ => by kernel_rfl)
theorem noOwnUnsafe : Ybaf.pinned.checked.prog.headLifts.contains "ownunsafe" = false := by kernel_rfl
theorem tie : Ybaf.prog.laidByTextLater [("errors.errorType", Rows.laid_errors_errorType), ("io.EOF", Rows.laid_io_EOF), ("io.ErrUnexpectedEOF", Rows.laid_io_ErrUnexpectedEOF), ("example.com/rankd/rankd/server.errTruncated", Rows.laid_example_com_rankd_rankd_server_errTruncated)] [.handle, .called, .called, .called] true :=
  Program.laidByTextLater.sub seatTie1 ["errors.errorType", "io.EOF", "io.ErrUnexpectedEOF", "example.com/rankd/rankd/server.errTruncated"] (by kernel_rfl) (by kernel_rfl)
theorem lawS3813BClasses_row_tie : Rows.lawS3813BClassesRow.laidByTextAt .later Ybaf.pinned [.handle, .called, .called, .called] true :=
  OpenClaim.laidByTextAt_later rfl rfl tie noOwnUnsafe
end Go.Proofs.YbulkbzyeFmt
