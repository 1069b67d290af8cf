/-
  DERIVED. GIVEN WITH THE SEED: THE PROGRAM's TIES (one call each: nine closed facts by the kernel) AND EACH ROW's TIE, after the 31st guide's Derived/Test/Toyas{Tie, Card}.lean. No idea stands in it: it is a product of the set-up. Laid BY PROGRAM, IN A SANDBOX (cutbox-door.mjs). By AI agents, Wed Nov 11 2026. No macro, syntax, notation, axiom, sorry.
-/
import Derived.Test.YbulkbzuyDoorRows
import Derived.LaidByTextLater
import Derived.SevenTiedAt
import Derived.LaidSub
import Derived.LaidOnce
namespace Go.Proofs.YbulkbzuyDoor
open Go
set_option maxRecDepth 100000
theorem seatTie1 : Ybad.prog.laidByTextLater [("example.com/scalewright/scalewright.fieldFacts", Rows.laid_example_com_scalewright_scalewright_fieldFacts), ("example.com/scalewright/scalewright.pow10", Rows.laid_example_com_scalewright_scalewright_pow10)] [.widerDeep, .called] true :=
  Program.laidByTextLater_by_one 542 8 49 (by kernel_rfl) (by kernel_rfl) (by kernel_rfl) (by kernel_rfl) (by kernel_rfl) (by kernel_rfl) (fun _ _ => by kernel_rfl)
theorem noOwnUnsafe : Ybad.pinned.checked.prog.headLifts.contains "ownunsafe" = false := by kernel_rfl
theorem tie : Ybad.prog.laidByTextLater [("example.com/scalewright/scalewright.fieldFacts", Rows.laid_example_com_scalewright_scalewright_fieldFacts), ("example.com/scalewright/scalewright.pow10", Rows.laid_example_com_scalewright_scalewright_pow10)] [.widerDeep, .called] true :=
  Program.laidByTextLater.sub seatTie1 ["example.com/scalewright/scalewright.fieldFacts", "example.com/scalewright/scalewright.pow10"] (by kernel_rfl) (by kernel_rfl)
theorem lawS3807CExact_row_tie : Rows.lawS3807CExactRow.laidByTextAt .later Ybad.pinned [.widerDeep, .called] true :=
  OpenClaim.laidByTextAt_later rfl rfl tie noOwnUnsafe
theorem lawS3807CDivides_row_tie : Rows.lawS3807CDividesRow.laidByTextAt .later Ybad.pinned [.widerDeep, .called] true :=
  OpenClaim.laidByTextAt_later rfl rfl tie noOwnUnsafe
end Go.Proofs.YbulkbzuyDoor
