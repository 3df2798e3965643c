/-
  DERIVED. GIVEN WITH THE SEED: THE PROGRAM's TIES (one call each: nine closed facts by the kernel) AND EACH ROW's TIE, after the 31st guide's Derived/Test/Toyas{Tie, Card}.lean. No idea stands in it: it is a product of the set-up. Laid BY PROGRAM, IN A SANDBOX (cutbox-door.mjs). By AI agents, Wed Nov 11 2026. No macro, syntax, notation, axiom, sorry.
-/
import Derived.Test.YbulkdbluDoorRows
import Derived.LaidByTextLater
import Derived.SevenTiedAt
import Derived.LaidSub
import Derived.LaidOnce
namespace Go.Proofs.YbulkdbluDoor
open Go
set_option maxRecDepth 100000
theorem seatTie1 : Ybad.prog.laidByTextLater [("io.EOF", Rows.laid_io_EOF), ("example.com/sinefold/sinefold.errNoPredictor", Rows.laid_example_com_sinefold_sinefold_errNoPredictor)] [.sentinel, .sentinel] true :=
  Program.laidByTextLater_by_one 47 8 2 (by kernel_rfl) (by kernel_rfl) (by kernel_rfl) (by kernel_rfl) (by kernel_rfl) (by kernel_rfl) (fun _ _ => by kernel_rfl)
theorem noOwnUnsafe : Ybad.pinned.checked.prog.headLifts.contains "ownunsafe" = false := by kernel_rfl
theorem tie : Ybad.prog.laidByTextLater [("example.com/sinefold/sinefold.errNoPredictor", Rows.laid_example_com_sinefold_sinefold_errNoPredictor)] [.sentinel] true :=
  Program.laidByTextLater.sub seatTie1 ["example.com/sinefold/sinefold.errNoPredictor"] (by kernel_rfl) (by kernel_rfl)
theorem lawS5142BExact_row_tie : Rows.lawS5142BExactRow.laidByTextAt .later Ybad.pinned [.sentinel] true :=
  OpenClaim.laidByTextAt_later rfl rfl tie noOwnUnsafe
theorem lawS5142BRefuse_row_tie : Rows.lawS5142BRefuseRow.laidByTextAt .later Ybad.pinned [.sentinel] true :=
  OpenClaim.laidByTextAt_later rfl rfl tie noOwnUnsafe
theorem tie2 : Ybad.prog.laidByTextLater [("io.EOF", Rows.laid_io_EOF)] [.sentinel] true :=
  Program.laidByTextLater.sub seatTie1 ["io.EOF"] (by kernel_rfl) (by kernel_rfl)
theorem lawS5142CFill_row_tie : Rows.lawS5142CFillRow.laidByTextAt .later Ybad.pinned [.sentinel] true :=
  OpenClaim.laidByTextAt_later rfl rfl tie2 noOwnUnsafe
end Go.Proofs.YbulkdbluDoor
