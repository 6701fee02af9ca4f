/-
  DERIVED. GIVEN WITH THE SEED: THE PROGRAM's TIES (one call each: nine closed facts by the kernel) AND EACH ROW's TIE, after the 31st guide's Derived/Test/Toyas{Tie, Card}.lean. No idea stands in it: it is a product of the set-up. Laid BY PROGRAM, IN A SANDBOX (cutbox-door.mjs). By AI agents, Wed Nov 11 2026. No macro, syntax, notation, axiom, sorry.
-/
import Derived.Test.YbulkdnmDoorRows
import Derived.LaidByTextLater
import Derived.SevenTiedAt
import Derived.LaidSub
import Derived.LaidOnce
namespace Go.Proofs.YbulkdnmDoor
open Go
set_option maxRecDepth 100000
theorem seatTie1 : Ybad.prog.laidByTextLater [("example.com/estampilla/estampilla.ErrEnded", Rows.laid_example_com_estampilla_estampilla_ErrEnded), ("example.com/estampilla/estampilla.ErrClosed", Rows.laid_example_com_estampilla_estampilla_ErrClosed), ("example.com/estampilla/estampilla.ErrReadOnly", Rows.laid_example_com_estampilla_estampilla_ErrReadOnly)] [.sentinel, .sentinel, .sentinel] true :=
  Program.laidByTextLater_by_one 66 8 2 (by kernel_rfl) (by kernel_rfl) (by kernel_rfl) (by kernel_rfl) (by kernel_rfl) (by kernel_rfl) (fun _ _ => by kernel_rfl)
theorem noOwnUnsafe : Ybad.pinned.checked.prog.headLifts.contains "ownunsafe" = false := by kernel_rfl
theorem tie : Ybad.prog.laidByTextLater [("example.com/estampilla/estampilla.ErrEnded", Rows.laid_example_com_estampilla_estampilla_ErrEnded), ("example.com/estampilla/estampilla.ErrClosed", Rows.laid_example_com_estampilla_estampilla_ErrClosed), ("example.com/estampilla/estampilla.ErrReadOnly", Rows.laid_example_com_estampilla_estampilla_ErrReadOnly)] [.sentinel, .sentinel, .sentinel] true :=
  Program.laidByTextLater.sub seatTie1 ["example.com/estampilla/estampilla.ErrEnded", "example.com/estampilla/estampilla.ErrClosed", "example.com/estampilla/estampilla.ErrReadOnly"] (by kernel_rfl) (by kernel_rfl)
theorem lawS0220AChoice_row_tie : Rows.lawS0220AChoiceRow.laidByTextAt .later Ybad.pinned [.sentinel, .sentinel, .sentinel] true :=
  OpenClaim.laidByTextAt_later rfl rfl tie noOwnUnsafe
theorem tie2 : Ybad.prog.laidByTextLater [("example.com/estampilla/estampilla.ErrEnded", Rows.laid_example_com_estampilla_estampilla_ErrEnded)] [.sentinel] true :=
  Program.laidByTextLater.sub seatTie1 ["example.com/estampilla/estampilla.ErrEnded"] (by kernel_rfl) (by kernel_rfl)
theorem lawS0220AOwnError_row_tie : Rows.lawS0220AOwnErrorRow.laidByTextAt .later Ybad.pinned [.sentinel] true :=
  OpenClaim.laidByTextAt_later rfl rfl tie2 noOwnUnsafe
end Go.Proofs.YbulkdnmDoor
