/-
  DERIVED. GIVEN WITH THE SEED: THE PROGRAM's TIES (one call each: nine closed facts by the kernel) AND EACH ROW's TIE, after the 31st guide's Derived/Test/Toyas{Tie, Card}.lean. No idea stands in it: it is a product of the set-up. Laid BY PROGRAM, IN A SANDBOX (cutbox-door.mjs). By AI agents, Wed Nov 11 2026. No macro, syntax, notation, axiom, sorry.
-/
import Derived.Test.YbulkbcpiDoorRows
import Derived.LaidByTextLater
import Derived.SevenTiedAt
import Derived.LaidSub
import Derived.LaidOnce
namespace Go.Proofs.YbulkbcpiDoor
open Go
set_option maxRecDepth 100000
theorem seatTie1 : Ybad.prog.laidByTextLater [("example.com/latchwork/latchwork/lock.ErrAlreadyLocked", Rows.laid_example_com_latchwork_latchwork_lock_ErrAlreadyLocked), ("example.com/latchwork/latchwork/lock.ErrNotLocked", Rows.laid_example_com_latchwork_latchwork_lock_ErrNotLocked), ("example.com/latchwork/latchwork/lock.ErrNotShared", Rows.laid_example_com_latchwork_latchwork_lock_ErrNotShared), ("example.com/latchwork/latchwork/lock.ErrRigorous", Rows.laid_example_com_latchwork_latchwork_lock_ErrRigorous), ("example.com/latchwork/latchwork/lock.ErrStrict", Rows.laid_example_com_latchwork_latchwork_lock_ErrStrict), ("example.com/latchwork/latchwork/lock.ErrShrinking", Rows.laid_example_com_latchwork_latchwork_lock_ErrShrinking), ("example.com/latchwork/latchwork/lock.ErrWaiting", Rows.laid_example_com_latchwork_latchwork_lock_ErrWaiting), ("example.com/latchwork/latchwork/lock.ErrDeadlock", Rows.laid_example_com_latchwork_latchwork_lock_ErrDeadlock)] [.sentinel, .sentinel, .sentinel, .sentinel, .sentinel, .sentinel, .sentinel, .sentinel] true :=
  Program.laidByTextLater_by_one 161 8 2 (by kernel_rfl) (by kernel_rfl) (by kernel_rfl) (by kernel_rfl) (by kernel_rfl) (by kernel_rfl) (fun _ _ => by kernel_rfl)
theorem noOwnUnsafe : Ybad.pinned.checked.prog.headLifts.contains "ownunsafe" = false := by kernel_rfl
theorem tie : Ybad.prog.laidByTextLater [("example.com/latchwork/latchwork/lock.ErrAlreadyLocked", Rows.laid_example_com_latchwork_latchwork_lock_ErrAlreadyLocked), ("example.com/latchwork/latchwork/lock.ErrNotLocked", Rows.laid_example_com_latchwork_latchwork_lock_ErrNotLocked), ("example.com/latchwork/latchwork/lock.ErrNotShared", Rows.laid_example_com_latchwork_latchwork_lock_ErrNotShared), ("example.com/latchwork/latchwork/lock.ErrRigorous", Rows.laid_example_com_latchwork_latchwork_lock_ErrRigorous), ("example.com/latchwork/latchwork/lock.ErrStrict", Rows.laid_example_com_latchwork_latchwork_lock_ErrStrict), ("example.com/latchwork/latchwork/lock.ErrShrinking", Rows.laid_example_com_latchwork_latchwork_lock_ErrShrinking), ("example.com/latchwork/latchwork/lock.ErrWaiting", Rows.laid_example_com_latchwork_latchwork_lock_ErrWaiting), ("example.com/latchwork/latchwork/lock.ErrDeadlock", Rows.laid_example_com_latchwork_latchwork_lock_ErrDeadlock)] [.sentinel, .sentinel, .sentinel, .sentinel, .sentinel, .sentinel, .sentinel, .sentinel] true :=
  Program.laidByTextLater.sub seatTie1 ["example.com/latchwork/latchwork/lock.ErrAlreadyLocked", "example.com/latchwork/latchwork/lock.ErrNotLocked", "example.com/latchwork/latchwork/lock.ErrNotShared", "example.com/latchwork/latchwork/lock.ErrRigorous", "example.com/latchwork/latchwork/lock.ErrStrict", "example.com/latchwork/latchwork/lock.ErrShrinking", "example.com/latchwork/latchwork/lock.ErrWaiting", "example.com/latchwork/latchwork/lock.ErrDeadlock"] (by kernel_rfl) (by kernel_rfl)
theorem lawS2686CRelease_row_tie : Rows.lawS2686CReleaseRow.laidByTextAt .later Ybad.pinned [.sentinel, .sentinel, .sentinel, .sentinel, .sentinel, .sentinel, .sentinel, .sentinel] true :=
  OpenClaim.laidByTextAt_later rfl rfl tie noOwnUnsafe
end Go.Proofs.YbulkbcpiDoor
