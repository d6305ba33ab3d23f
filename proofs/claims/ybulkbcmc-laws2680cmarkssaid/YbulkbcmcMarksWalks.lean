/-
  Seat b2680a: LawS2680CMarks: the walks: TryLock, MarkRollingBack, the law.
-/
import Derived.Test.YbulkbcmcMarksLocks
import Derived.WalkKit
import Derived.Below
import Derived.Outline
import Derived.Laws.LoneSync
import Derived.Defers
namespace Go.Proofs.Ybulkbcmc.lawMarks
open Go.RowKit
open Go.MuLone

set_option maxRecDepth 100000 in
set_option maxHeartbeats 800000 in
theorem itry_free (a : Addr) (w : World) (hc : w.cell? a = some (.int .i32 0)) (hz : w.frozen? a = false) :
    Calls Yba.prog 8 #[.pointer (some a)] w fun e w' => e = .returned (.bool true) ∧ w' = w.setCell a (.int .i32 1) := by
  have hd := disable muLib
  have he := enable muLib
  have hr := acquire muLib
  have hcas := run_call_cas_hit (P := Yba.prog) muLib.f_cas32 (by kernel_rfl) (by kernel_rfl) (by kernel_rfl) .i32 (by kernel_rfl) (y := 1) hc hz
  have hc' : (w.setCell a (.int .i32 1)).cell? a = some (.int .i32 1) := by simp [go_sem, hc]
  have hcv := run_convert_to_unsafe (P := Yba.prog) (src := 109) (dst := 40) muLib.underlying_tPIMutex muLib.underlying_tUP muLib.room_tIMutex hc'
  go_enter Yba.func8, Yba.ntmps8
  go_wp2_with fail
  go_wp2
  go_ret
  exact ⟨rfl, rfl⟩

set_option maxHeartbeats 800000 in
theorem try_free (a : Addr) (w : World) (hc : w.cell? a = some (.int .i32 0)) (hz : w.frozen? a = false) :
    Calls Yba.prog 5 #[.pointer (some a)] w fun e w' => e = .returned (.bool true) ∧ w' = w.setCell a (.int .i32 1) := by
  go_enter Yba.func5, Yba.ntmps5
  go_wp2_with fail
  refine (itry_free a w hc hz).mono ?_
  rintro e w' ⟨rfl, rfl⟩
  go_wp2
  go_ret
  exact ⟨rfl, rfl⟩

set_option maxHeartbeats 800000 in
/-- MarkRollingBack, the manager's lock free: taken, the mark set, let go. -/
theorem mark_any (t m : Nat) (r : Value) (w : World) (hm : w.cell? ⟨t, 0, none⟩ = some (.pointer (some ⟨m, 0, none⟩))) (h0 : w.cell? ⟨m, 0, none⟩ = some (.int .i32 0)) (f0 : w.frozen? ⟨m, 0, none⟩ = false)
    (hr : w.cell? ⟨t, 9, none⟩ = some r) (fr : w.frozen? ⟨t, 9, none⟩ = false) :
    Calls Yba.prog 4 #[.pointer (some ⟨t, 0, none⟩)] w fun e w' => e = .returned (.tuple #[]) ∧
      w' = ((w.setCell ⟨m, 0, none⟩ (.int .i32 1)).setCell ⟨t, 9, none⟩ (.bool true)).setCell ⟨m, 0, none⟩ (.int .i32 0) := by
  go_enter_defers Yba.func4, Yba.ntmps4
  go_wp2_with (go_at_call 7; refine (lock_free muLib ⟨m, 0, none⟩ _ h0 f0).mono ?_; rintro e w' ⟨rfl, rfl⟩)
  refine leaves_cons (f := 6) (args := #[.pointer (some ⟨m, 0, none⟩)]) (by simp) (by simp [go_sem]) ?_
  refine (unlock_deferred muLib ⟨m, 0, none⟩ .returning _ ?_ ?_).mono ?_
  · exact (World.cell?_setCell_other _ ⟨t, 9, none⟩ ⟨m, 0, none⟩ _ (by simp)).trans (World.cell?_setCell_same w ⟨m, 0, none⟩ (.int .i32 1) h0)
  · simp [f0]
  rintro e u' w'' ⟨rfl, rfl, rfl⟩
  exact ⟨_, results_none rfl _ _ _, rfl, rfl⟩
end Go.Proofs.Ybulkbcmc.lawMarks
