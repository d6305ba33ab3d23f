/-
  Seat b2686aD: the small functions of the lock manager that only read.
-/
import Derived.Test.YbulkbcpiDoorRMaps
namespace Go.Proofs.YbulkbcpiDoor.rel
open Go.RowKit

theorem compat (a b : Nat) (w : World) : Calls Ybad.prog 65 #[.int .i64 a, .int .i64 b] w fun e w' => e = .returned (.bool (decide (a = 0) && decide (b = 0))) ∧ w' = w := by
  by_cases ha : a = 0
  · subst ha
    by_cases hb : b = 0
    · subst hb
      go_enter Ybad.func65, Ybad.ntmps65
      go_wp2
      go_ret
      exact ⟨rfl, rfl⟩
    · have hb' : ((b : Int) == 0) = false := by rw [beq_eq_false_iff_ne]; omega
      go_enter Ybad.func65, Ybad.ntmps65
      go_wp2
      go_ret
      exact ⟨by simp [hb], rfl⟩
  · have ha' : ((a : Int) == 0) = false := by rw [beq_eq_false_iff_ne]; omega
    go_enter Ybad.func65, Ybad.ntmps65
    go_wp2
    go_ret
    exact ⟨by simp [ha], rfl⟩

theorem idx0 (a b : Int) (w : World) : (Instr.index 85 (.agg #[.int .i64 a, .int .i64 b]) (.int .i64 0)).run Ybad.prog w = .ok (.int .i64 a) w := by kernel_rfl
theorem idx1 (a b : Int) (w : World) : (Instr.index 85 (.agg #[.int .i64 a, .int .i64 b]) (.int .i64 1)).run Ybad.prog w = .ok (.int .i64 b) w := by kernel_rfl
attribute [local go_sem] idx0 idx1

def okAll (m : Nat) (c0 c1 : Int) : Bool := (!decide (0 < c0) || decide (m = 0)) && !decide (0 < c1)

set_option maxRecDepth 50000 in
set_option maxHeartbeats 1000000 in
theorem compatAll (m : Nat) (c0 c1 : Int) (w : World) : Calls Ybad.prog 58 #[.int .i64 m, .agg #[.int .i64 c0, .int .i64 c1]] w fun e w' => e = .returned (.bool (okAll m c0 c1)) ∧ w' = w.alloc (.cells #[.int .i64 c0, .int .i64 c1] 85) := by
  by_cases h0 : 0 < c0
  · by_cases hm : m = 0
    · subst hm
      by_cases h1 : 0 < c1
      · go_enter Ybad.func58, Ybad.ntmps58
        go_wp2
        refine wp_loop_rounds 3 ?_
        rw [rounds_succ]
        go_wp2_with fail
        refine (compat 0 0 _).mono ?_
        rintro e w1 ⟨rfl, rfl⟩
        go_wp2
        rw [rounds_succ]
        go_wp2_with fail
        refine (compat 0 1 _).mono ?_
        rintro e w1 ⟨rfl, rfl⟩
        go_wp2
        go_ret
        exact ⟨by simp [okAll, h1], rfl⟩
      · go_enter Ybad.func58, Ybad.ntmps58
        go_wp2
        refine wp_loop_rounds 3 ?_
        rw [rounds_succ]
        go_wp2_with fail
        refine (compat 0 0 _).mono ?_
        rintro e w1 ⟨rfl, rfl⟩
        go_wp2
        rw [rounds_succ]
        go_wp2
        rw [rounds_succ]
        go_wp2
        go_ret
        exact ⟨by simp [okAll]; omega, rfl⟩
    · go_enter Ybad.func58, Ybad.ntmps58
      go_wp2
      refine wp_loop_rounds 3 ?_
      rw [rounds_succ]
      go_wp2_with fail
      refine (compat m 0 _).mono ?_
      rintro e w1 ⟨rfl, rfl⟩
      have hx : (decide (m = 0) && decide (0 = 0)) = false := by simp [hm]
      rw [hx]
      go_wp2
      go_ret
      exact ⟨by simp [okAll, hm, h0], rfl⟩
  · by_cases h1 : 0 < c1
    · go_enter Ybad.func58, Ybad.ntmps58
      go_wp2
      refine wp_loop_rounds 3 ?_
      rw [rounds_succ]
      go_wp2
      rw [rounds_succ]
      go_wp2_with fail
      refine (compat m 1 _).mono ?_
      rintro e w1 ⟨rfl, rfl⟩
      have hx : (decide (m = 0) && decide (1 = 0)) = false := by simp
      rw [hx]
      go_wp2
      go_ret
      exact ⟨by simp [okAll, h1], rfl⟩
    · go_enter Ybad.func58, Ybad.ntmps58
      go_wp2
      refine wp_loop_rounds 3 ?_
      rw [rounds_succ]
      go_wp2
      rw [rounds_succ]
      go_wp2
      rw [rounds_succ]
      go_wp2
      go_ret
      exact ⟨by simp [okAll]; omega, rfl⟩

end Go.Proofs.YbulkbcpiDoor.rel
