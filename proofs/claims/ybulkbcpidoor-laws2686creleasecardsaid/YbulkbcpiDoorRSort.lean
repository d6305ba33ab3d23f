/-
  Seat b2686aD: nothing to sort; no declared sets.
-/
import Derived.Test.YbulkbcpiDoorRGq2
namespace Go.Proofs.YbulkbcpiDoor.rel
open Go.RowKit

theorem insSort0 (f : Value) (w : World) : Calls Ybad.prog 68 #[.slice none 0 0, .int .i64 0, .int .i64 0, f] w fun e w' => e = .returned (.tuple #[]) ∧ w' = w := by
  go_enter Ybad.func68, Ybad.ntmps68
  go_wp2
  refine wp_loop_rounds 1 ?_
  rw [rounds_succ]
  go_wp2
  go_end0
  exact ⟨rfl, rfl⟩

theorem pdq0 (n : Int) (f : Value) (w : World) : Calls Ybad.prog 61 #[.slice none 0 0, .int .i64 0, .int .i64 0, .int .i64 n, f] w fun e w' => e = .returned (.tuple #[]) ∧ w' = w := by
  go_enter Ybad.func61, Ybad.ntmps61
  go_wp2
  refine wp_loop_rounds 1 ?_
  rw [rounds_succ]
  go_wp2_with fail
  refine (insSort0 f w).mono ?_
  rintro e w1 ⟨rfl, rfl⟩
  go_wp2
  exact bodyPost_ret (by simp [results, Ybad.results61, go_sem]) rfl ⟨rfl, rfl⟩

set_option maxRecDepth 100000 in
set_option maxHeartbeats 2000000 in
theorem len64 (w : World) : Calls Ybad.prog 77 #[.int .u64 0] w fun e w' => (∃ n : Int, e = .returned (.int .i64 n)) ∧ w' = w := by
  go_enter Ybad.func77, Ybad.ntmps77
  go_wp2
  go_ret
  exact ⟨⟨_, rfl⟩, rfl⟩

set_option maxRecDepth 100000 in
theorem lenU (w : World) : Calls Ybad.prog 62 #[.int .u64 0] w fun e w' => (∃ n : Int, e = .returned (.int .i64 n)) ∧ w' = w := by
  go_enter Ybad.func62, Ybad.ntmps62
  go_wp2_with fail
  refine (len64 w).mono ?_
  rintro e w1 ⟨⟨n, rfl⟩, rfl⟩
  go_wp2
  go_ret
  exact ⟨⟨_, rfl⟩, rfl⟩

set_option maxRecDepth 100000 in
theorem sort0 (f : Value) (w : World) : Calls Ybad.prog 47 #[.slice none 0 0, f] w fun e w' => e = .returned (.tuple #[]) ∧ w' = w := by
  go_enter Ybad.func47, Ybad.ntmps47
  go_wp2_with fail
  refine (lenU w).mono ?_
  rintro e w1 ⟨⟨n, rfl⟩, rfl⟩
  go_wp2_with fail
  refine (pdq0 n f w1).mono ?_
  rintro e w2 ⟨rfl, rfl⟩
  go_wp2
  go_end0
  exact ⟨rfl, rfl⟩

theorem grantSets (M : Nat) (gv : Value) (w : World) : Calls Ybad.prog 32 #[.pointer (some ⟨M, 0, none⟩), gv, .slice none 0 0] w fun e w' => e = .returned gv ∧ Below w.heap.size w w' := by
  go_enter Ybad.func32, Ybad.ntmps32
  go_wp2
  refine wp_loop_rounds 1 ?_
  rw [rounds_succ]
  go_wp2_with fail
  refine (sort0 _ _).mono ?_
  rintro e w2 ⟨rfl, rfl⟩
  go_wp2
  refine wp_loop_rounds 1 ?_
  rw [rounds_succ]
  go_wp2
  go_ret
  exact ⟨rfl, (Below.refl _ _).alloc (Nat.le_refl _) _⟩

end Go.Proofs.YbulkbcpiDoor.rel
