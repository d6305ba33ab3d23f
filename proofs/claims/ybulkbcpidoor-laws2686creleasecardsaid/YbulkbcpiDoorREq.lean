/-
  Seat b2686aD: equality of views and of tallies.
-/
import Derived.Test.YbulkbcpiDoorRLook2
import Derived.ChangeKeysEq
import Derived.Laws.StructEq
namespace Go.Proofs.YbulkbcpiDoor.rel
open Go.RowKit

theorem eq47 (w : World) (a b : Int) : (binOp .eql 47 (.agg #[.int .i64 a, .int .i64 b]) (.agg #[.int .i64 a, .int .i64 b])).run Ybad.prog w = .ok (.bool true) w := by
  simp [go_sem]

theorem Ybad.cells4 : Ybad.prog.cellsOf 4 = 1 := by kernel_rfl
theorem Ybad.cells9 : Ybad.prog.cellsOf 9 = 1 := by kernel_rfl
theorem Ybad.cells39 : Ybad.prog.cellsOf 39 = 3 := by kernel_rfl
theorem Ybad.some4 : (Ybad.prog.info? 4).isSome = true := by kernel_rfl
theorem Ybad.some9 : (Ybad.prog.info? 9).isSome = true := by kernel_rfl
theorem Ybad.some39 : (Ybad.prog.info? 39).isSome = true := by kernel_rfl

theorem eq39 (w : World) (d : Nat) (xs ys : Array Value) : (Op.equalIn (d + 1) 39 (.agg xs) (.agg ys)).run Ybad.prog w = (Op.eqItems d 4 1 xs ys [0, 1, 2]).run Ybad.prog w := by
  obtain ⟨i, hi⟩ := Option.isSome_iff_exists.1 Ybad.some4
  have := run_equalIn_array w d xs ys Ybad.underlying39 hi
  rw [Ybad.cells4] at this
  exact this
theorem eq40 (w : World) (d : Nat) (xs ys : Array Value) : (Op.equalIn (d + 1) 40 (.agg xs) (.agg ys)).run Ybad.prog w = (Op.eqItems d 39 3 xs ys [0, 1, 2, 3]).run Ybad.prog w := by
  obtain ⟨i, hi⟩ := Option.isSome_iff_exists.1 Ybad.some39
  have := run_equalIn_array w d xs ys Ybad.underlying40 hi
  rw [Ybad.cells39] at this
  exact this
theorem eq41 (w : World) (d : Nat) (xs ys : Array Value) : (Op.equalIn (d + 1) 41 (.agg xs) (.agg ys)).run Ybad.prog w = (Op.eqItems d 4 1 xs ys [0, 1, 2, 3]).run Ybad.prog w := by
  obtain ⟨i, hi⟩ := Option.isSome_iff_exists.1 Ybad.some4
  have := run_equalIn_array w d xs ys Ybad.underlying41 hi
  rw [Ybad.cells4] at this
  exact this
theorem eq42 (w : World) (d : Nat) (xs ys : Array Value) : (Op.equalIn (d + 1) 42 (.agg xs) (.agg ys)).run Ybad.prog w = (Op.eqItems d 9 1 xs ys [0, 1, 2, 3]).run Ybad.prog w := by
  obtain ⟨i, hi⟩ := Option.isSome_iff_exists.1 Ybad.some9
  have := run_equalIn_array w d xs ys Ybad.underlying42 hi
  rw [Ybad.cells9] at this
  exact this

set_option maxRecDepth 50000 in
set_option maxHeartbeats 2000000 in
theorem eq44 (w : World) (b0 b1 b2 b3 b4 b5 b6 b7 b8 b9 b10 b11 b12 b13 b14 b15 : Bool) (n0 n1 n2 n3 : ByteArray) (l : Int) : (binOp .eql 44 (.agg #[.bool b0, .bool b1, .bool b2, .bool b3, .bool b4, .bool b5, .bool b6, .bool b7, .bool b8, .bool b9, .bool b10, .bool b11, .bool b12, .bool b13, .bool b14, .bool b15, .string n0, .string n1, .string n2, .string n3, .int .i64 l]) (.agg #[.bool b0, .bool b1, .bool b2, .bool b3, .bool b4, .bool b5, .bool b6, .bool b7, .bool b8, .bool b9, .bool b10, .bool b11, .bool b12, .bool b13, .bool b14, .bool b15, .string n0, .string n1, .string n2, .string n3, .int .i64 l])).run Ybad.prog w = .ok (.bool true) w := by
  simp [go_sem, eq39, eq40, eq41, eq42, Op.eqItems]

end Go.Proofs.YbulkbcpiDoor.rel
