/-
  Seat b2686aD: whether an item has a holder.
-/
import Derived.Test.YbulkbcpiDoorREq
namespace Go.Proofs.YbulkbcpiDoor.rel
open Go.RowKit

def any4b (gr : List Req) : Bool := has gr 0 || has gr 1 || has gr 2 || has gr 3

set_option maxRecDepth 50000 in
set_option maxHeartbeats 1000000 in
theorem anyholder {cs : Array Value} {gr : List Req} {i : Nat} (hi : i < 3) (hcs : ∀ y, y < 4 → cs[y * 3 + i]? = some (.bool (has gr y))) (w : World) :
    Calls Ybad.prog 13 #[.agg cs, .int .i64 (i : Int)] w fun e w' => e = .returned (.bool (any4b gr)) ∧ Below w.heap.size w w' := by
  have hiI : (i : Int) < 3 := by omega
  have BE : Aside (Below w.heap.size w (w.alloc (.cells cs 44))) := (Below.refl _ _).alloc (Nat.le_refl _) _
  have CL : Aside (∀ y, y < 4 → (w.alloc (.cells cs 44)).cell? ⟨w.heap.size, y * 3 + i, none⟩ = some (.bool (has gr y))) := fun y hy => by
    rw [cell_of_row _ _ _ _ _ _ (heap_new w _)]; exact hcs y hy
  clear hcs
  go_enter Ybad.func13, Ybad.ntmps13
  go_wp2
  obtain ⟨W, hW⟩ : ∃ W, W = w.alloc (.cells cs 44) := ⟨_, rfl⟩
  have lW : w.heap.size < W.heap.size := by rw [hW]; simp
  rw [← hW] at BE CL ⊢
  clear hW
  go_loop [5] (fun yv => ∃ y : Nat, y ≤ 4 ∧ yv = .int .i64 (y : Int) ∧ ∀ z, z < y → has gr z = false) (fun yv => 4 - (intOf yv).toNat)
  case atStart => exact ⟨0, by omega, rfl, fun z hz => by omega⟩
  case round =>
    obtain ⟨y, hy4, rfl, hno⟩ := hrel
    have HNO := hide hno
    clear hno
    by_cases hlt : y < 4
    · have c := CL.out y hlt
      have hyI : (y : Int) < 4 := by omega
      cases hh : has gr y with
      | true =>
        rw [hh] at c
        have E : any4b gr = true := any4 hlt hh
        go_wp2
        go_ret
        exact ⟨rfl, BE.out⟩
      | false =>
        rw [hh] at c
        go_wp2
        go_round
        case rel =>
          refine ⟨y + 1, by omega, by go_num, fun z hz => ?_⟩
          by_cases e : z = y
          · subst e; exact hh
          · exact HNO.out z (by omega)
        case measure => simp [intOf]; omega
    · have E : any4b gr = false := by
        unfold any4b
        rw [HNO.out 0 (by omega), HNO.out 1 (by omega), HNO.out 2 (by omega), HNO.out 3 (by omega)]
        rfl
      go_wp2
      go_ret
      exact ⟨rfl, BE.out⟩

theorem view_eq (s : St) : view s = #[.bool (has (s.gr 0) 0), .bool (has (s.gr 1) 0), .bool (has (s.gr 2) 0), .bool (has (s.gr 0) 1), .bool (has (s.gr 1) 1), .bool (has (s.gr 2) 1), .bool (has (s.gr 0) 2), .bool (has (s.gr 1) 2), .bool (has (s.gr 2) 2), .bool (has (s.gr 0) 3), .bool (has (s.gr 1) 3), .bool (has (s.gr 2) 3),
    .bool (s.wl 0).isSome, .bool (s.wl 1).isSome, .bool (s.wl 2).isSome, .bool (s.wl 3).isSome, .string (wn s 0), .string (wn s 1), .string (wn s 2), .string (wn s 3), .int .i64 (s.lo : Int)] := by
  apply Array.ext_getElem?
  intro k
  by_cases h : k < 21
  · unfold view
    rw [va_at _ _ _ _ h]
    rcases k with _ | _ | _ | _ | _ | _ | _ | _ | _ | _ | _ | _ | _ | _ | _ | _ | _ | _ | _ | _ | _ | k
    all_goals first | rfl | omega
  · rw [Array.getElem?_eq_none (by unfold view; rw [va_size]; omega), Array.getElem?_eq_none (by simp; omega)]

end Go.Proofs.YbulkbcpiDoor.rel
