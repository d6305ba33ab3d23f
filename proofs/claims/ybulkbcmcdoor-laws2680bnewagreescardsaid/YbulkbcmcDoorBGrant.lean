/-
  Seat b2680aD: the walks of grantable and conflicting.
-/
import Derived.Test.YbulkbcmcDoorBBuild
namespace Go.Proofs.YbulkbcmcDoor.lawB
open Go.RowKit

set_option maxHeartbeats 400000 in
theorem grantable_nil (b m h conf x : Nat) (w : World) (hm : m < 9) (hh : h < 512) (hc : conf < 512) (ch : w.cell? ⟨b, 16, none⟩ = some (.int .u32 h)) (cc : w.cell? ⟨0, m, none⟩ = some (.int .u32 conf)) (hx : conf &&& h = x) :
    Calls Ybad.prog 8 #[.pointer (some ⟨b, 0, none⟩), .pointer none, .int .u8 (m : Int)] w fun e w' => e = .returned (.bool ((x : Int) == 0)) ∧ ∃ n, w' = w.drewN n := by
  have hm' : (m : Int) < 9 := by omega
  have ha : bits .and .u32 (conf : Int) (h : Int) = (x : Int) := by rw [← hx]; exact u32_and_nat _ _ (by omega) (by omega)
  clear hx
  go_enter Ybad.func8, Ybad.ntmps8
  go_wp2
  go_quiet (fail)
  go_wp2
  go_ret
  exact ⟨rfl, _, rfl⟩

set_option maxHeartbeats 400000 in
theorem grantable_more (b g m om h conf x : Nat) (c : Int) (w : World) (hm : m < 9) (hom : om < 9) (hh : h < 512) (hc : conf < 512) (ch : w.cell? ⟨b, 16, none⟩ = some (.int .u32 h)) (cc : w.cell? ⟨0, m, none⟩ = some (.int .u32 conf))
    (cg : w.cell? ⟨g, 4, none⟩ = some (.int .u8 om)) (co : w.cell? ⟨b, 7 + om, none⟩ = some (.int .i64 c)) (h1 : (c == 1) = false) (hx : conf &&& h = x) :
    Calls Ybad.prog 8 #[.pointer (some ⟨b, 0, none⟩), .pointer (some ⟨g, 0, none⟩), .int .u8 (m : Int)] w fun e w' => e = .returned (.bool ((x : Int) == 0)) ∧ ∃ n, w' = w.drewN n := by
  have hm' : (m : Int) < 9 := by omega
  have hom' : (om : Int) < 9 := by omega
  have ha : bits .and .u32 (conf : Int) (h : Int) = (x : Int) := by rw [← hx]; exact u32_and_nat _ _ (by omega) (by omega)
  clear hx
  go_enter Ybad.func8, Ybad.ntmps8
  go_wp2
  go_quiet (fail)
  go_wp2
  go_ret
  exact ⟨rfl, _, rfl⟩

set_option maxHeartbeats 400000 in
theorem grantable_one (b g m om h conf x : Nat) (w : World) (hm : m < 9) (hom : om < 9) (hh : h < 512) (hc : conf < 512) (ch : w.cell? ⟨b, 16, none⟩ = some (.int .u32 h)) (cc : w.cell? ⟨0, m, none⟩ = some (.int .u32 conf))
    (cg : w.cell? ⟨g, 4, none⟩ = some (.int .u8 om)) (co : w.cell? ⟨b, 7 + om, none⟩ = some (.int .i64 1)) (hx : conf &&& (h &&& (4294967295 - 2 ^ om)) = x) :
    Calls Ybad.prog 8 #[.pointer (some ⟨b, 0, none⟩), .pointer (some ⟨g, 0, none⟩), .int .u8 (m : Int)] w fun e w' => e = .returned (.bool ((x : Int) == 0)) ∧ ∃ n, w' = w.drewN n := by
  have hm' : (m : Int) < 9 := by omega
  have hom' : (om : Int) < 9 := by omega
  have hn := andNot_cast h om hh hom
  have hy : h &&& (4294967295 - 2 ^ om) < 512 := Nat.lt_of_le_of_lt Nat.and_le_left hh
  generalize h &&& (4294967295 - 2 ^ om) = y at *
  have ha : bits .and .u32 (conf : Int) (y : Int) = (x : Int) := by rw [← hx]; exact u32_and_nat _ _ (by omega) (by omega)
  clear hx
  go_enter Ybad.func8, Ybad.ntmps8
  go_wp2
  go_quiet (fail)
  go_wp2
  go_ret
  exact ⟨rfl, _, rfl⟩

/-- how many of the counts up to k lie in conf. -/
def sumTo (conf : Nat) (c : List Int) : Nat → Int
  | 0 => 0
  | k + 1 => sumTo conf c k + if conf &&& 2 ^ k = 0 then 0 else c.getD k 0

theorem index9 (c0 c1 c2 c3 c4 c5 c6 c7 c8 : Int) (k : Nat) (hk : k < 9) (w : World) :
    (Instr.index 30 (.agg #[.int .i64 c0, .int .i64 c1, .int .i64 c2, .int .i64 c3, .int .i64 c4, .int .i64 c5, .int .i64 c6, .int .i64 c7, .int .i64 c8]) (.int .i64 (k : Int))).run Ybad.prog w = .ok (.int .i64 ([c0, c1, c2, c3, c4, c5, c6, c7, c8].getD k 0)) w := by
  rcases k with _ | _ | _ | _ | _ | _ | _ | _ | _ | k
  · exact (show (Instr.index 30 (.agg #[.int .i64 c0, .int .i64 c1, .int .i64 c2, .int .i64 c3, .int .i64 c4, .int .i64 c5, .int .i64 c6, .int .i64 c7, .int .i64 c8]) (.int .i64 0)).run Ybad.prog w = .ok (.int .i64 c0) w by kernel_rfl)
  · exact (show (Instr.index 30 (.agg #[.int .i64 c0, .int .i64 c1, .int .i64 c2, .int .i64 c3, .int .i64 c4, .int .i64 c5, .int .i64 c6, .int .i64 c7, .int .i64 c8]) (.int .i64 1)).run Ybad.prog w = .ok (.int .i64 c1) w by kernel_rfl)
  · exact (show (Instr.index 30 (.agg #[.int .i64 c0, .int .i64 c1, .int .i64 c2, .int .i64 c3, .int .i64 c4, .int .i64 c5, .int .i64 c6, .int .i64 c7, .int .i64 c8]) (.int .i64 2)).run Ybad.prog w = .ok (.int .i64 c2) w by kernel_rfl)
  · exact (show (Instr.index 30 (.agg #[.int .i64 c0, .int .i64 c1, .int .i64 c2, .int .i64 c3, .int .i64 c4, .int .i64 c5, .int .i64 c6, .int .i64 c7, .int .i64 c8]) (.int .i64 3)).run Ybad.prog w = .ok (.int .i64 c3) w by kernel_rfl)
  · exact (show (Instr.index 30 (.agg #[.int .i64 c0, .int .i64 c1, .int .i64 c2, .int .i64 c3, .int .i64 c4, .int .i64 c5, .int .i64 c6, .int .i64 c7, .int .i64 c8]) (.int .i64 4)).run Ybad.prog w = .ok (.int .i64 c4) w by kernel_rfl)
  · exact (show (Instr.index 30 (.agg #[.int .i64 c0, .int .i64 c1, .int .i64 c2, .int .i64 c3, .int .i64 c4, .int .i64 c5, .int .i64 c6, .int .i64 c7, .int .i64 c8]) (.int .i64 5)).run Ybad.prog w = .ok (.int .i64 c5) w by kernel_rfl)
  · exact (show (Instr.index 30 (.agg #[.int .i64 c0, .int .i64 c1, .int .i64 c2, .int .i64 c3, .int .i64 c4, .int .i64 c5, .int .i64 c6, .int .i64 c7, .int .i64 c8]) (.int .i64 6)).run Ybad.prog w = .ok (.int .i64 c6) w by kernel_rfl)
  · exact (show (Instr.index 30 (.agg #[.int .i64 c0, .int .i64 c1, .int .i64 c2, .int .i64 c3, .int .i64 c4, .int .i64 c5, .int .i64 c6, .int .i64 c7, .int .i64 c8]) (.int .i64 7)).run Ybad.prog w = .ok (.int .i64 c7) w by kernel_rfl)
  · exact (show (Instr.index 30 (.agg #[.int .i64 c0, .int .i64 c1, .int .i64 c2, .int .i64 c3, .int .i64 c4, .int .i64 c5, .int .i64 c6, .int .i64 c7, .int .i64 c8]) (.int .i64 8)).run Ybad.prog w = .ok (.int .i64 c8) w by kernel_rfl)
  · omega

theorem nine {c : List Int} (h : c.length = 9) : ∃ c0 c1 c2 c3 c4 c5 c6 c7 c8, c = [c0, c1, c2, c3, c4, c5, c6, c7, c8] := by
  match c, h with
  | [c0, c1, c2, c3, c4, c5, c6, c7, c8], _ => exact ⟨c0, c1, c2, c3, c4, c5, c6, c7, c8, rfl⟩

end Go.Proofs.YbulkbcmcDoor.lawB
