/-
  Seat b2686aD: spare queues and records are taken.
-/
import Derived.Test.YbulkbcpiDoorRRep
namespace Go.Proofs.YbulkbcpiDoor.rel
open Go.RowKit

def zq : Array Value := #[.string ⟨#[]⟩, .slice none 0 0, .slice none 0 0, .int .i64 0, .int .i64 0, .int .i64 0, .int .i64 0, .pointer none]
def zt : Array Value := #[.slice none 0 0, .slice none 0 0, .bool false, .int .u64 0]

theorem takeSpareQ_nil {w : World} {M cap : Nat} {ao : Option Addr} (hc : w.cell? ⟨M, 7, none⟩ = some (.slice ao 0 cap)) :
    Calls Ybad.prog 36 #[.pointer (some ⟨M, 7, none⟩)] w fun e w' => e = .returned (.pointer (some ⟨w.heap.size, 0, none⟩)) ∧ w' = w.alloc (.cells zq 88) := by
  go_enter Ybad.func36, Ybad.ntmps36
  go_wp2
  go_ret
  exact ⟨rfl, rfl⟩

theorem takeSpareQ_cons {w : World} {M g n cap b : Nat} (hc : w.cell? ⟨M, 7, none⟩ = some (.slice (some ⟨g, 0, none⟩) (n + 1) cap)) (hx : w.cell? ⟨g, n, none⟩ = some (.pointer (some ⟨b, 0, none⟩))) (hz : w.frozen? ⟨M, 7, none⟩ = false) (hz2 : w.frozen? ⟨g, n, none⟩ = false) (hne : M ≠ g) (hn : n < 300) (hcap : n + 1 ≤ cap) :
    Calls Ybad.prog 36 #[.pointer (some ⟨M, 7, none⟩)] w fun e w' => e = .returned (.pointer (some ⟨b, 0, none⟩)) ∧ w' = (w.setCell ⟨g, n, none⟩ (.pointer none)).setCell ⟨M, 7, none⟩ (.slice (some ⟨g, 0, none⟩) n cap) := by
  have h0 : (((n : Int) + 1) == 0) = false := by rw [beq_eq_false_iff_ne]; omega
  have hcI : (n : Int) ≤ (cap : Int) := by omega
  go_enter Ybad.func36, Ybad.ntmps36
  go_wp2
  go_ret
  exact ⟨rfl, rfl⟩

theorem takeSpareT_nil {w : World} {M cap : Nat} {ao : Option Addr} (hc : w.cell? ⟨M, 8, none⟩ = some (.slice ao 0 cap)) :
    Calls Ybad.prog 57 #[.pointer (some ⟨M, 8, none⟩)] w fun e w' => e = .returned (.pointer (some ⟨w.heap.size, 0, none⟩)) ∧ w' = w.alloc (.cells zt 73) := by
  go_enter Ybad.func57, Ybad.ntmps57
  go_wp2
  go_ret
  exact ⟨rfl, rfl⟩

theorem takeSpareT_cons {w : World} {M g n cap b : Nat} (hc : w.cell? ⟨M, 8, none⟩ = some (.slice (some ⟨g, 0, none⟩) (n + 1) cap)) (hx : w.cell? ⟨g, n, none⟩ = some (.pointer (some ⟨b, 0, none⟩))) (hz : w.frozen? ⟨M, 8, none⟩ = false) (hz2 : w.frozen? ⟨g, n, none⟩ = false) (hne : M ≠ g) (hn : n < 300) (hcap : n + 1 ≤ cap) :
    Calls Ybad.prog 57 #[.pointer (some ⟨M, 8, none⟩)] w fun e w' => e = .returned (.pointer (some ⟨b, 0, none⟩)) ∧ w' = (w.setCell ⟨g, n, none⟩ (.pointer none)).setCell ⟨M, 8, none⟩ (.slice (some ⟨g, 0, none⟩) n cap) := by
  have h0 : (((n : Int) + 1) == 0) = false := by rw [beq_eq_false_iff_ne]; omega
  have hcI : (n : Int) ≤ (cap : Int) := by omega
  go_enter Ybad.func57, Ybad.ntmps57
  go_wp2
  go_ret
  exact ⟨rfl, rfl⟩

end Go.Proofs.YbulkbcpiDoor.rel
