/-
  Seat b2686aD: small functions of the manager.
-/
import Derived.Test.YbulkbcpiDoorRSpq
namespace Go.Proofs.YbulkbcpiDoor.rel
open Go.RowKit

theorem conservative {w : World} {M : Nat} (hc : w.cell? ⟨M, 2, none⟩ = some (.bool false)) : Calls Ybad.prog 54 #[.pointer (some ⟨M, 0, none⟩)] w fun e w' => e = .returned (.bool false) ∧ w' = w := by
  go_enter Ybad.func54, Ybad.ntmps54
  go_wp2
  go_ret
  exact ⟨rfl, rfl⟩

theorem letGo {w : World} {M : Nat} (tv mv : Value) (hc : w.cell? ⟨M, 2, none⟩ = some (.bool false)) : Calls Ybad.prog 18 #[.pointer (some ⟨M, 0, none⟩), tv, mv] w fun e w' => e = .returned .nilIface ∧ w' = w := by
  go_enter Ybad.func18, Ybad.ntmps18
  go_wp2
  go_ret
  exact ⟨rfl, rfl⟩

end Go.Proofs.YbulkbcpiDoor.rel
