/-
  Seat b2680aD: the listed table 'conflicts'; the door's heap.
-/
import Derived.Test.YbulkbcmcDoorBNewWalk
import Derived.Test.YbulkbcmcDoorTie
import Derived.ProofKit
import Derived.LaidMore
import Derived.OpenShut
import Derived.ChangeOld
import Derived.ChangeVars
import Derived.Carry
import Derived.Lib.LaidTab
import Derived.Stop.Joined
import Derived.SevenTiedAt
namespace Go.Proofs.YbulkbcmcDoor.lawB
open Go.ChangeShapes Go.WideShapes Go.ChangeAt Go.RowKit

theorem own : ownKnob Ybad.prog.godebug = none := by kernel_rfl
theorem laidOut : laidOutB Ybad.prog = true := by kernel_rfl
def varName : String := Rows.lawS2680BNewAgreesRow.named.headD ""
theorem gConf : Ybad.prog.globalNamed varName = some 0 := by kernel_rfl
theorem tConf : (Ybad.prog.globals[0]?).map (·.type) = some 43 := by kernel_rfl
theorem cells31 : Ybad.prog.cellsOf 31 = 1 := by kernel_rfl
theorem cells43 : Ybad.prog.cellsOf 43 = 9 := by kernel_rfl

def zs9 : List Int := [416, 440, 444, 438, 446, 447, 128, 511, 191]

theorem tab_of_laid {W : World} (h : laidMetH Ybad.prog [(varName, Lib.tabData .u32 zs9)] W) : Tab W := by
  rw [MakeChecks.laidMetH_plain _ _ _ (by kernel_rfl)] at h
  have hT := Lib.tabIs_of_head gConf tConf Ybad.underlying43 Ybad.underlying31 cells31 cells43 h
  intro m hm
  have := hT.cell gConf m (by simpa [zs9] using hm)
  rw [this]
  rcases m with _ | _ | _ | _ | _ | _ | _ | _ | _ | m <;> first | rfl | omega

theorem var?_below {P : Program} {B g : Nat} {W W' : World} {n : String} {cs : Array Value} (h : Below B W W') (hg : P.globalNamed n = some g) (hgB : g < B) (hv : W.var? P n = some cs) : W'.var? P n = some cs := by
  unfold World.var? at hv ⊢
  simp only [hg, Option.bind_some] at hv ⊢
  rw [h.block g hgB]
  exact hv

/-- The named variable reads behind the call as it read before. -/
theorem vars_below {H : Type} {enc : TypeId × Value → H} {W W' : World} {cs : Array Value} {fuel : Nat} {d : DataW H} {p : List MemPlace} (hb : Below W.heap.size W W') (h0 : 0 < W.heap.size)
    (hv : W.var? Ybad.prog varName = some cs) (hd : DataW.trod enc Ybad.prog W 0 (fun _ => true) true fuel 43 cs.toList = some (d, p)) :
    DataW.TrodVars enc Ybad.prog W' (fun b => decide (b < W.heap.size)) [varName] [d] (MemPlace.row ⟨0, 0, none⟩ cs.size ++ p) := by
  have hT : DataW.Trod enc Ybad.prog W 0 (fun _ => true) true 43 (.agg cs) d p := ⟨fuel, hd⟩
  have hlt : ∀ x ∈ p, x.block < W.heap.size := DataW.trod_lt fuel _ _ _ hd
  obtain ⟨fuel', hd'⟩ := Below.trod laidOut (by kernel_rfl) (of_decide_eq_true (by kernel_rfl)) hT hb hlt
  exact trodVars_mk1 gConf tConf (var?_below hb gConf h0 hv) hd'

/-- The door's own heap meets the condition. -/
theorem door_met (os : Os) (args : Array Value) : laidMetH Ybad.prog [(varName, Lib.tabData .u32 zs9)] ((World.doorLaid Ybad.prog 1403 os).forCall (fun _ _ => 0) ⟨#[], args, []⟩).memory :=
  laidMetH_of_parts3 (fuel := 8) (laidMet_of_run' 8 (by kernel_rfl) (by kernel_rfl)) (by kernel_rfl) (by kernel_rfl)

end Go.Proofs.YbulkbcmcDoor.lawB
