/-
  Seat b2686aD: the listed error variables; the script as it comes in; the door's heap.
-/
import Derived.Test.YbulkbcpiDoorRMem
import Derived.Test.YbulkbcpiDoorTie
import Derived.ProofKit
import Derived.LaidMore
import Derived.OpenShut
import Derived.OpenVars
import Derived.ChangeOld
import Derived.ChangeVars
import Derived.Carry
import Derived.LaidEql
import Derived.Stop.LaidErr
import Derived.Stop.Joined
import Derived.SevenTiedAt
import Derived.Deep.Slices
import Derived.Deep.SlicePairs
namespace Go.Proofs.YbulkbcpiDoor.rel
open Go.ChangeShapes Go.WideShapes Go.ChangeAt Go.RowKit

theorem own : ownKnob Ybad.prog.godebug = none := by kernel_rfl
theorem laidOut : laidOutB Ybad.prog = true := by kernel_rfl
theorem cells26 : Ybad.prog.cellsOf 26 = 4 := by kernel_rfl
theorem cells5 : Ybad.prog.cellsOf 5 = 1 := by kernel_rfl
theorem cells171 : Ybad.prog.cellsOf 171 = 1 := by kernel_rfl
theorem cells9' : Ybad.prog.cellsOf 9 = 1 := by kernel_rfl

/-- The names of the listed variables, and of the type of what they hold, off the given row. -/
def nmOf (k : Nat) : String := Rows.lawS2686CReleaseRow.named.getD k ""
def tnm : String := match Rows.lawS2686CReleaseRow.laid with
  | (_, .iface n _) :: _ => n
  | _ => ""

theorem row152 (u : TypeId) (h : Ybad.prog.typeName? 3 u = some tnm) : u = 152 :=
  typeName_ptr_named (nm := "errors.errorString") (by kernel_rfl) (by kernel_rfl) (by decide) u (h.trans (by decide))

theorem n0 : Ybad.prog.globalNamed (nmOf 0) = some 0 := by kernel_rfl
theorem n1 : Ybad.prog.globalNamed (nmOf 1) = some 1 := by kernel_rfl
theorem n2 : Ybad.prog.globalNamed (nmOf 4) = some 2 := by kernel_rfl
theorem n3 : Ybad.prog.globalNamed (nmOf 5) = some 3 := by kernel_rfl
theorem n4 : Ybad.prog.globalNamed (nmOf 2) = some 4 := by kernel_rfl
theorem n5 : Ybad.prog.globalNamed (nmOf 6) = some 5 := by kernel_rfl
theorem n6 : Ybad.prog.globalNamed (nmOf 7) = some 6 := by kernel_rfl
theorem n7 : Ybad.prog.globalNamed (nmOf 3) = some 7 := by kernel_rfl
theorem g0 : (Ybad.prog.globals[0]?).map (·.type) = some 31 := by kernel_rfl
theorem g1 : (Ybad.prog.globals[1]?).map (·.type) = some 31 := by kernel_rfl
theorem g2 : (Ybad.prog.globals[2]?).map (·.type) = some 31 := by kernel_rfl
theorem g3 : (Ybad.prog.globals[3]?).map (·.type) = some 31 := by kernel_rfl
theorem g4 : (Ybad.prog.globals[4]?).map (·.type) = some 31 := by kernel_rfl
theorem g5 : (Ybad.prog.globals[5]?).map (·.type) = some 31 := by kernel_rfl
theorem g6 : (Ybad.prog.globals[6]?).map (·.type) = some 31 := by kernel_rfl
theorem g7 : (Ybad.prog.globals[7]?).map (·.type) = some 31 := by kernel_rfl

/-- The eight variables hold errors. -/
theorem errs_of_laid {W : World} (h0 : laidMetH Ybad.prog Rows.lawS2686CReleaseRow.laid W) : ∃ A : Nat → Addr, ∀ k, k < 8 → W.cell? ⟨k, 0, none⟩ = some (.iface 152 (.pointer (some (A k)))) := by
  rw [MakeChecks.laidMetH_plain _ _ _ (by kernel_rfl)] at h0
  have h : laidMet Ybad.prog Rows.lawS2686CReleaseRow.laid W := h0
  obtain ⟨a1, _, v1, _⟩ := laid_sentinel h n1 g1 Ybad.underlying31 row152 Ybad.underlying152 Ybad.underlying171 rfl rfl Ybad.underlying9 cells171 cells9'
  obtain ⟨a3, _, v3, _⟩ := laid_sentinel h.tail n3 g3 Ybad.underlying31 row152 Ybad.underlying152 Ybad.underlying171 rfl rfl Ybad.underlying9 cells171 cells9'
  obtain ⟨a2, _, v2, _⟩ := laid_sentinel h.tail.tail n2 g2 Ybad.underlying31 row152 Ybad.underlying152 Ybad.underlying171 rfl rfl Ybad.underlying9 cells171 cells9'
  obtain ⟨a5, _, v5, _⟩ := laid_sentinel h.tail.tail.tail n5 g5 Ybad.underlying31 row152 Ybad.underlying152 Ybad.underlying171 rfl rfl Ybad.underlying9 cells171 cells9'
  obtain ⟨a6, _, v6, _⟩ := laid_sentinel h.tail.tail.tail.tail n6 g6 Ybad.underlying31 row152 Ybad.underlying152 Ybad.underlying171 rfl rfl Ybad.underlying9 cells171 cells9'
  obtain ⟨a4, _, v4, _⟩ := laid_sentinel h.tail.tail.tail.tail.tail n4 g4 Ybad.underlying31 row152 Ybad.underlying152 Ybad.underlying171 rfl rfl Ybad.underlying9 cells171 cells9'
  obtain ⟨a0, _, v0, _⟩ := laid_sentinel h.tail.tail.tail.tail.tail.tail n0 g0 Ybad.underlying31 row152 Ybad.underlying152 Ybad.underlying171 rfl rfl Ybad.underlying9 cells171 cells9'
  obtain ⟨a7, _, v7, _⟩ := laid_sentinel h.tail.tail.tail.tail.tail.tail.tail n7 g7 Ybad.underlying31 row152 Ybad.underlying152 Ybad.underlying171 rfl rfl Ybad.underlying9 cells171 cells9'
  refine ⟨fun k => [a0, a1, a2, a3, a4, a5, a6, a7].getD k a0, fun k hk => ?_⟩
  rcases (by omega : k = 0 ∨ k = 1 ∨ k = 2 ∨ k = 3 ∨ k = 4 ∨ k = 5 ∨ k = 6 ∨ k = 7) with rfl | rfl | rfl | rfl | rfl | rfl | rfl | rfl
  · simpa using World.var?_cell n0 v0 0
  · simpa using World.var?_cell n1 v1 0
  · simpa using World.var?_cell n2 v2 0
  · simpa using World.var?_cell n3 v3 0
  · simpa using World.var?_cell n4 v4 0
  · simpa using World.var?_cell n5 v5 0
  · simpa using World.var?_cell n6 v6 0
  · simpa using World.var?_cell n7 v7 0

theorem comp152 : (Ybad.prog.info? 152).map (·.comparable) = some true := by kernel_rfl
theorem some171 : (Ybad.prog.info? 171).isSome = true := by kernel_rfl

theorem errEq (a : Addr) (W : World) : (binOp .eql 31 (.iface 152 (.pointer (some a))) (.iface 152 (.pointer (some a)))).run Ybad.prog W = .ok (.bool true) W := by
  obtain ⟨j, hj⟩ := Option.isSome_iff_exists.1 some171
  cases hq : Ybad.prog.info? 152 with
  | none => have := comp152; rw [hq] at this; cases this
  | some i =>
    have hc : i.comparable = true := by have := comp152; rw [hq] at this; simpa using this
    exact run_eql_iface_ptr_same W a Ybad.underlying31 Ybad.underlying152 hq hc hj

set_option maxRecDepth 20000 in
/-- The script's cells. -/
theorem open_ops {H : Type} {enc : TypeId × Value → H} {W : World} {a : Option Addr} {len cap : Nat} {x : DataW H × List MemPlace} {fuel : Nat} (h : DataW.trod enc Ybad.prog W 0 (fun _ => true) true fuel 22 [.slice a len cap] = some x) :
    ∃ f0 f1 f2 f3 : Nat → Nat, ∀ k, k < len → (f0 k < 256 ∧ f1 k < 256 ∧ f2 k < 256 ∧ f3 k < 256) ∧ ∃ b off, a = some ⟨b, off, none⟩ ∧ b < W.heap.size ∧ W.cell? ⟨b, off + k * 4, none⟩ = some (.int .u8 (f0 k : Int)) ∧ W.cell? ⟨b, off + k * 4 + 1, none⟩ = some (.int .u8 (f1 k : Int)) ∧ W.cell? ⟨b, off + k * 4 + 2, none⟩ = some (.int .u8 (f2 k : Int)) ∧ W.cell? ⟨b, off + k * 4 + 3, none⟩ = some (.int .u8 (f3 k : Int)) := by
  rcases Deep.open_slice Ybad.underlying22 h with ⟨h0, _⟩ | ⟨a', len', cap', m, n, D, Pl, h0, hb, hl, hm, hmm, _, hx⟩
  · simp at h0
    obtain ⟨_, rfl, _⟩ := h0
    exact ⟨fun _ => 0, fun _ => 0, fun _ => 0, fun _ => 0, fun k hk => by omega⟩
  · simp at h0
    obtain ⟨rfl, rfl, rfl⟩ := h0
    simp only [if_true] at hmm
    have each : ∀ k, k < len → ∃ z : Nat × Nat × Nat × Nat, (z.1 < 256 ∧ z.2.1 < 256 ∧ z.2.2.1 < 256 ∧ z.2.2.2 < 256) ∧ W.cell? (a'.add (k * 4)) = some (.int .u8 (z.1 : Int)) ∧ W.cell? (a'.add (k * 4 + 1)) = some (.int .u8 (z.2.1 : Int)) ∧ W.cell? (a'.add (k * 4 + 2)) = some (.int .u8 (z.2.2.1 : Int)) ∧ W.cell? (a'.add (k * 4 + 3)) = some (.int .u8 (z.2.2.2 : Int)) := by
      intro k hk
      obtain ⟨cs', h1, h2⟩ := hx k (by omega)
      rw [cells26] at h1
      obtain ⟨_, hlen, hcell⟩ := World.cells?_some h1
      obtain ⟨xs, k', hk', hxy, _, hxl, hf⟩ := DataW.trod_struct Ybad.underlying26 h2
      obtain ⟨v0, v1, v2, v3, rfl⟩ : ∃ v0 v1 v2 v3, cs' = [v0, v1, v2, v3] := by
        rcases cs' with _ | ⟨v0, _ | ⟨v1, _ | ⟨v2, _ | ⟨v3, _ | ⟨v4, r⟩⟩⟩⟩⟩
        all_goals first | exact ⟨_, _, _, _, rfl⟩ | simp at hlen
      obtain ⟨y0, y1, y2, y3, rfl⟩ : ∃ y0 y1 y2 y3, xs = [y0, y1, y2, y3] := by
        rcases xs with _ | ⟨v0, _ | ⟨v1, _ | ⟨v2, _ | ⟨v3, _ | ⟨v4, r⟩⟩⟩⟩⟩
        all_goals first | exact ⟨_, _, _, _, rfl⟩ | simp at hxl
      have u8 : ∀ {v : Value} {y : DataW H × List MemPlace}, DataW.trod enc Ybad.prog W 0 (fun _ => true) true k' 5 [v] = some y → ∃ z : Nat, z < 256 ∧ v = .int .u8 (z : Int) := by
        intro v y hy
        obtain ⟨z, e0, _, wz⟩ := DataW.trod_int Ybad.underlying5 hy
        simp at e0
        simp [Lit.wf, IntKind.min, IntKind.max, IntKind.signed, IntKind.bits] at wz
        exact ⟨z.toNat, by omega, by rw [e0, Int.toNat_of_nonneg wz.1]⟩
      have t0 := hf 0 _ rfl
      have t1 := hf 1 _ rfl
      have t2 := hf 2 _ rfl
      have t3 := hf 3 _ rfl
      simp [cells5] at t0 t1 t2 t3
      obtain ⟨z0, b0, rfl⟩ := u8 t0
      obtain ⟨z1, b1, rfl⟩ := u8 t1
      obtain ⟨z2, b2, rfl⟩ := u8 t2
      obtain ⟨z3, b3, rfl⟩ := u8 t3
      have e0 := hcell 0 (by omega)
      have e1 := hcell 1 (by omega)
      have e2 := hcell 2 (by omega)
      have e3 := hcell 3 (by omega)
      rw [Deep.add_add] at e0 e1 e2 e3
      exact ⟨(z0, z1, z2, z3), ⟨b0, b1, b2, b3⟩, by simpa using e0, by simpa using e1, by simpa using e2, by simpa using e3⟩
    obtain ⟨q, hq⟩ := Deep.choose_lt each
    obtain ⟨b, off, spot⟩ := a'
    refine ⟨fun k => (q k).1, fun k => (q k).2.1, fun k => (q k).2.2.1, fun k => (q k).2.2.2, fun k hk => ⟨(hq k hk).1, b, off, ?_⟩⟩
    obtain ⟨_, c0, c1, c2, c3⟩ := hq k hk
    have hspot : spot = none := by simpa [Addr.add] using World.cell?_spot (hq 0 (by omega)).2.1
    subst hspot
    rw [add_plain] at c0 c1 c2 c3
    refine ⟨rfl, cell_lt c0, c0, ?_, ?_, ?_⟩
    · rw [Nat.add_assoc]; exact c1
    · rw [Nat.add_assoc]; exact c2
    · rw [Nat.add_assoc]; exact c3

/-- The door's own heap meets the condition. -/
theorem door_met (os : Os) (args : Array Value) : laidMetH Ybad.prog Rows.lawS2686CReleaseRow.laid ((World.doorLaid Ybad.prog 161 os).forCall (fun _ _ => 0) ⟨#[], args, []⟩).memory :=
  laidMetH_of_parts3 (fuel := 8) (laidMet_of_run' 8 (by kernel_rfl) (by kernel_rfl)) (by kernel_rfl) (by kernel_rfl)

end Go.Proofs.YbulkbcpiDoor.rel
