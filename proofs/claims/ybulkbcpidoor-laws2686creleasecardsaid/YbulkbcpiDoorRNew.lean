/-
  Seat b2686aD: a new manager.
-/
import Derived.Test.YbulkbcpiDoorRObs
namespace Go.Proofs.YbulkbcpiDoor.rel
open Go.RowKit

def s0 : St := { qb := fun _ => none, tb := fun _ => none, sq := [], st := [], gr := fun _ => [], wt := fun _ => [], hl := fun _ => [], wl := fun _ => none, lo := 0, wa := 0 }

theorem inv0 : Inv NoE NoE s0 :=
  ⟨fun _ _ => ⟨List.nodup_nil, fun _ h => (by cases h), List.nodup_nil, fun _ h => (by cases h), fun _ h => (by cases h)⟩, fun _ _ _ _ => ⟨fun h => (by cases h), fun h => (by cases h)⟩, fun _ _ => ⟨List.nodup_nil, fun _ h => (by cases h)⟩,
    fun _ _ _ _ => ⟨fun h => (by cases h), fun h => (by cases h)⟩, fun _ _ _ h => (by cases h), fun _ _ _ _ => rfl, rfl, rfl, fun _ _ _ => ⟨rfl, rfl⟩, fun _ _ _ _ => ⟨rfl, rfl⟩⟩

theorem pm_new {w : World} {kt : TypeId} {lit : Nat → Lit} {N b : Nat} (h : w.ownsMap Ybad.prog kt Rp b 0 (.map [])) : PM w kt lit N b (fun _ => none) := by
  have hc : ∀ n, cntF (fun _ => none) n = 0 := fun n => by
    induction n with
    | zero => rfl
    | succ n ih => simp [cntF, ih]
  exact ⟨0, .map [], h, by rw [hc]; rfl, fun i _ => rfl, fun i _ => rfl⟩

set_option maxRecDepth 50000 in
theorem newM (w : World) : Calls Ybad.prog 4 #[] w fun e w' => ∃ M qm tm ow, e = .returned (.pointer (some ⟨M, 0, none⟩)) ∧ Rep ow w' M qm tm s0 ∧ Below w.heap.size w w' ∧ ∀ k, k < w.heap.size → ow k = none := by
  obtain ⟨n, hn⟩ : ∃ n, w.heap.size = n := ⟨_, rfl⟩
  obtain ⟨W, hW⟩ : ∃ W, W = ((w.alloc (.map #[] 0)).alloc (.map #[] 0)).alloc (.cells #[.map (some n), .map (some (n + 1)), .bool false, .int .i64 0, .int .u64 0, .int .i64 0, .int .i64 0, .slice none 0 0, .slice none 0 0] 61) := ⟨_, rfl⟩
  have E : Aside (∃ ow, Rep ow W (n + 2) n (n + 1) s0 ∧ Below w.heap.size w W ∧ ∀ k, k < w.heap.size → ow k = none) := by
    have e1 : (w.alloc (.map #[] 0)).heap.size = n + 1 := by simp [hn]
    have e2 : ((w.alloc (.map #[] 0)).alloc (.map #[] 0)).heap.size = n + 2 := by simp [hn]
    have hM : W.heap[n + 2]? = some (.cells #[.map (some n), .map (some (n + 1)), .bool false, .int .i64 0, .int .u64 0, .int .i64 0, .int .i64 0, .slice none 0 0, .slice none 0 0] 61 (0, 0)) := by
      have := heap_new ((w.alloc (.map #[] 0)).alloc (.map #[] 0)) (.cells #[.map (some n), .map (some (n + 1)), .bool false, .int .i64 0, .int .u64 0, .int .i64 0, .int .i64 0, .slice none 0 0, .slice none 0 0] 61)
      rw [e2, ← hW] at this
      exact this
    have hq0 : (w.alloc (.map #[] 0)).ownsMap Ybad.prog 9 Rp n 0 (.map []) := by rw [← hn]; exact World.ownsMap_made w _ _ _
    have ht0 : ((w.alloc (.map #[] 0)).alloc (.map #[] 0)).ownsMap Ybad.prog 3 Rp (n + 1) 0 (.map []) := by rw [← e1]; exact World.ownsMap_made _ _ _ _
    have hsz : W.heap.size = n + 3 := by rw [hW]; simp [hn]
    refine ⟨fun k => if k = n ∨ k = n + 1 ∨ k = n + 2 then some k else none, ⟨fun k hk => ?_, by simp, by simp, by simp, by omega, ⟨.slice none 0 0, .slice none 0 0, hM, ⟨World.ownsRow_nil _ _ _ _, fun g e => (by cases e)⟩, ⟨World.ownsRow_nil _ _ _ _, fun g e => (by cases e)⟩⟩, (pm_new hq0).same ?_, (pm_new ht0).same ?_,
      fun i _ b h => (by cases h), fun i _ b h => (by cases h), fun b h => (by cases h), fun b h => (by cases h), fun i j b _ _ h => (by cases h), fun i j b _ _ h => (by cases h), List.nodup_nil, List.nodup_nil, fun i b _ h => (by cases h), fun i b _ h => (by cases h), by simp [s0], by simp [s0]⟩, ?_, fun k hk => ?_⟩
    · exact if_neg (by omega)
    · rw [hW, Below.heap_alloc _ _ _ (by omega), Below.heap_alloc _ _ _ (by omega)]
    · rw [hW, Below.heap_alloc _ _ _ (by omega)]
    · rw [hW]
      exact (((Below.refl _ _).alloc (Nat.le_refl _) _).alloc (by simp) _).alloc (by simp; omega) _
    · exact if_neg (by omega)
  subst hW
  obtain ⟨ow, E1, E2, E3⟩ := E.out
  have EE : Aside (Rep ow (((w.alloc (.map #[] 0)).alloc (.map #[] 0)).alloc (.cells #[.map (some n), .map (some (n + 1)), .bool false, .int .i64 0, .int .u64 0, .int .i64 0, .int .i64 0, .slice none 0 0, .slice none 0 0] 61)) (n + 2) n (n + 1) s0 ∧ Below w.heap.size w (((w.alloc (.map #[] 0)).alloc (.map #[] 0)).alloc (.cells #[.map (some n), .map (some (n + 1)), .bool false, .int .i64 0, .int .u64 0, .int .i64 0, .int .i64 0, .slice none 0 0, .slice none 0 0] 61)) ∧ ∀ k, k < w.heap.size → ow k = none) := ⟨E1, E2, E3⟩
  clear E E1 E2 E3
  subst hn
  go_enter Ybad.func4, Ybad.ntmps4
  have h1 : (Instr.makeMap 54 none).run Ybad.prog w = .ok (.map (some w.heap.size)) (w.alloc (.map #[] 0)) := rfl
  have h2 : (Instr.makeMap 55 none).run Ybad.prog (w.alloc (.map #[] 0)) = .ok (.map (some (w.heap.size + 1))) ((w.alloc (.map #[] 0)).alloc (.map #[] 0)) := run_makeMap 55 _ |>.trans (by simp)
  go_wp2
  go_ret
  exact ⟨_, _, _, ow, rfl, EE.out.1, EE.out.2.1, EE.out.2.2⟩

end Go.Proofs.YbulkbcpiDoor.rel
