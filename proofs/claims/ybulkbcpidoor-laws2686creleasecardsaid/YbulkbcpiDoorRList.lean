/-
  Seat b2686aD: a list is emptied and kept where it is short.
-/
import Derived.Test.YbulkbcpiDoorRRec
namespace Go.Proofs.YbulkbcpiDoor.rel
open Go.RowKit

/-- What stands behind 'spareList'. -/
structure Spl (w : World) (e sz : Nat) (v v' : Value) (w' : World) : Prop where
  os : w'.os = w.os
  tape : w'.tape = w.tape
  output : w'.output = w.output
  size : w'.heap.size = w.heap.size
  block : ∀ k, v.ownBlock ≠ some k → w'.heap[k]? = w.heap[k]?
  row : w'.ownsRow 0 e sz v' 0 []
  same : v'.ownBlock = none ∨ v'.ownBlock = v.ownBlock
  form : ∃ a c, v' = .slice a 0 c

theorem Spl.fr {ow : Nat → Option Nat} {w w' : World} {e sz s : Nat} {v v' : Value} (h : Spl w e sz v v' w') (hf : Fresh ow w) (ho : ∀ g, v.ownBlock = some g → ow g = some s) : Fr ow w ow w' [s] :=
  ⟨h.os, h.tape, h.output, by rw [h.size]; exact Nat.le_refl _, fun _ _ => rfl, fun k hk => hf k (by rw [← h.size]; exact hk), fun k _ hn => h.block k (fun e => hn s (ho k e) (by simp))⟩

theorem Spl.nil (w : World) (e sz : Nat) (v : Value) : Spl w e sz v (.slice none 0 0) w := ⟨rfl, rfl, rfl, rfl, fun _ _ => rfl, ⟨by simp, .inl ⟨rfl, rfl⟩⟩, .inl rfl, _, _, rfl⟩

theorem Spl.set {w : World} {e sz g cap : Nat} {n : Nat} {cur : Array Value} (hg : w.heap[g]? = some (.cells cur e (0, 0))) (hsz : cur.size = cap * sz) (hcm : cap ≤ maxLen) (zs : List Value) : Spl w e sz (.slice (some ⟨g, 0, none⟩) n cap) (.slice (some ⟨g, 0, none⟩) 0 cap) (w.setCells g 0 zs) := by
  refine ⟨(env_setCells _ _ _).1, (env_setCells _ _ _).2.1, (env_setCells _ _ _).2.2, size_setCells _ _ _, fun k hk => heap_setCells_ne (fun e => hk (by rw [e]; rfl)) _ _ _, ⟨by simp, .inr ⟨g, cap, _, rfl, Nat.zero_le _, heap_setCells_same zs 0 w cur hg, Nat.zero_le _, hcm, by rw [over_size]; exact hsz, by simp⟩⟩, .inr rfl, _, _, rfl⟩

theorem clear_none {P : Program} (w : World) (t e ty : TypeId) (ht : P.underlying t = some (.slice e)) (a : Option Addr) (c : Nat) : (Builtin.clear_ #[t] ty #[.slice a 0 c]).run P w = .ok (.tuple #[]) w := by
  cases a <;> simp [Builtin.clear_, run_underlying ht]

theorem zeros1 (n : Nat) : (Builtin.zeroCells (Value.pointer none).cells n).toList = List.replicate n (.pointer none) := by
  simp [Builtin.zeroCells, Value.cells]
  apply List.ext_getElem
  · simp
  · intro i h1 h2
    simp [Nat.mod_one]

set_option maxRecDepth 50000 in
set_option maxHeartbeats 1000000 in
theorem spareListP {w : World} {v : Value} {n : Nat} {xs : List Value} (h : w.ownsRow 0 64 1 v n xs) :
    Calls Ybad.prog 33 #[v] w fun e w' => ∃ v', e = .returned v' ∧ Spl w 64 1 v v' w' := by
  rcases h.2 with ⟨rfl, rfl⟩ | ⟨g, cap, cur, rfl, _, hg, hn, hcm, hsz, _⟩
  · have hcl : ∀ ty, (Builtin.clear_ #[58] ty #[.slice none 0 0]).run Ybad.prog w = .ok (.tuple #[]) w := fun ty => clear_none w 58 64 ty Ybad.underlying58 none 0
    go_enter Ybad.func33, Ybad.ntmps33
    go_wp2
    go_ret
    exact ⟨_, rfl, Spl.nil _ _ _ _⟩
  · by_cases h16 : 16 < cap
    · have hI : (16 : Int) < (cap : Int) := by omega
      clear h hg
      go_enter Ybad.func33, Ybad.ntmps33
      go_wp2
      go_ret
      exact ⟨_, rfl, Spl.nil _ _ _ _⟩
    · have hI : ¬ (16 : Int) < (cap : Int) := by omega
      by_cases h0 : cap = 0
      · subst h0
        have E : Aside (Spl w 64 1 (.slice (some ⟨g, 0, none⟩) n 0) (.slice (some ⟨g, 0, none⟩) 0 0) w) := Spl.set hg hsz hcm []
        have hcl : ∀ ty, (Builtin.clear_ #[58] ty #[.slice (some ⟨g, 0, none⟩) 0 0]).run Ybad.prog w = .ok (.tuple #[]) w := fun ty => clear_none w 58 64 ty Ybad.underlying58 _ 0
        clear h hg hcm
        go_enter Ybad.func33, Ybad.ntmps33
        go_wp2
        go_ret
        exact ⟨_, rfl, E.out⟩
      · obtain ⟨W, hW⟩ : ∃ W, W = w.setCells g 0 (List.replicate cap (.pointer none)) := ⟨_, rfl⟩
        have E : Aside (Spl w 64 1 (.slice (some ⟨g, 0, none⟩) n cap) (.slice (some ⟨g, 0, none⟩) 0 cap) W) := by rw [hW]; exact Spl.set hg hsz hcm _
        have hcl : ∀ ty, (Builtin.clear_ #[58] ty #[.slice (some ⟨g, 0, none⟩) cap cap]).run Ybad.prog w = .ok (.tuple #[]) W := fun ty => by
          rw [hW]
          refine run_clear_any w 58 64 ty _ Ybad.underlying58 zero64 g 0 cap cap _ (zeros1 cap) (by intro u hu; rw [List.eq_of_mem_replicate hu]; rfl) (by omega) (fun j hj => ?_) (fun j _ => frozen_of_row _ _ _ _ _ hg)
          rw [List.length_replicate] at hj
          rw [cell_of_row _ _ _ _ _ _ hg, Array.getElem?_eq_getElem (by omega)]
          rfl
        clear h hg hcm hW
        go_enter Ybad.func33, Ybad.ntmps33
        go_wp2
        go_ret
        exact ⟨_, rfl, E.out⟩

theorem zeros4 (n : Nat) : ∀ u ∈ (Builtin.zeroCells (Value.agg #[.int .i64 0, .int .i64 0, .bool false, .bool false]).cells n).toList, u.oneCell' = true := by
  intro u hu
  simp [Builtin.zeroCells, Value.cells] at hu
  obtain ⟨i, _, rfl⟩ := hu
  have : i % 4 < 4 := Nat.mod_lt _ (by omega)
  rcases (by omega : i % 4 = 0 ∨ i % 4 = 1 ∨ i % 4 = 2 ∨ i % 4 = 3) with h | h | h | h <;> rw [h] <;> rfl

set_option maxRecDepth 50000 in
set_option maxHeartbeats 1000000 in
theorem spareListR {w : World} {v : Value} {n : Nat} {xs : List Value} (h : w.ownsRow 0 83 4 v n xs) :
    Calls Ybad.prog 59 #[v] w fun e w' => ∃ v', e = .returned v' ∧ Spl w 83 4 v v' w' := by
  rcases h.2 with ⟨rfl, rfl⟩ | ⟨g, cap, cur, rfl, _, hg, hn, hcm, hsz, _⟩
  · have hcl : ∀ ty, (Builtin.clear_ #[84] ty #[.slice none 0 0]).run Ybad.prog w = .ok (.tuple #[]) w := fun ty => clear_none w 84 83 ty Ybad.underlying84 none 0
    go_enter Ybad.func59, Ybad.ntmps59
    go_wp2
    go_ret
    exact ⟨_, rfl, Spl.nil _ _ _ _⟩
  · by_cases h16 : 16 < cap
    · have hI : (16 : Int) < (cap : Int) := by omega
      clear h hg
      go_enter Ybad.func59, Ybad.ntmps59
      go_wp2
      go_ret
      exact ⟨_, rfl, Spl.nil _ _ _ _⟩
    · have hI : ¬ (16 : Int) < (cap : Int) := by omega
      by_cases h0 : cap = 0
      · subst h0
        have E : Aside (Spl w 83 4 (.slice (some ⟨g, 0, none⟩) n 0) (.slice (some ⟨g, 0, none⟩) 0 0) w) := Spl.set hg hsz hcm []
        have hcl : ∀ ty, (Builtin.clear_ #[84] ty #[.slice (some ⟨g, 0, none⟩) 0 0]).run Ybad.prog w = .ok (.tuple #[]) w := fun ty => clear_none w 84 83 ty Ybad.underlying84 _ 0
        clear h hg hcm
        go_enter Ybad.func59, Ybad.ntmps59
        go_wp2
        go_ret
        exact ⟨_, rfl, E.out⟩
      · obtain ⟨zs, hzs⟩ : ∃ zs, (Builtin.zeroCells (Value.agg #[.int .i64 0, .int .i64 0, .bool false, .bool false]).cells cap).toList = zs := ⟨_, rfl⟩
        obtain ⟨W, hW⟩ : ∃ W, W = w.setCells g 0 zs := ⟨_, rfl⟩
        have E : Aside (Spl w 83 4 (.slice (some ⟨g, 0, none⟩) n cap) (.slice (some ⟨g, 0, none⟩) 0 cap) W) := by rw [hW]; exact Spl.set hg hsz hcm _
        have hcl : ∀ ty, (Builtin.clear_ #[84] ty #[.slice (some ⟨g, 0, none⟩) cap cap]).run Ybad.prog w = .ok (.tuple #[]) W := fun ty => by
          rw [hW]
          refine run_clear_any w 84 83 ty _ Ybad.underlying84 zero83 g 0 cap cap zs hzs (by rw [← hzs]; exact zeros4 cap) (by omega) (fun j hj => ?_) (fun j _ => frozen_of_row _ _ _ _ _ hg)
          have hl : zs.length = cap * 4 := by rw [← hzs, Array.length_toList]; exact size_zeroCells4 cap
          rw [cell_of_row _ _ _ _ _ _ hg, Array.getElem?_eq_getElem (by omega)]
          rfl
        clear h hg hcm hW hzs
        go_enter Ybad.func59, Ybad.ntmps59
        go_wp2
        go_ret
        exact ⟨_, rfl, E.out⟩

end Go.Proofs.YbulkbcpiDoor.rel
