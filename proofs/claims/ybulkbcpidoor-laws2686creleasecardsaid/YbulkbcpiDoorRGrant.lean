/-
  Seat b2686aD: a request is granted.
-/
import Derived.Test.YbulkbcpiDoorRState
namespace Go.Proofs.YbulkbcpiDoor.rel
open Go.RowKit

section
variable {ow : Nat → Option Nat} {w : World} {t : Nat} {hd wt : List Nat}

/-- A queue is appended to 'held'. -/
theorem tx_app0 {ha : Option Addr} {n hc b : Nat} {wv : Value} (x : Tx ow w t hd wt (.slice ha n hc) wv) (hf : Fresh ow w) {g cap2 : Nat} {w3 : World} (hn : hd.length = n) (h1 : w3.ownsRow 0 64 1 (.slice (some ⟨g, 0, none⟩) (n + 1) cap2) (n + 1) (hd.map qp ++ [qp b]))
    (h2 : (w.alloc (.cells #[.pointer (some ⟨b, 0, none⟩)] 64)).grownBy w3 (Value.slice ha n hc).ownBlock) (h3 : (Value.slice ha n hc).ownBlock = some g ∨ g = w.heap.size + 1) (h4 : g < w3.heap.size) :
    (w3.cell? ⟨t, 0, none⟩ = some (.slice ha n hc) ∧ w3.frozen? ⟨t, 0, none⟩ = false ∧ w3.cell? ⟨t, 2, none⟩ = some (.bool false) ∧ w3.frozen? ⟨t, 2, none⟩ = false ∧ t < w3.heap.size) ∧
    ∃ ow', Fr ow w ow' ((w3.setCell ⟨t, 0, none⟩ (.slice (some ⟨g, 0, none⟩) (n + 1) cap2)).setCell ⟨t, 2, none⟩ (.bool false)) [t] ∧ Tx ow' ((w3.setCell ⟨t, 0, none⟩ (.slice (some ⟨g, 0, none⟩) (n + 1) cap2)).setCell ⟨t, 2, none⟩ (.bool false)) t (hd ++ [b]) wt (.slice (some ⟨g, 0, none⟩) (n + 1) cap2) wv := by
  have hl := heap_lt x.blk
  have hnt : ∀ k, (Value.slice ha n hc).ownBlock = some k → t ≠ k := fun k e => x.ne_row (.inl e)
  have hbt : w3.heap[t]? = some (.cells #[.slice ha n hc, wv, .bool false, .int .u64 0] 73 (0, 0)) := by
    rw [h2.block t (by simp; omega) (fun e => hnt t e.symm rfl), Below.heap_alloc _ _ _ hl]
    exact x.blk
  have hgt : g ≠ t := by
    rcases h3 with h3 | h3
    · exact Ne.symm (hnt g h3)
    · omega
  have F1 : Fr ow w ow (w.alloc (.cells #[.pointer (some ⟨b, 0, none⟩)] 64)) [] := (Fr.refl hf []).alloc _
  have F2 := Fr.grown (s := t) (g := g) F1.fresh0 h2 (fun k e => x.hown k e) (by rcases h3 with h3 | h3; exact .inl h3; exact .inr (by rw [h3]; simp)) h4
  have ot : (fun k => if k = g then some t else ow k) t = some t := by simp only [if_neg (Ne.symm hgt)]; exact x.own
  have F3 : Fr _ w3 _ ((w3.setCell ⟨t, 0, none⟩ (.slice (some ⟨g, 0, none⟩) (n + 1) cap2)).setCell ⟨t, 2, none⟩ (.bool false)) [t] := ((Fr.refl F2.fresh0 [t]).setCell (.inr ⟨t, ot, by simp⟩) _ _).setCell (.inr ⟨t, ot, by simp⟩) _ _
  refine ⟨⟨?_, frozen_of_row _ _ _ _ _ hbt, ?_, frozen_of_row _ _ _ _ _ hbt, heap_lt hbt⟩, fun k => if k = g then some t else ow k, ((F1.trans F2).trans F3).mono (by simp), ?_, ot, ?_, ?_, ?_, ?_, ?_⟩
  · rw [cell_of_row _ _ _ _ _ _ hbt]; rfl
  · rw [cell_of_row _ _ _ _ _ _ hbt]; rfl
  · rw [hset_same (hset_same hbt _ _) _ _]; rfl
  · rw [List.length_append, hn, List.map_append]
    exact ownsRow_same h1 (fun k e => by simp [Value.ownBlock] at e; subst e; rw [hset_other _ _ _ (Ne.symm hgt), hset_other _ _ _ (Ne.symm hgt)])
  · intro k e
    simp [Value.ownBlock] at e
    simp [e]
  · refine ownsRow_same x.wrow (fun k e => ?_)
    have hkl := ownsRow_lt x.wrow e
    have hkt : t ≠ k := x.ne_row (.inr e)
    rw [hset_other _ _ _ hkt, hset_other _ _ _ hkt, h2.block k (by simp; omega) (fun e2 => x.ne k e2.symm e), Below.heap_alloc _ _ _ hkl]
  · intro k e
    have hkl := ownsRow_lt x.wrow e
    have : k ≠ g := by
      rintro rfl
      rcases h3 with h3 | h3
      · exact x.ne k h3 e
      · omega
    simp only [if_neg this]
    exact x.wown k e
  · intro k e e2
    simp [Value.ownBlock] at e
    subst e
    rcases h3 with h3 | h3
    · exact x.ne g h3 e2
    · have := ownsRow_lt x.wrow e2
      omega

/-- A queue is appended to 'waiting'. -/
theorem tx_app1 {wa : Option Addr} {n wc b : Nat} {hv : Value} (x : Tx ow w t hd wt hv (.slice wa n wc)) (hf : Fresh ow w) {g cap2 : Nat} {w3 : World} (hn : wt.length = n) (h1 : w3.ownsRow 0 64 1 (.slice (some ⟨g, 0, none⟩) (n + 1) cap2) (n + 1) (wt.map qp ++ [qp b]))
    (h2 : (w.alloc (.cells #[.pointer (some ⟨b, 0, none⟩)] 64)).grownBy w3 (Value.slice wa n wc).ownBlock) (h3 : (Value.slice wa n wc).ownBlock = some g ∨ g = w.heap.size + 1) (h4 : g < w3.heap.size) :
    (w3.cell? ⟨t, 1, none⟩ = some (.slice wa n wc) ∧ w3.frozen? ⟨t, 1, none⟩ = false ∧ t < w3.heap.size) ∧
    ∃ ow', Fr ow w ow' (w3.setCell ⟨t, 1, none⟩ (.slice (some ⟨g, 0, none⟩) (n + 1) cap2)) [t] ∧ Tx ow' (w3.setCell ⟨t, 1, none⟩ (.slice (some ⟨g, 0, none⟩) (n + 1) cap2)) t hd (wt ++ [b]) hv (.slice (some ⟨g, 0, none⟩) (n + 1) cap2) := by
  have hl := heap_lt x.blk
  have hnt : ∀ k, (Value.slice wa n wc).ownBlock = some k → t ≠ k := fun k e => x.ne_row (.inr e)
  have hbt : w3.heap[t]? = some (.cells #[hv, .slice wa n wc, .bool false, .int .u64 0] 73 (0, 0)) := by
    rw [h2.block t (by simp; omega) (fun e => hnt t e.symm rfl), Below.heap_alloc _ _ _ hl]
    exact x.blk
  have hgt : g ≠ t := by
    rcases h3 with h3 | h3
    · exact Ne.symm (hnt g h3)
    · omega
  have F1 : Fr ow w ow (w.alloc (.cells #[.pointer (some ⟨b, 0, none⟩)] 64)) [] := (Fr.refl hf []).alloc _
  have F2 := Fr.grown (s := t) (g := g) F1.fresh0 h2 (fun k e => x.wown k e) (by rcases h3 with h3 | h3; exact .inl h3; exact .inr (by rw [h3]; simp)) h4
  have ot : (fun k => if k = g then some t else ow k) t = some t := by simp only [if_neg (Ne.symm hgt)]; exact x.own
  have F3 : Fr _ w3 _ (w3.setCell ⟨t, 1, none⟩ (.slice (some ⟨g, 0, none⟩) (n + 1) cap2)) [t] := (Fr.refl F2.fresh0 [t]).setCell (.inr ⟨t, ot, by simp⟩) _ _
  refine ⟨⟨?_, frozen_of_row _ _ _ _ _ hbt, heap_lt hbt⟩, fun k => if k = g then some t else ow k, ((F1.trans F2).trans F3).mono (by simp), ?_, ot, ?_, ?_, ?_, ?_, ?_⟩
  · rw [cell_of_row _ _ _ _ _ _ hbt]; rfl
  · rw [hset_same hbt _ _]; rfl
  · refine ownsRow_same x.hrow (fun k e => ?_)
    have hkl := ownsRow_lt x.hrow e
    have hkt : t ≠ k := x.ne_row (.inl e)
    rw [hset_other _ _ _ hkt, h2.block k (by simp; omega) (fun e2 => x.ne k e e2.symm), Below.heap_alloc _ _ _ hkl]
  · intro k e
    have hkl := ownsRow_lt x.hrow e
    have : k ≠ g := by
      rintro rfl
      rcases h3 with h3 | h3
      · exact x.ne k e h3
      · omega
    simp only [if_neg this]
    exact x.hown k e
  · rw [List.length_append, hn, List.map_append]
    exact ownsRow_same h1 (fun k e => by simp [Value.ownBlock] at e; subst e; rw [hset_other _ _ _ (Ne.symm hgt)])
  · intro k e
    simp [Value.ownBlock] at e
    simp [e]
  · intro k e e2
    simp [Value.ownBlock] at e2
    subst e2
    rcases h3 with h3 | h3
    · exact x.ne g e h3
    · have := ownsRow_lt x.hrow e
      omega

end

section
variable {ow : Nat → Option Nat} {w : World} {M qm tm : Nat} {s : St}

def RecP (ow : Nat → Option Nat) (w : World) (M qm tm : Nat) (s : St) (y t : Nat) (w' : World) : Prop :=
  ∃ tb' st', To ow w M qm tm s { s with tb := tb', st := st' } w' ∧ tb' y = some t ∧ ∀ z, z ≠ y → tb' z = s.tb z

theorem recordR (h : Rep ow w M qm tm s) {y : Nat} (hy : y < 4) (hn : s.tb y = none → s.hl y = [] ∧ s.wl y = none) :
    Calls Ybad.prog 41 #[.pointer (some ⟨M, 0, none⟩), pv (s.tb y), .int .i64 (y : Int)] w fun e w' => ∃ t, e = .returned (.pointer (some ⟨t, 0, none⟩)) ∧ RecP ow w M qm tm s y t w' := by
  cases htb : s.tb y with
  | none =>
    refine (record_nil h hy htb (hn htb).1 (hn htb).2).mono ?_
    rintro e w' ⟨t, rfl, ow', st', f, r⟩
    exact ⟨t, rfl, _, st', ⟨ow', f, r⟩, upd_same _ _ _, fun z hz => upd_ne _ _ hz⟩
  | some t =>
    refine (record_some t y w _).mono ?_
    rintro e w' ⟨rfl, rfl⟩
    exact ⟨t, rfl, s.tb, s.st, ⟨ow, FrX.refl _ _ _ _ _ _, h⟩, htb, fun _ _ => rfl⟩

end

end Go.Proofs.YbulkbcpiDoor.rel
