/-
  Seat b2690a: LawS2690AScript: what the law keeps in memory: the places and three arrays.
-/
import Derived.Test.YbulkbcrmScriptPlain
namespace Go.Proofs.Ybulkbcrm.places
open Go.RowKit

/-- The three arrays: first (block B + 1), seen (B + 2), diff (B + 3). -/
structure Ar (w : World) (B : Nat) (F : List ByteArray) (S D : List Bool) : Prop where
  cF : ∀ j, j < 16 → w.cell? ⟨B + 1, j, none⟩ = some (.string (F.getD j e0))
  cS : ∀ j, j < 16 → w.cell? ⟨B + 1 + 1, j, none⟩ = some (.bool (S.getD j false))
  cD : ∀ j, j < 16 → w.cell? ⟨B + 1 + 1 + 1, j, none⟩ = some (.bool (D.getD j false))
  fF : ∀ j, w.frozen? ⟨B + 1, j, none⟩ = false
  fS : ∀ j, w.frozen? ⟨B + 1 + 1, j, none⟩ = false
  fD : ∀ j, w.frozen? ⟨B + 1 + 1 + 1, j, none⟩ = false

structure St (w0 wr : World) (B : Nat) (l : List Q) (F : List ByteArray) (S D : List Bool) (ao : Option Addr) (cap : Nat) : Prop where
  pl : Pl wr B (B + 4) l ao cap
  ar : Ar wr B F S D
  bel : Below B w0 wr
  size : B + 4 ≤ wr.heap.size

theorem blk_ge {w : World} {p base : Nat} {l : List Q} {ao : Option Addr} {cap : Nat} (h : Pl w p base l ao cap) {k : Nat} (hk : k < base) : some k ≠ blk ao := by
  intro e
  have := h.own.lt k (by rw [ownBlock_slice]; exact e.symm)
  omega

theorem blk_lt {w : World} {p base : Nat} {l : List Q} {ao : Option Addr} {cap : Nat} (h : Pl w p base l ao cap) {k : Nat} (hk : w.heap.size ≤ k) : some k ≠ blk ao := by
  intro e
  have := h.own.lt k (by rw [ownBlock_slice]; exact e.symm)
  omega

theorem pl_alloc {w : World} {p base : Nat} {l : List Q} {ao : Option Addr} {cap : Nat} (h : Pl w p base l ao cap) (hb : base ≤ w.heap.size) (o : Obj) : Pl (w.alloc o) p base l ao cap := by
  have hb2 : Below w.heap.size w (w.alloc o) := (Below.refl _ _).alloc (Nat.le_refl _) o
  have := h.lt
  exact ⟨by rw [hb2.cell (p := ⟨p, 0, none⟩) (show p < _ by omega)]; exact h.cell, by rw [hb2.frozen (p := ⟨p, 0, none⟩) (show p < _ by omega)]; exact h.fz, h.own.alloc o, h.lt⟩

theorem pl_setCell {w : World} {p base : Nat} {l : List Q} {ao : Option Addr} {cap : Nat} (h : Pl w p base l ao cap) {b : Nat} (hb : b < base) (hp : b ≠ p) (j : Nat) (u : Value) : Pl (w.setCell ⟨b, j, none⟩ u) p base l ao cap :=
  ⟨by rw [World.cell?_setCell_other _ _ _ _ (by intro e; injection e with e1 _ _; omega)]; exact h.cell, by rw [World.frozen?_setCell]; exact h.fz, ownsRow_setCell_below h.own (a := ⟨b, j, none⟩) hb u, h.lt⟩

theorem ar_same {w w' : World} {B : Nat} {F S D} (h : Ar w B F S D) (hb : ∀ k, B < k → k < B + 4 → w'.heap[k]? = w.heap[k]?) : Ar w' B F S D := by
  have c : ∀ k j, B < k → k < B + 4 → w'.cell? ⟨k, j, none⟩ = w.cell? ⟨k, j, none⟩ := fun k j h1 h2 => World.cell?_of_block (a := ⟨k, j, none⟩) (hb k h1 h2)
  have f : ∀ k j, B < k → k < B + 4 → w'.frozen? ⟨k, j, none⟩ = w.frozen? ⟨k, j, none⟩ := fun k j h1 h2 => World.frozen?_of_block (a := ⟨k, j, none⟩) (hb k h1 h2)
  exact ⟨fun j hj => by rw [c _ _ (by omega) (by omega)]; exact h.cF j hj, fun j hj => by rw [c _ _ (by omega) (by omega)]; exact h.cS j hj, fun j hj => by rw [c _ _ (by omega) (by omega)]; exact h.cD j hj,
    fun j => by rw [f _ _ (by omega) (by omega)]; exact h.fF j, fun j => by rw [f _ _ (by omega) (by omega)]; exact h.fS j, fun j => by rw [f _ _ (by omega) (by omega)]; exact h.fD j⟩

theorem st_alloc {w0 wr : World} {B : Nat} {l F S D ao cap} (h : St w0 wr B l F S D ao cap) (o : Obj) : St w0 (wr.alloc o) B l F S D ao cap := by
  have := h.size
  exact ⟨pl_alloc h.pl h.size o, ar_same h.ar (fun k _ h2 => Below.heap_alloc _ _ _ (by omega)), h.bel.alloc (by omega) o, by simp; omega⟩

theorem st_see {w0 W w1 : World} {B : Nat} {l l' F S D ao cap} (h : St w0 W B l F S D ao cap) (hs : SeePost W w1 B (B + 4) l' ao) :
    (∃ ao' cap', St w0 w1 B l' F S D ao' cap') ∧ (∀ s j, s < W.heap.size → s ≠ B → some s ≠ blk ao → w1.cell? ⟨s, j, none⟩ = W.cell? ⟨s, j, none⟩) := by
  obtain ⟨ao', cap', hP, hK, _⟩ := hs
  have hsz := h.size
  refine ⟨⟨ao', cap', hP, ar_same h.ar (fun k h1 h2 => hK.block k (by omega) (by omega) (blk_ge h.pl h2)), h.bel.trans ⟨hK.os, hK.tape, hK.output, hK.size, fun k hk => hK.block k (by omega) (by omega) (blk_ge h.pl (by omega))⟩, Nat.le_trans hsz hK.size⟩, ?_⟩
  intro s j h1 h2 h3
  exact hK.cell (a := ⟨s, j, none⟩) h1 h2 h3

theorem below_setCell {B b j : Nat} {w0 w : World} (h : Below B w0 w) (hb : B ≤ b) (u : Value) : Below B w0 (w.setCell ⟨b, j, none⟩ u) := h.setCell (p := ⟨b, j, none⟩) hb u

theorem size_setCell (w : World) (a : Addr) (u : Value) : (w.setCell a u).heap.size = w.heap.size := by simp [World.setCell]

theorem st_setF {w0 wr : World} {B : Nat} {l F S D ao cap} (h : St w0 wr B l F S D ao cap) (hF : F.length = 16) (k : Nat) (hk : k < 16) (v : ByteArray) : St w0 (wr.setCell ⟨B + 1, k, none⟩ (.string v)) B l (F.set k v) S D ao cap := by
  refine ⟨pl_setCell h.pl (by omega) (by omega) _ _, ⟨?_, ?_, ?_, ?_, ?_, ?_⟩, below_setCell h.bel (by omega) _, by rw [size_setCell]; exact h.size⟩
  · intro j hj
    rw [getD_set _ _ _ _ _ (by omega)]
    by_cases e : j = k
    · subst e; rw [if_pos rfl]; exact World.cell?_setCell_same _ _ _ (h.ar.cF j hj)
    · rw [if_neg e, World.cell?_setCell_other _ _ _ _ (by intro g; injection g with _ g2 _; omega)]; exact h.ar.cF j hj
  · intro j hj; rw [World.cell?_setCell_other _ _ _ _ (by intro g; injection g with g2 _ _; omega)]; exact h.ar.cS j hj
  · intro j hj; rw [World.cell?_setCell_other _ _ _ _ (by intro g; injection g with g2 _ _; omega)]; exact h.ar.cD j hj
  · intro j; rw [World.frozen?_setCell]; exact h.ar.fF j
  · intro j; rw [World.frozen?_setCell]; exact h.ar.fS j
  · intro j; rw [World.frozen?_setCell]; exact h.ar.fD j

theorem st_setS {w0 wr : World} {B : Nat} {l F S D ao cap} (h : St w0 wr B l F S D ao cap) (hS : S.length = 16) (k : Nat) (hk : k < 16) (v : Bool) : St w0 (wr.setCell ⟨B + 1 + 1, k, none⟩ (.bool v)) B l F (S.set k v) D ao cap := by
  refine ⟨pl_setCell h.pl (by omega) (by omega) _ _, ⟨?_, ?_, ?_, ?_, ?_, ?_⟩, below_setCell h.bel (by omega) _, by rw [size_setCell]; exact h.size⟩
  · intro j hj; rw [World.cell?_setCell_other _ _ _ _ (by intro g; injection g with g2 _ _; omega)]; exact h.ar.cF j hj
  · intro j hj
    rw [getD_set _ _ _ _ _ (by omega)]
    by_cases e : j = k
    · subst e; rw [if_pos rfl]; exact World.cell?_setCell_same _ _ _ (h.ar.cS j hj)
    · rw [if_neg e, World.cell?_setCell_other _ _ _ _ (by intro g; injection g with _ g2 _; omega)]; exact h.ar.cS j hj
  · intro j hj; rw [World.cell?_setCell_other _ _ _ _ (by intro g; injection g with g2 _ _; omega)]; exact h.ar.cD j hj
  · intro j; rw [World.frozen?_setCell]; exact h.ar.fF j
  · intro j; rw [World.frozen?_setCell]; exact h.ar.fS j
  · intro j; rw [World.frozen?_setCell]; exact h.ar.fD j

theorem st_setD {w0 wr : World} {B : Nat} {l F S D ao cap} (h : St w0 wr B l F S D ao cap) (hD : D.length = 16) (k : Nat) (hk : k < 16) (v : Bool) : St w0 (wr.setCell ⟨B + 1 + 1 + 1, k, none⟩ (.bool v)) B l F S (D.set k v) ao cap := by
  refine ⟨pl_setCell h.pl (by omega) (by omega) _ _, ⟨?_, ?_, ?_, ?_, ?_, ?_⟩, below_setCell h.bel (by omega) _, by rw [size_setCell]; exact h.size⟩
  · intro j hj; rw [World.cell?_setCell_other _ _ _ _ (by intro g; injection g with g2 _ _; omega)]; exact h.ar.cF j hj
  · intro j hj; rw [World.cell?_setCell_other _ _ _ _ (by intro g; injection g with g2 _ _; omega)]; exact h.ar.cS j hj
  · intro j hj
    rw [getD_set _ _ _ _ _ (by omega)]
    by_cases e : j = k
    · subst e; rw [if_pos rfl]; exact World.cell?_setCell_same _ _ _ (h.ar.cD j hj)
    · rw [if_neg e, World.cell?_setCell_other _ _ _ _ (by intro g; injection g with _ g2 _; omega)]; exact h.ar.cD j hj
  · intro j; rw [World.frozen?_setCell]; exact h.ar.fF j
  · intro j; rw [World.frozen?_setCell]; exact h.ar.fS j
  · intro j; rw [World.frozen?_setCell]; exact h.ar.fD j

theorem st_drewN {w0 wr : World} {B : Nat} {l F S D ao cap} (h : St w0 wr B l F S D ao cap) (n : Nat) : St w0 (wr.drewN n) B l F S D ao cap :=
  ⟨⟨h.pl.cell, h.pl.fz, h.pl.own, h.pl.lt⟩, ⟨h.ar.cF, h.ar.cS, h.ar.cD, h.ar.fF, h.ar.fS, h.ar.fD⟩, ⟨h.bel.os, h.bel.tape, h.bel.output, h.bel.size, h.bel.block⟩, h.size⟩

/-- The memory as the law's head lays it. -/
def start (w : World) : World :=
  (((w.alloc (.cells #[.slice none 0 0] 24)).alloc (.cells #[.string ⟨#[]⟩, .string ⟨#[]⟩, .string ⟨#[]⟩, .string ⟨#[]⟩, .string ⟨#[]⟩, .string ⟨#[]⟩, .string ⟨#[]⟩, .string ⟨#[]⟩, .string ⟨#[]⟩, .string ⟨#[]⟩, .string ⟨#[]⟩, .string ⟨#[]⟩, .string ⟨#[]⟩, .string ⟨#[]⟩, .string ⟨#[]⟩, .string ⟨#[]⟩] 25)).alloc
    (.cells #[.bool false, .bool false, .bool false, .bool false, .bool false, .bool false, .bool false, .bool false, .bool false, .bool false, .bool false, .bool false, .bool false, .bool false, .bool false, .bool false] 26)).alloc
    (.cells #[.bool false, .bool false, .bool false, .bool false, .bool false, .bool false, .bool false, .bool false, .bool false, .bool false, .bool false, .bool false, .bool false, .bool false, .bool false, .bool false] 26)

theorem push4 (h : Array Obj) (a b c d : Obj) : ((((h.push a).push b).push c).push d)[h.size]? = some a ∧ ((((h.push a).push b).push c).push d)[h.size + 1]? = some b ∧
    ((((h.push a).push b).push c).push d)[h.size + 1 + 1]? = some c ∧ ((((h.push a).push b).push c).push d)[h.size + 1 + 1 + 1]? = some d := by
  simp only [Array.getElem?_push, Array.size_push]
  refine ⟨?_, ?_, ?_, ?_⟩
  · rw [if_neg (by omega), if_neg (by omega), if_neg (by omega), if_pos trivial]
  · rw [if_neg (by omega), if_neg (by omega), if_pos trivial]
  · rw [if_neg (by omega), if_pos trivial]
  · rw [if_pos trivial]

theorem start_b0 (w : World) : (start w).heap[w.heap.size]? = some (.cells #[.slice none 0 0] 24) := (push4 w.heap _ _ _ _).1
theorem start_b1 (w : World) : (start w).heap[w.heap.size + 1]? = some (.cells (List.replicate 16 (Value.string e0)).toArray 25) := (push4 w.heap _ _ _ _).2.1
theorem start_b2 (w : World) : (start w).heap[w.heap.size + 1 + 1]? = some (.cells (List.replicate 16 (Value.bool false)).toArray 26) := (push4 w.heap _ _ _ _).2.2.1
theorem start_b3 (w : World) : (start w).heap[w.heap.size + 1 + 1 + 1]? = some (.cells (List.replicate 16 (Value.bool false)).toArray 26) := (push4 w.heap _ _ _ _).2.2.2

theorem rep_at {α : Type} (x : α) (j : Nat) (hj : j < 16) : (List.replicate 16 x).toArray[j]? = some x := by
  rw [List.getElem?_toArray, List.getElem?_replicate, if_pos hj]

theorem st_start (w : World) : St w (start w) w.heap.size [] (List.replicate 16 e0) (List.replicate 16 false) (List.replicate 16 false) none 0 := by
  refine ⟨⟨?_, frozen_of_row _ _ _ _ _ (start_b0 w), World.ownsRow_nil _ _ _ _, by omega⟩, ⟨?_, ?_, ?_, ?_, ?_, ?_⟩, ?_, by simp [start]⟩
  · rw [cell_of_row _ _ _ _ _ _ (start_b0 w)]; rfl
  · intro j hj
    rw [getD_rep, cell_of_row _ _ _ _ _ _ (start_b1 w)]
    exact rep_at _ j hj
  · intro j hj
    rw [getD_rep, cell_of_row _ _ _ _ _ _ (start_b2 w)]
    exact rep_at _ j hj
  · intro j hj
    rw [getD_rep, cell_of_row _ _ _ _ _ _ (start_b3 w)]
    exact rep_at _ j hj
  · intro j; exact frozen_of_row _ _ _ _ _ (start_b1 w)
  · intro j; exact frozen_of_row _ _ _ _ _ (start_b2 w)
  · intro j; exact frozen_of_row _ _ _ _ _ (start_b3 w)
  · exact ((((Below.refl _ _).alloc (Nat.le_refl _) _).alloc (by simp) _).alloc (by simp; omega) _).alloc (by simp; omega) _

end Go.Proofs.Ybulkbcrm.places
