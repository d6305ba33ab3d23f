/-
  Seat b2686aD: where a transaction's granted request stands in a queue.
-/
import Derived.Test.YbulkbcpiDoorRLeaf
namespace Go.Proofs.YbulkbcpiDoor.rel
open Go.RowKit

set_option maxHeartbeats 1000000 in
theorem isTxn (ry rm : Nat) (ru : Bool) (B : Nat) (y : Nat) (w : World) (hc : w.cell? ⟨B, 0, none⟩ = some (.int .i64 y)) (hB : B < w.heap.size) :
    Calls Ybad.prog 35 #[.agg #[.int .i64 ry, .int .i64 rm, .bool ru, .bool false], .pointer (some ⟨B, 0, none⟩)] w fun e w' => e = .returned (.bool (decide (ry = y))) ∧ w' = w.alloc (.cells #[.int .i64 ry, .int .i64 rm, .bool ru, .bool false] 83) := by
  go_enter Ybad.func35, Ybad.ntmps35
  go_wp2
  go_ret
  refine ⟨?_, rfl⟩
  by_cases h : ry = y
  · subst h; simp
  · have : ((ry : Int) == (y : Int)) = false := by rw [beq_eq_false_iff_ne]; omega
    simp [h, this]

def gidx (l : List Req) (y : Nat) : Option Nat := l.findIdx? (fun r => r.y == y)
def gidxI (l : List Req) (y : Nat) : Int := match gidx l y with
  | some i => (i : Int)
  | Option.none => -1

theorem gidx_hit {l : List Req} {y k : Nat} {r : Req} (h0 : ∀ j r, j < k → l[j]? = some r → r.y ≠ y) (hr : l[k]? = some r) (hy : r.y = y) : gidxI l y = k := by
  have : gidx l y = some k := by
    obtain ⟨hk, hkr⟩ := List.getElem?_eq_some_iff.1 hr
    unfold gidx
    rw [List.findIdx?_eq_some_iff_getElem]
    refine ⟨hk, by simp [hkr, hy], fun j hj => ?_⟩
    have := h0 j l[j] hj (List.getElem?_eq_getElem (by omega))
    simpa using this
  simp [gidxI, this]

theorem gidx_miss {l : List Req} {y : Nat} (h0 : ∀ j r, j < l.length → l[j]? = some r → r.y ≠ y) : gidxI l y = -1 := by
  have : gidx l y = Option.none := by
    unfold gidx
    rw [List.findIdx?_eq_none_iff]
    intro r hr
    obtain ⟨j, hj⟩ := List.mem_iff_getElem?.1 hr
    have := h0 j r (List.getElem?_eq_some_iff.1 hj).1 hj
    simpa using this
  simp [gidxI, this]

theorem seg_cells {w : World} {g off : Nat} {cur : Array Value} {l : List Req} (hg : w.heap[g]? = some (.cells cur 83 (0, 0))) (hc : ∀ j u, (rcs l)[j]? = some u → cur[off + j]? = some u) {i : Nat} {r : Req} (hr : l[i]? = some r) :
    w.cell? ⟨g, off + i * 4, none⟩ = some (.int .i64 r.y) ∧ w.cell? ⟨g, off + i * 4 + 1, none⟩ = some (.int .i64 r.m) ∧ w.cell? ⟨g, off + i * 4 + 2, none⟩ = some (.bool r.u) ∧ w.cell? ⟨g, off + i * 4 + 3, none⟩ = some (.bool false) := by
  obtain ⟨h0, h1, h2, h3⟩ := rcs_at l i r hr
  refine ⟨?_, ?_, ?_, ?_⟩ <;> rw [cell_of_row _ _ _ _ _ _ hg]
  · exact hc _ _ h0
  · rw [show off + i * 4 + 1 = off + (i * 4 + 1) by omega]; exact hc _ _ h1
  · rw [show off + i * 4 + 2 = off + (i * 4 + 2) by omega]; exact hc _ _ h2
  · rw [show off + i * 4 + 3 = off + (i * 4 + 3) by omega]; exact hc _ _ h3

set_option maxRecDepth 50000 in
set_option maxHeartbeats 1000000 in
theorem idxFunc (gv : Value) (gr : List Req) (B y : Nat) (w : World) (hs : Seg w gv gr) (hc : w.cell? ⟨B, 0, none⟩ = some (.int .i64 y)) (hB : B < w.heap.size) :
    Calls Ybad.prog 34 #[gv, .func (Fn.func 35) #[] #[.pointer (some ⟨B, 0, none⟩)]] w fun e w' => e = .returned (.int .i64 (gidxI gr y)) ∧ Below w.heap.size w w' := by
  rcases hs with ⟨rfl, rfl⟩ | ⟨g, off, cap, cur, rfl, hg, hle, hcap, _, hcur⟩
  · go_enter Ybad.func34, Ybad.ntmps34
    go_wp2
    refine wp_loop_rounds 1 ?_
    rw [rounds_succ]
    go_wp2
    go_ret
    exact ⟨rfl, Below.refl _ _⟩
  · have HG : Aside (w.heap[g]? = some (.cells cur 83 (0, 0)) ∧ ∀ j u, (rcs gr)[j]? = some u → cur[off + j]? = some u) := ⟨hg, hcur⟩
    have hgl := heap_lt hg
    have hlm : gr.length ≤ maxLen := Nat.le_trans hle hcap
    simp only [maxLen] at hlm
    clear hg hcur
    go_enter Ybad.func34, Ybad.ntmps34
    go_wp2
    go_loopw [8] (fun i wr => ∃ k : Nat, k ≤ gr.length ∧ i = .int .i64 (k : Int) ∧ Below w.heap.size w wr ∧ ∀ j r, j < k → gr[j]? = some r → r.y ≠ y) (fun i _ => gr.length - (intOf i).toNat)
    case atStart => exact ⟨0, Nat.zero_le _, rfl, Below.refl _ _, fun j r h => by omega⟩
    case round =>
      obtain ⟨k, hk, rfl, hbel, hno⟩ := hrel
      have NO : Aside (∀ j r, j < k → gr[j]? = some r → r.y ≠ y) := hno
      clear hno
      by_cases hlt : k < gr.length
      · obtain ⟨r, hr⟩ : ∃ r, gr[k]? = some r := ⟨_, List.getElem?_eq_getElem hlt⟩
        obtain ⟨c0, c1, c2, c3⟩ := seg_cells HG.out.1 HG.out.2 hr
        rw [← hbel.cell (p := ⟨g, off + k * 4, none⟩) hgl] at c0
        rw [← hbel.cell (p := ⟨g, off + k * 4 + 1, none⟩) hgl] at c1
        rw [← hbel.cell (p := ⟨g, off + k * 4 + 2, none⟩) hgl] at c2
        rw [← hbel.cell (p := ⟨g, off + k * 4 + 3, none⟩) hgl] at c3
        have hcB : wr.cell? ⟨B, 0, none⟩ = some (.int .i64 y) := by rw [hbel.cell (p := ⟨B, 0, none⟩) hB]; exact hc
        have hBs : B < wr.heap.size := Nat.lt_of_lt_of_le hB hbel.size
        have BE : Aside (Below w.heap.size w wr) := hbel
        have HR : Aside (gr[k]? = some r) := hr
        obtain ⟨ry, rm, ru⟩ := r
        simp only at c0 c1 c2
        clear hbel hr hc
        go_wp2_with fail
        refine (isTxn ry rm ru B y _ hcB hBs).mono ?_
        rintro e w1 ⟨rfl, rfl⟩
        by_cases hy : ry = y
        · rw [decide_eq_true hy]
          go_wp2
          go_ret
          exact ⟨by rw [gidx_hit NO.out HR.out hy]; rfl, BE.out.alloc BE.out.size _⟩
        · rw [decide_eq_false hy]
          go_wp2
          go_roundw
          case rel =>
            refine ⟨k + 1, by omega, by go_num, BE.out.alloc BE.out.size _, fun j r hj hjr => ?_⟩
            by_cases e : j = k
            · subst e; have := HR.out.symm.trans hjr; cases this; exact hy
            · exact NO.out j r (by omega) hjr
          case measure => simp [intOf]; omega
      · go_wp2
        go_ret
        exact ⟨by rw [gidx_miss (fun j r hj => NO.out j r (by omega))]; rfl, hbel⟩

set_option maxHeartbeats 1000000 in
theorem grantedIndex (b : Nat) (y : Nat) (w : World) (gv : Value) (gr : List Req) (hc : w.cell? ⟨b, 1, none⟩ = some gv) (hs : Seg w gv gr) :
    Calls Ybad.prog 27 #[.pointer (some ⟨b, 0, none⟩), .int .i64 y] w fun e w' => e = .returned (.int .i64 (gidxI gr y)) ∧ Below w.heap.size w w' := by
  have HS : Aside (Seg w gv gr) := hs
  clear hs
  have hb : b < w.heap.size := cell_lt hc
  go_enter Ybad.func27, Ybad.ntmps27
  go_wp2_with fail
  refine (idxFunc gv gr w.heap.size y _ (HS.out.same (fun g hg => Below.heap_alloc _ _ _ (HS.out.lt hg))) (by simp) (by simp)).mono ?_
  rintro e w1 ⟨rfl, hbel⟩
  go_wp2
  go_ret
  exact ⟨rfl, ((Below.refl _ _).alloc (Nat.le_refl _) _).trans ⟨hbel.os, hbel.tape, hbel.output, hbel.size, fun k hk => hbel.block k (by simp; omega)⟩⟩
end Go.Proofs.YbulkbcpiDoor.rel
