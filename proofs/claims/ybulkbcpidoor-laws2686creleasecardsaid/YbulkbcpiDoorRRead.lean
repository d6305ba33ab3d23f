/-
  Seat b2686aD: what is read of a queue and of a record.
-/
import Derived.Test.YbulkbcpiDoorRIdx
namespace Go.Proofs.YbulkbcpiDoor.rel
open Go.RowKit

def has (l : List Req) (y : Nat) : Bool := l.any (fun r => r.y == y)

theorem gidx_cases (l : List Req) (y : Nat) : (gidxI l y = -1 ∧ has l y = false) ∨ ∃ i r, gidxI l y = ((i : Nat) : Int) ∧ i < l.length ∧ l[i]? = some r ∧ r.y = y ∧ has l y = true := by
  cases h : gidx l y with
  | none =>
    left
    refine ⟨by simp [gidxI, h], ?_⟩
    unfold gidx at h
    rw [List.findIdx?_eq_none_iff] at h
    simp only [has, List.any_eq_false]
    intro r hr e
    exact absurd (h r hr) (by simp at e; simp [e])
  | some i =>
    right
    have h' := h
    unfold gidx at h'
    rw [List.findIdx?_eq_some_iff_getElem] at h'
    obtain ⟨hi, hy, _⟩ := h'
    refine ⟨i, l[i], by simp [gidxI, h], hi, List.getElem?_eq_getElem hi, by simpa using hy, ?_⟩
    simp only [has, List.any_eq_true]
    exact ⟨l[i], List.getElem_mem hi, hy⟩

theorem has_iff {l : List Req} {y : Nat} : has l y = true ↔ ∃ r ∈ l, r.y = y := by simp [has]

/-- The cells of a queue. -/
theorem Qu.c {ow : Nat → Option Nat} {w : World} {b : Nat} {nm gr wt tp gv wv} (h : Qu ow w b nm gr wt tp gv wv) :
    w.cell? ⟨b, 0, none⟩ = some (.string nm) ∧ w.cell? ⟨b, 1, none⟩ = some gv ∧ w.cell? ⟨b, 2, none⟩ = some wv ∧ w.cell? ⟨b, 3, none⟩ = some (.int .i64 (cnt 0 gr : Nat)) ∧ w.cell? ⟨b, 4, none⟩ = some (.int .i64 (cnt 1 gr : Nat)) ∧
      w.cell? ⟨b, 5, none⟩ = some (.int .i64 (cnt 0 wt : Nat)) ∧ w.cell? ⟨b, 6, none⟩ = some (.int .i64 (cnt 1 wt : Nat)) ∧ w.cell? ⟨b, 7, none⟩ = some tp ∧ ∀ j, w.frozen? ⟨b, j, none⟩ = false := by
  refine ⟨?_, ?_, ?_, ?_, ?_, ?_, ?_, ?_, fun j => frozen_of_row _ _ _ _ _ h.blk⟩ <;> rw [cell_of_row _ _ _ _ _ _ h.blk] <;> rfl

theorem Tx.c {ow : Nat → Option Nat} {w : World} {b : Nat} {hd wt hv wv} (h : Tx ow w b hd wt hv wv) :
    w.cell? ⟨b, 0, none⟩ = some hv ∧ w.cell? ⟨b, 1, none⟩ = some wv ∧ w.cell? ⟨b, 2, none⟩ = some (.bool false) ∧ w.cell? ⟨b, 3, none⟩ = some (.int .u64 0) ∧ ∀ j, w.frozen? ⟨b, j, none⟩ = false := by
  refine ⟨?_, ?_, ?_, ?_, fun j => frozen_of_row _ _ _ _ _ h.blk⟩ <;> rw [cell_of_row _ _ _ _ _ _ h.blk] <;> rfl

theorem Mg.c {w : World} {M qm tm : Nat} {lo wa sq st} (h : Mg w M qm tm lo wa sq st) :
    w.cell? ⟨M, 0, none⟩ = some (.map (some qm)) ∧ w.cell? ⟨M, 1, none⟩ = some (.map (some tm)) ∧ w.cell? ⟨M, 2, none⟩ = some (.bool false) ∧ w.cell? ⟨M, 3, none⟩ = some (.int .i64 0) ∧ w.cell? ⟨M, 4, none⟩ = some (.int .u64 0) ∧
      w.cell? ⟨M, 5, none⟩ = some (.int .i64 lo) ∧ w.cell? ⟨M, 6, none⟩ = some (.int .i64 wa) ∧ w.cell? ⟨M, 7, none⟩ = some sq ∧ w.cell? ⟨M, 8, none⟩ = some st ∧ ∀ j, w.frozen? ⟨M, j, none⟩ = false := by
  unfold Mg at h
  refine ⟨?_, ?_, ?_, ?_, ?_, ?_, ?_, ?_, ?_, fun j => frozen_of_row _ _ _ _ _ h⟩ <;> rw [cell_of_row _ _ _ _ _ _ h] <;> rfl

theorem Qu.gseg {ow : Nat → Option Nat} {w : World} {b : Nat} {nm gr wt tp gv wv} (h : Qu ow w b nm gr wt tp gv wv) : Seg w gv gr := Seg.of_own h.grow

theorem held_nil (y : Nat) (w : World) : Calls Ybad.prog 15 #[.pointer none, .int .i64 y] w fun e w' => e = .returned (.tuple #[.int .i64 0, .bool false]) ∧ w' = w := by
  go_enter Ybad.func15, Ybad.ntmps15
  go_wp2
  exact bodyPost_ret (by simp [results, Ybad.results15, go_sem]) rfl ⟨rfl, rfl⟩

set_option maxHeartbeats 1000000 in
theorem held_some (b y : Nat) (w : World) {gv : Value} {gr : List Req} (hc : w.cell? ⟨b, 1, none⟩ = some gv) (hs : Seg w gv gr) :
    Calls Ybad.prog 15 #[.pointer (some ⟨b, 0, none⟩), .int .i64 y] w fun e w' => (∃ m : Nat, e = .returned (.tuple #[.int .i64 m, .bool (has gr y)])) ∧ Below w.heap.size w w' := by
  have HS : Aside (Seg w gv gr) := hs
  clear hs
  have hb : b < w.heap.size := cell_lt hc
  go_enter Ybad.func15, Ybad.ntmps15
  go_wp2_with fail
  refine (grantedIndex b y w gv gr hc HS.out).mono ?_
  rintro e w1 ⟨rfl, hbel⟩
  have BE : Aside (Below w.heap.size w w1) := hbel
  have hc1 : w1.cell? ⟨b, 1, none⟩ = some gv := by rw [hbel.cell (p := ⟨b, 1, none⟩) hb]; exact hc
  rcases gidx_cases gr y with ⟨h1, h2⟩ | ⟨i, r, h1, hi, hr, hy, h2⟩
  · rw [h1]
    clear hbel hc
    go_wp2
    refine bodyPost_ret (by simp [results, Ybad.results15, go_sem]; rfl) rfl ⟨⟨0, ?_⟩, BE.out⟩
    rw [h2]; rfl
  · rw [h1]
    rcases HS.out with ⟨_, rfl⟩ | ⟨g, off, cap, cur, rfl, hg, hle, hcap, _, hcur⟩
    · simp at hi
    · obtain ⟨c0, c1, c2, c3⟩ := seg_cells hg hcur hr
      rw [← hbel.cell (p := ⟨g, off + i * 4 + 1, none⟩) (heap_lt hg)] at c1
      have hlm : gr.length ≤ maxLen := Nat.le_trans hle hcap
      simp only [maxLen] at hlm
      generalize gr.length = n at *
      clear hbel hc c0 c2 c3 hg hcur hr
      go_wp2
      refine bodyPost_ret (by simp [results, Ybad.results15, go_sem]; rfl) rfl ⟨⟨r.m, ?_⟩, BE.out⟩
      rw [h2]

theorem isWaiting_nil (w : World) : Calls Ybad.prog 14 #[.pointer none] w fun e w' => e = .returned (.bool false) ∧ w' = w := by
  go_enter Ybad.func14, Ybad.ntmps14
  go_wp2
  go_ret
  exact ⟨rfl, rfl⟩

theorem isWaiting_some (b : Nat) (w : World) (a : Option Addr) (n cap : Nat) (hc : w.cell? ⟨b, 1, none⟩ = some (.slice a n cap)) :
    Calls Ybad.prog 14 #[.pointer (some ⟨b, 0, none⟩)] w fun e w' => e = .returned (.bool (decide (n ≠ 0))) ∧ w' = w := by
  by_cases hn : n = 0
  · subst hn
    go_enter Ybad.func14, Ybad.ntmps14
    go_wp2
    go_ret
    exact ⟨rfl, rfl⟩
  · have hn' : (0 : Int) < (n : Int) := by omega
    go_enter Ybad.func14, Ybad.ntmps14
    go_wp2
    go_ret
    exact ⟨by simp [hn]; omega, rfl⟩

theorem citem (k : Nat) (hk : k < 256) (w : World) : Calls Ybad.prog 5 #[.int .u8 k] w fun e w' => e = .returned (.string (name (k % 3))) ∧ w' = w := by
  by_cases h0 : k % 3 = 0
  · have h0' : (k : Int) % 3 = 0 := by omega
    rw [h0]
    go_enter Ybad.func5, Ybad.ntmps5
    go_wp2
    go_ret
    exact ⟨rfl, rfl⟩
  · by_cases h1 : k % 3 = 1
    · have h1' : (k : Int) % 3 = 1 := by omega
      rw [h1]
      go_enter Ybad.func5, Ybad.ntmps5
      go_wp2
      go_ret
      exact ⟨rfl, rfl⟩
    · have h2 : k % 3 = 2 := by omega
      have h2' : (k : Int) % 3 = 2 := by omega
      rw [h2]
      go_enter Ybad.func5, Ybad.ntmps5
      go_wp2
      go_ret
      exact ⟨rfl, rfl⟩

theorem cindex (i : Nat) (hi : i < 3) (w : World) : Calls Ybad.prog 12 #[.string (name i)] w fun e w' => e = .returned (.int .i64 i) ∧ w' = w := by
  rcases (by omega : i = 0 ∨ i = 1 ∨ i = 2) with rfl | rfl | rfl
  all_goals
    go_enter Ybad.func12, Ybad.ntmps12
    unfold name nameB
    go_wp2
    go_ret
    exact ⟨rfl, rfl⟩
end Go.Proofs.YbulkbcpiDoor.rel
