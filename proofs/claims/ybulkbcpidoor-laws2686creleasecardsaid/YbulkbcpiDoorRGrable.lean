/-
  Seat b2686aD: may the first waiting request be granted?
-/
import Derived.Test.YbulkbcpiDoorRApp
namespace Go.Proofs.YbulkbcpiDoor.rel
open Go.RowKit

def may (gr : List Req) (r : Req) : Bool := if r.u then decide (gr.length = 1) else okAll r.m (cnt 0 gr : Nat) (cnt 1 gr : Nat)

theorem okz (m : Nat) : okAll m 0 0 = true := by simp [okAll]

set_option maxRecDepth 50000 in
set_option maxHeartbeats 4000000 in
theorem grantable {ow : Nat → Option Nat} {w : World} {b : Nat} {nm : ByteArray} {gr wt : List Req} {tp gv wv : Value} {r : Req} (q : Qu ow w b nm gr (r :: wt) tp gv wv) (hlen2 : gr.length ≤ 8) :
    Calls Ybad.prog 42 #[.pointer (some ⟨b, 0, none⟩), .int .i64 0, .agg #[.int .i64 0, .int .i64 0]] w fun e w' => e = .returned (.bool (may gr r)) ∧ Below w.heap.size w w' := by
  obtain ⟨g, off, cap, cur, rfl, hg, hle, hcm, hsz, hcur⟩ : ∃ g off cap cur, wv = .slice (some ⟨g, off, none⟩) (r :: wt).length cap ∧ w.heap[g]? = some (.cells cur 83 (0, 0)) ∧ (r :: wt).length ≤ cap ∧ cap ≤ maxLen ∧ off + cap * 4 ≤ cur.size ∧ ∀ j u, (rcs (r :: wt))[j]? = some u → cur[off + j]? = some u := by
    rcases q.wrow with ⟨_, h0⟩ | h
    · cases h0
    · exact h
  have hbl := heap_lt q.blk
  have hgl := heap_lt hg
  obtain ⟨c0, c1, c2, c3, c4, c5, c6, c7, fz⟩ := q.c
  obtain ⟨x0, x1, x2, x3⟩ := seg_cells (i := 0) (r := r) hg hcur rfl
  simp only [Nat.zero_mul, Nat.add_zero] at x0 x1 x2 x3
  obtain ⟨ao, cp, rfl⟩ := rowSlice q.gseg
  obtain ⟨k, hk⟩ : ∃ k, wt.length = k := ⟨_, rfl⟩
  have hl1 : (r :: wt).length = k + 1 := by rw [List.length_cons, hk]
  rw [hl1] at c2
  obtain ⟨n, hn⟩ : ∃ n, gr.length = n := ⟨_, rfl⟩
  rw [hn] at c1 hlen2

  have MAY : Aside (may gr r = if r.u then decide (n = 1) else okAll r.m (cnt 0 gr : Nat) (cnt 1 gr : Nat)) := by unfold may; rw [hn]; exact rfl
  obtain ⟨ry, rm, ru⟩ := r
  simp only at x0 x1 x2 MAY
  generalize may gr ⟨ry, rm, ru⟩ = v at *
  generalize cnt 0 gr = k0 at *
  generalize cnt 1 gr = k1 at *
  clear q hg hcur hsz hk hl1 hn c0 c5 c6 c7 fz hle hcm
  have A1 : Below w.heap.size w (w.alloc (.cells #[.int .i64 0, .int .i64 0] 85)) := (Below.refl _ _).alloc (Nat.le_refl _) _
  cases ru
  · have MAY2 : Aside (v = okAll rm k0 k1) := by have := MAY.out; simp only [Bool.false_eq_true, if_false] at this; exact this
    clear MAY
    cases hv : okAll rm k0 k1
    · go_enter Ybad.func42, Ybad.ntmps42
      go_wp2
      first | go_region_with (go_at_call 58; refine (compatAll rm _ _ _).mono ?_; rintro e w1 ⟨rfl, rfl⟩) | fail
      all_goals
        go_wp2
        go_ret
        exact ⟨by rw [MAY2.out, hv]; rfl, ((A1.alloc (by simp) _).alloc (by simp; omega) _).drew⟩
    · have hz := okz rm
      go_enter Ybad.func42, Ybad.ntmps42
      go_wp2
      first | go_region_with (go_at_call 58; refine (compatAll rm _ _ _).mono ?_; rintro e w1 ⟨rfl, rfl⟩) | fail
      all_goals
        go_wp2
        go_ret
        exact ⟨by rw [MAY2.out, hv]; rfl, (((A1.alloc (by simp) _).alloc (by simp; omega) _).alloc (by simp; omega) _).drew⟩
  · have MAY2 : Aside (v = decide (n = 1)) := by have := MAY.out; simp only [if_true] at this; exact this
    clear MAY
    go_enter Ybad.func42, Ybad.ntmps42
    go_wp2
    go_ret
    refine ⟨?_, A1.alloc (by simp) _⟩
    rw [MAY2.out]
    by_cases h : n = 1
    · subst h; simp
    · have : ((n : Int) == 1) = false := by rw [beq_eq_false_iff_ne]; omega
      simp [h, this]

end Go.Proofs.YbulkbcpiDoor.rel
