/-
  Seat b2686aD: a granted request's mode is converted to exclusive.
-/
import Derived.Test.YbulkbcpiDoorRRem
namespace Go.Proofs.YbulkbcpiDoor.rel
open Go.RowKit

def Convd (ow : Nat → Option Nat) (w : World) (b : Nat) (nm : ByteArray) (gr wt : List Req) (tp gv wv : Value) (y : Nat) (w' : World) : Prop :=
  ∃ i r, gr[i]? = some r ∧ r.y = y ∧ Fr ow w ow w' [b] ∧ Qu ow w' b nm (gr.set i ⟨r.y, 1, r.u⟩) wt tp gv wv

theorem Convd.drew {ow : Nat → Option Nat} {w : World} {b : Nat} {nm : ByteArray} {gr wt : List Req} {tp gv wv : Value} {y : Nat} {w' : World} (h : Convd ow w b nm gr wt tp gv wv y w') : Convd ow w b nm gr wt tp gv wv y w'.drew := by
  obtain ⟨i, r, h1, h2, F, q⟩ := h
  exact ⟨i, r, h1, h2, F.drew, ⟨q.blk, q.own, q.grow, q.gown, q.wrow, q.wown, q.ne⟩⟩

theorem Qu.converted {ow : Nat → Option Nat} {w1 : World} {b g n cap : Nat} {nm : ByteArray} {gr wt : List Req} {tp wv : Value} (q : Qu ow w1 b nm gr wt tp (.slice (some ⟨g, 0, none⟩) n cap) wv) (hf : Fresh ow w1) (hn : gr.length = n) {i : Nat} {r : Req} (hr : gr[i]? = some r) (hrm : r.m < 2) {x2 : Int} (hx2 : x2 = (cnt 1 (gr.set i ⟨r.y, 1, r.u⟩) : Nat)) :
    Fr ow w1 ow (((w1.setCell ⟨b, 3 + r.m, none⟩ (.int .i64 ((cnt r.m gr : Nat) - 1))).setCell ⟨g, i * 4 + 1, none⟩ (.int .i64 1)).setCell ⟨b, 4, none⟩ (.int .i64 x2)) [b] ∧
    Qu ow (((w1.setCell ⟨b, 3 + r.m, none⟩ (.int .i64 ((cnt r.m gr : Nat) - 1))).setCell ⟨g, i * 4 + 1, none⟩ (.int .i64 1)).setCell ⟨b, 4, none⟩ (.int .i64 x2)) b nm (gr.set i ⟨r.y, 1, r.u⟩) wt tp (.slice (some ⟨g, 0, none⟩) n cap) wv := by
  have hbg : b ≠ g := q.ne_row rfl
  have hi : i < n := by rw [← hn]; exact (List.getElem?_eq_some_iff.1 hr).1
  refine ⟨(((Fr.refl hf [b]).setCell (.inr ⟨b, q.own, by simp⟩) _ _).setCell (.inr ⟨b, q.gown g rfl, by simp⟩) _ _).setCell (.inr ⟨b, q.own, by simp⟩) _ _, ?_⟩
  have hk : ∀ k, k ≠ b → k ≠ g → (((w1.setCell ⟨b, 3 + r.m, none⟩ (.int .i64 ((cnt r.m gr : Nat) - 1))).setCell ⟨g, i * 4 + 1, none⟩ (.int .i64 1)).setCell ⟨b, 4, none⟩ (.int .i64 x2)).heap[k]? = w1.heap[k]? := fun k h1 h2 => by
    rw [hset_other _ _ _ (Ne.symm h1), hset_other _ _ _ (Ne.symm h2), hset_other _ _ _ (Ne.symm h1)]
  obtain ⟨cur, hg, hle, hcm, hsz, hcur⟩ : ∃ cur, w1.heap[g]? = some (.cells cur 83 (0, 0)) ∧ n ≤ cap ∧ cap ≤ maxLen ∧ cur.size = cap * 4 ∧ cur.toList.take (n * 4) = rcs gr := by
    rcases q.grow.2 with ⟨h, _⟩ | ⟨g', cap', cur, h1, _, h2, h3, h4, h5, h6⟩
    · cases h
    · injection h1 with h1 _ h1c
      injection h1 with h1
      injection h1 with h1 _ _
      subst h1
      subst h1c
      rw [hn] at h3 h6
      exact ⟨cur, h2, h3, h4, h5, h6⟩
  refine ⟨?_, q.own, ?_, q.gown, ?_, q.wown, q.ne⟩
  · have h0 := hset_same q.blk (3 + r.m) (.int .i64 ((cnt r.m gr : Nat) - 1))
    have h1 := (hset_other (w1.setCell ⟨b, 3 + r.m, none⟩ (.int .i64 ((cnt r.m gr : Nat) - 1))) ⟨g, i * 4 + 1, none⟩ (.int .i64 1) (k := b) (Ne.symm hbg)).trans h0
    have h2 := hset_same h1 4 (.int .i64 x2)
    rw [h2, hx2]
    have e0 := cnt_setM 0 1 gr i r hr
    have e0' := congrArg (Nat.cast (R := Int)) e0
    obtain ⟨ry, rm, ru⟩ := r
    simp only at hrm e0' ⊢
    rcases (by omega : rm = 0 ∨ rm = 1) with rfl | rfl
    · simp at e0' ⊢; omega
    · simp at e0' ⊢; omega
  · have h0 := hset_same ((hset_other w1 ⟨b, 3 + r.m, none⟩ (.int .i64 ((cnt r.m gr : Nat) - 1)) hbg).trans hg) (i * 4 + 1) (.int .i64 1)
    have h1 := (hset_other ((w1.setCell ⟨b, 3 + r.m, none⟩ (.int .i64 ((cnt r.m gr : Nat) - 1))).setCell ⟨g, i * 4 + 1, none⟩ (.int .i64 1)) ⟨b, 4, none⟩ (.int .i64 x2) hbg).trans h0
    refine ⟨by rw [rcs_length], .inr ⟨g, cap, _, by rw [List.length_set, hn], Nat.zero_le _, h1, by rw [List.length_set, hn]; exact hle, hcm, by simp [hsz], ?_⟩⟩
    rw [List.length_set, hn, Array.toList_setIfInBounds, List.take_set, hcur]
    exact rcs_setM gr i r hr 1
  · refine q.wrow.same (fun k e => ?_)
    exact hk k (Ne.symm (q.ne_wrow e)) (fun h => q.ne g rfl (by rw [← h]; exact e))

set_option maxRecDepth 50000 in
set_option maxHeartbeats 4000000 in
theorem convert {ow : Nat → Option Nat} {w : World} {b : Nat} {nm : ByteArray} {gr wt : List Req} {tp gv wv : Value} (q : Qu ow w b nm gr wt tp gv wv)
    (hf : Fresh ow w) (y : Nat) (hy : has gr y = true) (hms : ∀ r ∈ gr, r.m < 2) (hlen : gr.length ≤ 8) :
    Calls Ybad.prog 52 #[.pointer (some ⟨b, 0, none⟩), .int .i64 y, .int .i64 1] w fun e w' => e = .returned (.tuple #[]) ∧ Convd ow w b nm gr wt tp gv wv y w' := by
  obtain ⟨i, r, hi1, hi, hr, hry, -⟩ : ∃ i r, gidxI gr y = ((i : Nat) : Int) ∧ i < gr.length ∧ gr[i]? = some r ∧ r.y = y ∧ has gr y = true := by
    rcases gidx_cases gr y with ⟨_, h⟩ | h
    · rw [h] at hy; cases hy
    · exact h
  have hrm := hms r (List.mem_of_getElem? hr)
  have hpos := cnt_pos hr
  have hk0 := cnt_le 0 gr
  have hk1 := cnt_le 1 gr
  obtain ⟨g, cap, cur, rfl, _, hg, hncap, hcm, hsz, hcur⟩ : ∃ g cap cur, gv = .slice (some ⟨g, 0, none⟩) gr.length cap ∧ 0 ≤ g ∧ w.heap[g]? = some (.cells cur 83 (0, 0)) ∧ gr.length ≤ cap ∧ cap ≤ maxLen ∧ cur.size = cap * 4 ∧ cur.toList.take (gr.length * 4) = rcs gr := by
    rcases q.grow.2 with ⟨_, h0⟩ | h
    · omega
    · exact h
  obtain ⟨n, hn⟩ : ∃ n, gr.length = n := ⟨_, rfl⟩
  rw [hn] at q hncap hcur hlen hk0 hk1 hi ⊢
  have c1 := q.c.2.1
  have GS : Aside (Seg w (.slice (some ⟨g, 0, none⟩) n cap) gr) := q.gseg
  have hbl := heap_lt q.blk
  have hgl := heap_lt hg
  have hbg : b ≠ g := q.ne_row rfl
  have MID : Aside (∀ w1, Below w.heap.size w w1 → (w1.cell? ⟨b, 1, none⟩ = some (.slice (some ⟨g, 0, none⟩) n cap) ∧ w1.cell? ⟨b, 3, none⟩ = some (.int .i64 (cnt 0 gr : Nat)) ∧ w1.cell? ⟨b, 4, none⟩ = some (.int .i64 (cnt 1 gr : Nat)) ∧ w1.frozen? ⟨b, 3, none⟩ = false ∧ w1.frozen? ⟨b, 4, none⟩ = false ∧ w1.cell? ⟨g, i * 4 + 1, none⟩ = some (.int .i64 r.m) ∧ w1.frozen? ⟨g, i * 4 + 1, none⟩ = false ∧ b < w1.heap.size ∧ g < w1.heap.size)) := by
    intro w1 hbel
    have q1 := q.fr (Fr.of_below hf hbel) (by simp)
    obtain ⟨d0, d1, d2, d3, d4, d5, d6, d7, fz⟩ := q1.c
    have hg1 : w1.heap[g]? = some (.cells cur 83 (0, 0)) := (hbel.block g hgl).trans hg
    refine ⟨d1, d3, d4, fz 3, fz 4, ?_, frozen_of_row _ _ _ _ _ hg1, heap_lt q1.blk, heap_lt hg1⟩
    rw [cell_of_row _ _ _ _ _ _ hg1]
    have := (rcs_at gr i r hr).2.1
    rw [← hcur, List.getElem?_take, if_pos (by omega), Array.getElem?_toList] at this
    exact this
  have FIN : Aside (∀ w1 (x2 : Int), Below w.heap.size w w1 → x2 = (cnt 1 gr : Nat) + (if r.m = 1 then 0 else 1) →
      Convd ow w b nm gr wt tp (.slice (some ⟨g, 0, none⟩) n cap) wv y (((w1.setCell ⟨b, 3 + r.m, none⟩ (.int .i64 ((cnt r.m gr : Nat) - 1))).setCell ⟨g, i * 4 + 1, none⟩ (.int .i64 1)).setCell ⟨b, 4, none⟩ (.int .i64 x2))) := by
    intro w1 x2 hbel hx
    have F1 := Fr.of_below hf hbel
    have q1 := q.fr F1 (by simp)
    have e1 := cnt_setM 1 1 gr i r hr
    obtain ⟨FF, qq⟩ := q1.converted F1.fresh0 hn hr hrm (x2 := x2) (by rw [hx]; have := congrArg (Nat.cast (R := Int)) e1; by_cases h : r.m = 1 <;> simp [h] at this ⊢ <;> omega)
    exact ⟨i, r, hr, hry, (F1.trans FF).mono (by simp), qq⟩
  obtain ⟨ry, rm, ru⟩ := r
  simp only at hrm hry hpos MID FIN
  clear q hn hcur hsz hg hr hms hy hf hcm
  go_enter Ybad.func52, Ybad.ntmps52
  go_wp2_with fail
  refine (grantedIndex b y w _ gr c1 GS.out).mono ?_
  rintro e w1 ⟨rfl, hbel⟩
  rw [hi1]
  obtain ⟨d1, d3, d4, z3, z4, dr, zr, sb, sg⟩ := MID.out w1 hbel
  have BE : Aside (Below w.heap.size w w1) := hbel
  clear hbel MID hi1 c1 hbl hgl
  rcases (by omega : rm = 0 ∨ rm = 1) with rfl | rfl
  all_goals
    go_wp2
    go_region
    go_wp2
    go_region
    all_goals
      go_end0
      refine ⟨rfl, ?_⟩
      exact (FIN.out w1 _ BE.out (by simp)).drew.drew

end Go.Proofs.YbulkbcpiDoor.rel
