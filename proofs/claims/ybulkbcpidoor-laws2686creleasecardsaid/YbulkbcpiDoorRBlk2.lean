/-
  Seat b2686aD: a request's blockers.
-/
import Derived.Test.YbulkbcpiDoorRBlk
import Derived.Test.YbulkbcpiDoorRTake
namespace Go.Proofs.YbulkbcpiDoor.rel
open Go.RowKit

theorem Seg.take {w : World} {g off n cap : Nat} {l : List Req} (h : Seg w (.slice (some ⟨g, off, none⟩) n cap) l) (hn : l.length = n) {p : Nat} (hp : p ≤ n) : Seg w (.slice (some ⟨g, off, none⟩) p cap) (l.take p) := by
  rcases h with ⟨h, _⟩ | ⟨g', off', cap', cur, h1, h2, h3, h4, h5, h6⟩
  · cases h
  · injection h1 with h1 _ h1c
    injection h1 with h1
    injection h1 with h1 h1b _
    subst h1
    subst h1b
    subst h1c
    refine .inr ⟨g, off, cap, cur, by rw [List.length_take, Nat.min_eq_left (by omega)], h2, by rw [List.length_take]; omega, h4, h5, fun j u hu => h6 j u ?_⟩
    rw [← rcs_take, List.getElem?_take] at hu
    split at hu
    · exact hu
    · cases hu

theorem Ints.fr {w w' : World} {base : Nat} {v : Value} {zs : List Nat} (h : Ints w base v zs) (hb : ∀ g, v.ownBlock = some g → w'.heap[g]? = w.heap[g]?) : Ints w' base v zs := ownsRow_same h hb

theorem Cfd.first {w : World} {base : Nat} {m : Nat} {v : Value} {w' : World} (h : Cfd w base m v w') : ∃ zs, Ints w' base v zs ∧ zs.length ≤ m ∧ Below base w w' := h

set_option maxRecDepth 50000 in
set_option maxHeartbeats 4000000 in
theorem blockers {ow : Nat → Option Nat} {w : World} {b : Nat} {nm : ByteArray} {gr wt : List Req} {tp gv wv : Value} (q : Qu ow w b nm gr wt tp gv wv) (hf : Fresh ow w) (y m pos : Nat) (hpos : pos ≤ wt.length) (hl : gr.length ≤ 8) (hl2 : wt.length ≤ 8) :
    Calls Ybad.prog 37 #[.pointer (some ⟨b, 0, none⟩), .int .i64 y, .int .i64 m, .int .i64 pos] w fun e w' => ∃ v', e = .returned v' ∧ Cfd w w.heap.size (gr.length + pos) v' w' := by
  obtain ⟨c0, c1, c2, c3, c4, c5, c6, c7, fz⟩ := q.c
  have Q0 : Aside (Qu ow w b nm gr wt tp gv wv) := q
  have hb := heap_lt q.blk
  have N0 : Aside (Ints w.drew w.heap.size (.slice none 0 0) []) := World.ownsRow_nil _ _ _ _
  have G0 : Aside (Seg w.drew gv gr) := q.gseg
  have GB : Aside (∀ g, gv.ownBlock = some g → g < w.heap.size) := fun g e => ownsRow_lt q.grow e
  have MID : Aside (∀ w1, Below w.heap.size w.drew w1 → w1.cell? ⟨b, 2, none⟩ = some wv ∧ w1.cell? ⟨b, 5, none⟩ = some (.int .i64 (cnt 0 wt : Nat)) ∧ w1.cell? ⟨b, 6, none⟩ = some (.int .i64 (cnt 1 wt : Nat)) ∧ Hid (Qu ow w1 b nm gr wt tp gv wv) ∧ w.heap.size ≤ w1.heap.size) := by
    intro w1 h
    have q1 := q.fr (Fr.of_below (w1 := w1) hf ⟨h.os, h.tape, h.output, h.size, h.block⟩) (by simp)
    exact ⟨q1.c.2.2.1, q1.c.2.2.2.2.2.1, q1.c.2.2.2.2.2.2.1, q1, h.size⟩
  clear q fz c0 c5 c6 c7 c2
  go_enter Ybad.func37, Ybad.ntmps37
  go_wp2
  first | go_region_with (go_at_call 51; refine (conflicting (zs := []) G0.out GB.out N0.out (Nat.le_refl _) y m _ _ (by simp; omega)).mono ?_; rintro e w1 ⟨v1, rfl, hcf⟩) | fail
  all_goals
    obtain ⟨zs1, hI, hzl, hB⟩ := hcf
    obtain ⟨d2, d5, d6, hq1, hsz⟩ := MID.out w1 hB
    simp only [List.length_nil, Nat.zero_add] at hzl
    have BB : Aside (Below w.heap.size w w1) := ⟨hB.os, hB.tape, hB.output, hB.size, hB.block⟩
    have I1 : Aside (Ints w1.drew w.heap.size v1 zs1) := hI
    have hb1 : b < w1.heap.size := by omega
    rcases hq1.out.wrow with ⟨rfl, rfl⟩ | ⟨g, off, cap, cur, hwv, hg, hle, hcap, hs5, hcur⟩
    · obtain rfl : pos = 0 := by simpa using hpos
      have S1 : Aside (Seg w1.drew (.slice none 0 0) []) := .inl ⟨rfl, rfl⟩
      have SB : Aside (∀ g, (Value.slice none 0 0).ownBlock = some g → g < w.heap.size) := fun g e => by cases e
      clear hI hB MID hq1 c1 c3 c4
      go_wp2
      first | go_region_with (go_at_call 51; refine (conflicting (l := []) S1.out SB.out I1.out (by simpa using hsz) y m _ _ (by simp; omega)).mono ?_; rintro e w2 ⟨v2, rfl, hcf2⟩) | fail
      all_goals
        obtain ⟨zs2, hI2, hzl2, hB2⟩ := hcf2
        simp only [List.length_nil, Nat.add_zero] at hzl2
        have E1 : Aside (Cfd w w.heap.size (gr.length + 0) v2 w2) := ⟨zs2, hI2, by omega, BB.out.trans ⟨hB2.os, hB2.tape, hB2.output, hB2.size, hB2.block⟩⟩
        clear hI2 hB2
        go_wp2
        go_ret
        exact ⟨_, rfl, E1.out⟩
    · obtain ⟨n, hn⟩ : ∃ n, wt.length = n := ⟨_, rfl⟩
      rw [hn] at hwv hpos hle hl2
      subst hwv
      have hsegn : Seg w1 (.slice (some ⟨g, off, none⟩) n cap) wt := hq1.out.wrow
      have S1 : Aside (Seg w1.drew (.slice (some ⟨g, off, none⟩) pos cap) (wt.take pos)) := hsegn.take hn hpos
      have SB : Aside (∀ k, (Value.slice (some ⟨g, off, none⟩) pos cap).ownBlock = some k → k < w.heap.size) := fun k e => by
        simp [Value.ownBlock] at e
        subst e
        exact Q0.out.wrow.lt rfl
      have LT : Aside ((wt.take pos).length = pos) := by show (wt.take pos).length = pos; rw [List.length_take]; omega
      have hlz : zs1.length + (wt.take pos).length < 500 := by rw [LT.out]; omega
      clear hI hB MID hq1 c1 c3 c4 hsegn hg hcur hn Q0
      have hpc : pos ≤ cap := by omega
      have hpI : (pos : Int) ≤ (cap : Int) := by omega
      go_wp2
      first | go_region_with (go_at_call 51; refine (conflicting S1.out SB.out I1.out (by simpa using hsz) y m _ _ hlz).mono ?_; rintro e w2 ⟨v2, rfl, hcf2⟩) | fail
      all_goals
        obtain ⟨zs2, hI2, hzl2, hB2⟩ := hcf2
        have E1 : Aside (Cfd w w.heap.size (gr.length + pos) v2 w2) := ⟨zs2, hI2, by rw [LT.out] at hzl2; omega, BB.out.trans ⟨hB2.os, hB2.tape, hB2.output, hB2.size, hB2.block⟩⟩
        clear hI2 hB2 hzl2
        go_wp2
        go_ret
        exact ⟨_, rfl, E1.out⟩

end Go.Proofs.YbulkbcpiDoor.rel
