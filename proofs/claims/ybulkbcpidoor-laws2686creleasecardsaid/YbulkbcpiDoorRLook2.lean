/-
  Seat b2686aD: what is seen of the manager: the walk.
-/
import Derived.Test.YbulkbcpiDoorRLook
namespace Go.Proofs.YbulkbcpiDoor.rel
open Go.RowKit

theorem Ybad.info44 : (Ybad.prog.info? 44).map (·.size) = some 21 := by kernel_rfl
theorem info44v {s : St} : (Ybad.prog.info? 44).map (·.size) = some (view s).size := by rw [Ybad.info44]; simp [view, va_size]

theorem view_one (s : St) : (view s).all (·.oneCell') = true := by
  rw [Array.all_eq_true_iff_forall_mem]
  intro u hu
  rw [Array.mem_iff_getElem?] at hu
  obtain ⟨k, hk⟩ := hu
  have hlt : k < 21 := by
    have := (Array.getElem?_eq_some_iff.1 hk).1
    simpa [view, va_size] using this
  unfold view at hk
  rw [va_at _ _ _ _ hlt] at hk
  cases hk
  unfold vc
  split
  · rfl
  · split
    · rfl
    · split
      · split <;> rfl
      · rfl

theorem below_setRow {B g : Nat} {a w : World} (h : Below B a w) (hg : B ≤ g) (cs : Array Value) : Below B a (w.setRow g cs) := by
  refine h.trans ⟨rfl, rfl, rfl, by simp, fun k hk => ?_⟩
  simp [World.setRow, Array.getElem?_modify, show g ≠ k by omega]

theorem lks_le (s : St) : ∀ {i : Nat}, i ≤ 3 → lks s i ≤ 3 := by
  have : ∀ i, lks s i ≤ i := by
    intro i
    induction i with
    | zero => exact Nat.le_refl _
    | succ i ih => simp only [lks]; split <;> omega
  intro i hi
  have := this i
  omega

theorem any4 {l : List Req} {y : Nat} (hy : y < 4) (h : has l y = true) : (has l 0 || has l 1 || has l 2 || has l 3) = true := by
  rcases (by omega : y = 0 ∨ y = 1 ∨ y = 2 ∨ y = 3) with rfl | rfl | rfl | rfl <;> simp [h]

section
variable {ow : Nat → Option Nat} {w : World} {M qm tm : Nat} {s : St}

structure VS (w : World) (s : St) (y i lk : Nat) (wr : World) : Prop where
  bel : Below w.heap.size w wr
  res : wr.heap[w.heap.size]? = some (.cells (va s 0 0 0) 44 (0, 0))
  blk : wr.heap[w.heap.size + 1]? = some (.cells (va s y i lk) 44 (0, 0))

theorem VS.below {y i lk : Nat} {wr w' : World} (h : VS w s y i lk wr) (b : Below wr.heap.size wr w') : VS w s y i lk w' :=
  ⟨h.bel.trans (b.mono (Nat.le_of_lt (heap_lt h.res))), by rw [b.block _ (heap_lt h.res)]; exact h.res, by rw [b.block _ (heap_lt h.blk)]; exact h.blk⟩

theorem VS.cell {y i lk : Nat} {wr : World} (h : VS w s y i lk wr) {k : Nat} (hk : k < 21) : wr.cell? ⟨w.heap.size + 1, k, none⟩ = some (vc s y i lk k) := by
  rw [cell_of_row _ _ _ _ _ _ h.blk]
  exact va_at _ _ _ _ hk

theorem VS.heldCell {y i lk : Nat} {wr : World} (h : VS w s y i lk wr) {k : Nat} (hk : k < 12) : ∃ b, wr.cell? ⟨w.heap.size + 1, k, none⟩ = some (.bool b) := by
  have := h.cell (k := k) (by omega)
  unfold vc at this
  rw [if_pos hk] at this
  exact ⟨_, this⟩

theorem VS.waitCell {y i lk : Nat} {wr : World} (h : VS w s y i lk wr) {z : Nat} (hz : z < 4) : ∃ b, wr.cell? ⟨w.heap.size + 1, 12 + z, none⟩ = some (.bool b) := by
  have := h.cell (k := 12 + z) (by omega)
  unfold vc at this
  rw [if_neg (by omega), if_pos (by omega)] at this
  exact ⟨_, this⟩

theorem VS.itemCell {y i lk : Nat} {wr : World} (h : VS w s y i lk wr) {z : Nat} (hz : z < 4) : ∃ b, wr.cell? ⟨w.heap.size + 1, 16 + z, none⟩ = some (.string b) := by
  by_cases hy : z < y
  · refine ⟨wn s z, (h.cell (k := 16 + z) (by omega)).trans ?_⟩
    unfold vc
    rw [if_neg (by omega), if_neg (by omega), if_pos (by omega), if_pos (by omega), Nat.add_sub_cancel_left]
  · refine ⟨⟨#[]⟩, (h.cell (k := 16 + z) (by omega)).trans ?_⟩
    unfold vc
    rw [if_neg (by omega), if_neg (by omega), if_pos (by omega), if_neg (by omega)]

theorem VS.put {y i lk : Nat} {wr : World} (h : VS w s y i lk wr) (k : Nat) (u : Value) {y' i' lk' : Nat} (e : (va s y i lk).setIfInBounds k u = va s y' i' lk') : VS w s y' i' lk' (wr.setCell ⟨w.heap.size + 1, k, none⟩ u) :=
  ⟨h.bel.setCell (by simp) u, by rw [hset_other _ _ _ (by simp)]; exact h.res, by rw [hset_same h.blk, e]⟩

set_option maxRecDepth 50000 in
set_option maxHeartbeats 4000000 in
theorem look (h : Rep ow w M qm tm s) (I : Inv NoE NoE s) :
    Calls Ybad.prog 10 #[.pointer (some ⟨M, 0, none⟩)] w fun e w' => e = .returned (.agg (view s)) ∧ Below w.heap.size w w' := by
  have HOLD : Aside (∀ y i lk wr, VS w s y i lk wr → y < 4 → i < 3 → Calls Ybad.prog 25 #[.pointer (some ⟨M, 0, none⟩), .int .i64 (y : Int), .string (name i)] wr fun e w' => (∃ m : Nat, e = .returned (.tuple #[.int .i64 m, .bool (has (s.gr i) y)])) ∧ VS w s y i lk w') := by
    intro y i lk wr v hy hi
    refine (holds (h.still (fr_below v.bel h.fresh)) I hi y).mono ?_
    rintro e w' ⟨hm, b⟩
    exact ⟨hm, v.below b⟩
  have WAIT : Aside (∀ y i lk wr, VS w s y i lk wr → y < 4 → Calls Ybad.prog 26 #[.pointer (some ⟨M, 0, none⟩), .int .i64 (y : Int)] wr fun e w' => e = .returned (.tuple #[.string (wn s y), .bool (s.wl y).isSome]) ∧ w' = wr) := fun y i lk wr v hy => waiting (h.still (fr_below v.bel h.fresh)) I y hy
  have START : Aside (VS w s 0 0 0 ((w.alloc (.cells (va s 0 0 0) 44)).alloc (.cells (va s 0 0 0) 44))) := by
    refine ⟨((Below.refl _ _).alloc (Nat.le_refl _) _).alloc (by simp) _, ?_, ?_⟩
    · rw [Below.heap_alloc _ _ _ (by simp)]
      exact heap_new w _
    · have := heap_new (w.alloc (.cells (va s 0 0 0) 44)) (.cells (va s 0 0 0) 44)
      simp only [World.alloc, Array.size_push] at this ⊢
      exact this
  have LO : Aside (lks s 3 = s.lo) := lks_lo I
  clear h I
  rw [va_zero] at START
  go_enter Ybad.func10, Ybad.ntmps10
  go_wp2
  go_loopw [4] (fun yv wr => ∃ y : Nat, y ≤ 4 ∧ yv = .int .i64 (y : Int) ∧ VS w s y 0 0 wr) (fun yv _ => 4 - (intOf yv).toNat)
  case atStart => exact ⟨0, by omega, rfl, START.out⟩
  case round =>
    obtain ⟨y, hy4, rfl, hV⟩ := hrel
    clear START
    by_cases hlt : y < 4
    · have V0 := hide hV
      have hyI : (y : Int) < 4 := by omega
      clear hV
      go_wp2
      go_loopw [5] (fun iv wr2 => ∃ i : Nat, i ≤ 3 ∧ iv = .int .i64 (i : Int) ∧ VS w s y i 0 wr2) (fun iv _ => 3 - (intOf iv).toNat)
      case atStart => exact ⟨0, by omega, rfl, V0.out⟩
      case round =>
        obtain ⟨i, hi3, rfl, hV⟩ := hrel
        clear V0
        by_cases hl3 : i < 3
        · have HC := hide (HOLD.out y i 0 wr hV hlt hl3)
          clear hV HOLD WAIT
          rcases (by omega : i = 0 ∨ i = 1 ∨ i = 2) with rfl | rfl | rfl
          · go_wp2_with fail
            refine (citem 0 (by omega) wr).mono ?_
            rintro e w1 ⟨rfl, rfl⟩
            go_wp2_with fail
            refine HC.out.mono ?_
            rintro e w2 ⟨⟨m, rfl⟩, hV⟩
            obtain ⟨bv, c⟩ := hV.heldCell (k := y * 3) (by omega)
            have z : w2.frozen? ⟨w.heap.size + 1, y * 3, none⟩ = false := frozen_of_row _ _ _ _ _ hV.blk
            have lv := heap_lt hV.blk
            have E : Aside (VS w s y 1 0 (w2.setCell ⟨w.heap.size + 1, y * 3, none⟩ (.bool (has (s.gr 0) y)))) := hV.put _ _ (va_held s hlt (i := 0) (by omega) 0)
            clear hV HC
            go_wp2
            go_roundw
            case rel => exact ⟨1, by omega, rfl, E.out⟩
            case measure => simp [intOf]
          · go_wp2_with fail
            refine (citem 1 (by omega) wr).mono ?_
            rintro e w1 ⟨rfl, rfl⟩
            go_wp2_with fail
            refine HC.out.mono ?_
            rintro e w2 ⟨⟨m, rfl⟩, hV⟩
            obtain ⟨bv, c⟩ := hV.heldCell (k := y * 3 + 1) (by omega)
            have z : w2.frozen? ⟨w.heap.size + 1, y * 3 + 1, none⟩ = false := frozen_of_row _ _ _ _ _ hV.blk
            have lv := heap_lt hV.blk
            have E : Aside (VS w s y 2 0 (w2.setCell ⟨w.heap.size + 1, y * 3 + 1, none⟩ (.bool (has (s.gr 1) y)))) := hV.put _ _ (va_held s hlt (i := 1) (by omega) 0)
            clear hV HC
            go_wp2
            go_roundw
            case rel => exact ⟨2, by omega, rfl, E.out⟩
            case measure => simp [intOf]
          · go_wp2_with fail
            refine (citem 2 (by omega) wr).mono ?_
            rintro e w1 ⟨rfl, rfl⟩
            go_wp2_with fail
            refine HC.out.mono ?_
            rintro e w2 ⟨⟨m, rfl⟩, hV⟩
            obtain ⟨bv, c⟩ := hV.heldCell (k := y * 3 + 2) (by omega)
            have z : w2.frozen? ⟨w.heap.size + 1, y * 3 + 2, none⟩ = false := frozen_of_row _ _ _ _ _ hV.blk
            have lv := heap_lt hV.blk
            have E : Aside (VS w s y 3 0 (w2.setCell ⟨w.heap.size + 1, y * 3 + 2, none⟩ (.bool (has (s.gr 2) y)))) := hV.put _ _ (va_held s hlt (i := 2) (by omega) 0)
            clear hV HC
            go_wp2
            go_roundw
            case rel => exact ⟨3, by omega, rfl, E.out⟩
            case measure => simp [intOf]
        · have hi : i = 3 := by omega
          subst hi
          have WC := hide (WAIT.out y 3 0 wr hV hlt)
          have VV := hide hV
          clear hV HOLD WAIT
          go_wp2_with fail
          refine WC.out.mono ?_
          rintro e w1 ⟨rfl, rfl⟩
          have hV := VV.out
          obtain ⟨bv, c⟩ := hV.waitCell hlt
          obtain ⟨nv, d⟩ := hV.itemCell hlt
          have z1 : w1.frozen? ⟨w.heap.size + 1, 12 + y, none⟩ = false := frozen_of_row _ _ _ _ _ hV.blk
          have z2 : w1.frozen? ⟨w.heap.size + 1, 16 + y, none⟩ = false := frozen_of_row _ _ _ _ _ hV.blk
          have lv := heap_lt hV.blk
          have E : Aside (VS w s (y + 1) 0 0 ((w1.setCell ⟨w.heap.size + 1, 16 + y, none⟩ (.string (wn s y))).setCell ⟨w.heap.size + 1, 12 + y, none⟩ (.bool (s.wl y).isSome))) := by
            refine ⟨(hV.bel.setCell (by simp) _).setCell (by simp) _, ?_, ?_⟩
            · rw [hset_other _ _ _ (by simp), hset_other _ _ _ (by simp)]; exact hV.res
            · rw [hset_same (hset_same hV.blk _ _), va_wait s hlt 0]
          clear hV VV WC
          go_wp2
          go_roundw
          case rel => exact ⟨y + 1, by omega, by go_num, E.out⟩
          case measure => simp [intOf]; omega
    · have hy : y = 4 := by omega
      subst hy
      have V0 := hide hV
      clear hV HOLD WAIT
      go_wp2
      go_loopw [8] (fun iv wr2 => ∃ i : Nat, i ≤ 3 ∧ iv = .int .i64 (i : Int) ∧ VS w s 4 0 (lks s i) wr2) (fun iv _ => 3 - (intOf iv).toNat)
      case atStart => exact ⟨0, by omega, rfl, V0.out⟩
      case round =>
        obtain ⟨i, hi3, rfl, hV⟩ := hrel
        clear V0
        by_cases hl3 : i < 3
        · have V1 := hide hV
          have hiI : (i : Int) < 3 := by omega
          clear hV
          go_wp2
          go_loopw [9] (fun yv wr3 => ∃ y : Nat, y ≤ 4 ∧ yv = .int .i64 (y : Int) ∧ VS w s 4 0 (lks s i) wr3 ∧ ∀ z, z < y → has (s.gr i) z = false) (fun yv _ => 4 - (intOf yv).toNat)
          case atStart => exact ⟨0, by omega, rfl, V1.out, fun z hz => by omega⟩
          case round =>
            obtain ⟨y, hy4, rfl, hV, hno⟩ := hrel
            clear V1
            have HNO := hide hno
            clear hno
            by_cases hlt : y < 4
            · have c := hV.cell (k := y * 3 + i) (by omega)
              have h1 : (y * 3 + i) % 3 = i := by omega
              have h2 : (y * 3 + i) / 3 = y := by omega
              simp only [vc, if_pos (show y * 3 + i < 12 by omega), h1, h2, decide_eq_true (show y * 3 + i < 4 * 3 + 0 by omega), Bool.true_and] at c
              have lv := heap_lt hV.blk
              have cl : wr.cell? ⟨w.heap.size + 1, 20, none⟩ = some (.int .i64 (lks s i : Int)) := hV.cell (k := 20) (by omega)
              have zl : wr.frozen? ⟨w.heap.size + 1, 20, none⟩ = false := frozen_of_row _ _ _ _ _ hV.blk
              have hyI : (y : Int) < 4 := by omega
              have hlk : lks s i ≤ 3 := lks_le s hi3
              have VV := hide hV
              clear hV h1 h2
              cases hh : has (s.gr i) y with
              | true =>
                rw [hh] at c
                have E : Aside (VS w s 4 0 (lks s (i + 1)) (wr.setCell ⟨w.heap.size + 1, 20, none⟩ (.int .i64 ((lks s i : Int) + 1)))) := by
                  have e : lks s (i + 1) = lks s i + 1 := by
                    simp only [lks]
                    rw [if_pos (any4 hlt hh)]
                  rw [e]
                  exact VV.out.put 20 _ (by rw [show ((lks s i : Int) + 1) = ((lks s i + 1 : Nat) : Int) by omega]; exact va_lock s 4 0 _ _)
                go_wp2
                go_roundw
                case rel => exact ⟨i + 1, by omega, by go_num, E.out⟩
                case measure => simp [intOf]; omega
              | false =>
                rw [hh] at c
                go_wp2
                go_roundw
                case rel =>
                  refine ⟨y + 1, by omega, by go_num, VV.out, fun z hz => ?_⟩
                  by_cases e : z = y
                  · subst e; exact hh
                  · exact HNO.out z (by omega)
                case measure => simp [intOf]; omega
            · have hy : y = 4 := by omega
              subst hy
              have E : Aside (VS w s 4 0 (lks s (i + 1)) wr) := by
                have e : lks s (i + 1) = lks s i := by
                  simp only [lks, HNO.out 0 (by omega), HNO.out 1 (by omega), HNO.out 2 (by omega), HNO.out 3 (by omega)]
                  rfl
                rw [e]
                exact hV
              clear hV
              go_wp2
              go_roundw
              case rel => exact ⟨i + 1, by omega, by go_num, E.out⟩
              case measure => simp [intOf]; omega
        · have hi : i = 3 := by omega
          subst hi
          rw [LO.out] at hV
          have VB : Aside (wr.heap[w.heap.size + 1]? = some (.cells (view s) 44 (0, 0))) := hV.blk
          have RB : Aside (wr.heap[w.heap.size]? = some (.cells (va s 0 0 0) 44 (0, 0))) := hV.res
          have BB : Aside (Below w.heap.size w (wr.setRow w.heap.size (view s))) := below_setRow hV.bel (Nat.le_refl _) _
          clear hV
          go_wp2_with (first
            | refine wpList_load_row rfl 44 (.tmp 3) rfl (w.heap.size + 1) rfl 44 (view s) (0, 0) _ VB.out Ybad.underlying44 rfl info44v ?_
            | refine wpList_store_row rfl 44 (.tmp 2) (.tmp 63) rfl w.heap.size (view s) rfl rfl 44 (va s 0 0 0) RB.out info44v (by rw [va_size]; exact (va_size _ _ _ _).symm) (view_one s) ?_)
          exact bodyPost_ret (results_cell_row Ybad.results10 _ _ w.heap.size 44 (view s) (0, 0) _ rfl (setRow_heap _ _ _ _ _ _ RB.out) Ybad.underlying44 rfl info44v) rfl ⟨rfl, BB.out⟩

end

end Go.Proofs.YbulkbcpiDoor.rel
