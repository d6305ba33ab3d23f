/-
  Seat b2686aD: slices.Insert of one request at the head.
-/
import Derived.Test.YbulkbcpiDoorRIns
namespace Go.Proofs.YbulkbcpiDoor.rel
open Go.RowKit

theorem run_append_zeros0 (w : World) (ty : TypeId) (a : Addr) (N cap : Nat) (h0 : cap < N) (hN : N ≤ 100) :
    (Builtin.append_ #[84, 3] ty #[.slice (some a) 0 cap, .int .i64 N]).run Ybad.prog w =
      .ok (.slice (some ⟨w.heap.size, 0, none⟩) N (grownCap w N cap 83)) (w.drew.alloc (.cells (Builtin.zeroCells #[.int .i64 0, .int .i64 0, .bool false, .bool false] N ++ Builtin.zeroCells #[.int .i64 0, .int .i64 0, .bool false, .bool false] (grownCap w N cap 83 - N)) 83)) := by
  obtain ⟨ti, hi, hz0, hz1, hz2⟩ := info_parts Ybad.info83
  have hw : IntKind.i64.wrap (N : Int) = N := by rw [IntKind.wrap_i64]; omega
  have hneg : ¬ ((N : Int) < 0) := by omega
  have h48i : ¬ (281474976710656 < (N : Int) * 24) := by omega
  have hns : ¬ (N * 4 = 0) := by omega
  have hnc : ¬ (N ≤ cap) := by omega
  have h48 : ¬ (281474976710656 < Builtin.nextslicecap N cap * 24) := by
    have := growslice_fits (bytes := 24) h0 (show N * 24 ≤ 140737488355328 by omega)
    omega
  have h63 : ¬ (9223372036854775807 < (N : Int)) := by omega
  have hf := run_firstCells_some (P := Ybad.prog) w.drew 4 0 a 0 cap [] rfl (fun j v hj => by simp at hj)
  simp [Builtin.append_, run_underlying Ybad.underlying84, run_underlying Ybad.underlying3, sizeOf, typeInfo, zeroValue, hi, hz0, hz1, hz2, asInt, asIntOf, hw, hneg, h48i, hns, hnc, h63, h48, Question.forced, hf, newRow, grownCap, Value.cells]


theorem size_zeroCells4 (N : Nat) : (Builtin.zeroCells #[.int .i64 0, .int .i64 0, .bool false, .bool false] N).size = N * 4 := by simp [Builtin.zeroCells]

theorem size83 (w : World) : (Go.sizeOf 83).run Ybad.prog w = .ok 4 w := by kernel_rfl

theorem overlapsNot {w : World} {B g o lb cb : Nat} {cur : Array Value} {c4 : Array Value} (hB : w.heap[B]? = some (.cells c4 83 (0, 0))) (hg : w.heap[g]? = some (.cells cur 83 (0, 0))) (hne : B ≠ g) (hcur : cur.size ≠ 0) :
    (callFunc 66 #[.slice (some ⟨B, 0, none⟩) 1 1, .slice (some ⟨g, o, none⟩) lb cb]).run Ybad.prog w = .ok (.value (.bool false)) w := by
  rw [run_callFunc_extern Ybad.func66 (by kernel_rfl) (by kernel_rfl) (by kernel_rfl) (e := Extern.SlicesOverlaps.overlaps #[84, 84] #[4]) (by kernel_rfl),
    Lib.run_overlaps_apart w 84 4 83 Ybad.underlying84 4 size83 ⟨B, 0, none⟩ ⟨g, o, none⟩ 1 1 lb cb hne 83 83 c4.size cur.size (by simp [World.shape?, hB]) (by simp [World.shape?, hg]) hcur (frozen_of_row _ _ _ _ _ hB) (frozen_of_row _ _ _ _ _ hB)]
  rfl

theorem over_front {cur : Array Value} {l : List Req} {r : Req} {off cap n : Nat} (hn : l.length = n) (hsz : off + cap * 4 ≤ cur.size) (hcap : n + 1 ≤ cap) : ∀ j u, (rcs (r :: l))[j]? = some u → (over (over cur (off + 4) (rcs l)) off (rc r))[off + j]? = some u := by
  intro j u hu
  have hj := (List.getElem?_eq_some_iff.1 hu).1
  have hl : (rcs l).length = n * 4 := by rw [rcs_length, hn]
  have hr : (rc r).length = 4 := rfl
  rw [rcs_cons, List.length_append, hl, hr] at hj
  rw [over_get _ _ _ _ (by rw [over_size, hr]; omega), hr]
  rw [rcs_cons] at hu
  by_cases h : j < 4
  · rw [if_pos (by omega), show off + j - off = j by omega]
    rwa [List.getElem?_append_left (by rw [hr]; exact h)] at hu
  · rw [if_neg (by omega), over_get _ _ _ _ (by rw [hl]; omega), hl, if_pos (by omega), show off + j - (off + 4) = j - 4 by omega]
    rwa [List.getElem?_append_right (by rw [hr]; omega), hr] at hu

set_option maxRecDepth 50000 in
set_option maxHeartbeats 4000000 in
/-- At the head, there is room. -/
theorem insertRoom {w : World} {g off cap n : Nat} {cur : Array Value} {l : List Req} (hg : w.heap[g]? = some (.cells cur 83 (0, 0))) (hn : l.length = n) (h1 : 1 ≤ n) (hcap : n + 1 ≤ cap) (hcm : cap ≤ maxLen) (hsz : off + cap * 4 ≤ cur.size) (hcur : ∀ j u, (rcs l)[j]? = some u → cur[off + j]? = some u)
    (r : Req) (B : Nat) (hB : w.heap[B]? = some (.cells #[.int .i64 r.y, .int .i64 r.m, .bool r.u, .bool false] 83 (0, 0))) (hne : B ≠ g) (hl8 : n ≤ 8) :
    Calls Ybad.prog 56 #[.slice (some ⟨g, off, none⟩) n cap, .int .i64 0, .slice (some ⟨B, 0, none⟩) 1 1] w fun e w' => ∃ v', e = .returned v' ∧ Insd w (some g) (r :: l) v' w' := by
  have hov : ∀ lb cb, (callFunc 66 #[.slice (some ⟨B, 0, none⟩) 1 1, .slice (some ⟨g, off + 4, none⟩) lb cb]).run Ybad.prog w = .ok (.value (.bool false)) w := fun lb cb => overlapsNot hB hg hne (by omega)
  have hlen : (rcs l).length = n * 4 := by rw [rcs_length, hn]
  have hcp1 : ∀ dc sc ty, (Builtin.copy_ #[84, 84] ty #[.slice (some ⟨g, off + 4, none⟩) n dc, .slice (some ⟨g, off, none⟩) (n + 1) sc]).run Ybad.prog w.drew = .ok (goInt n) (w.drew.setCells g (off + 4) (rcs l)) := fun dc sc ty =>
    run_copy4 w.drew ty g (off + 4) n dc ⟨g, off, none⟩ (n + 1) sc n (rcs l) (by simp) hlen
      (fun j v hj => by rw [Addr.add_lit]; exact (cell_of_row _ _ _ _ _ _ hg).trans (hcur j v hj))
      (fun j hj => by
        rw [hlen] at hj
        show (w.cell? _).isSome = true
        rw [cell_of_row _ _ _ _ _ _ hg, Array.getElem?_eq_getElem (by omega)]
        rfl)
      (fun j _ => frozen_of_row _ _ _ _ _ hg) (rcs_oneCell l)
  obtain ⟨W1, hW1⟩ : ∃ W1, W1 = w.drew.setCells g (off + 4) (rcs l) := ⟨_, rfl⟩
  have hg1 : W1.heap[g]? = some (.cells (over cur (off + 4) (rcs l)) 83 (0, 0)) := by rw [hW1]; exact heap_setCells_same _ _ w.drew cur hg
  have hB1 : W1.heap[B]? = some (.cells #[.int .i64 r.y, .int .i64 r.m, .bool r.u, .bool false] 83 (0, 0)) := by rw [hW1, heap_setCells_ne (Ne.symm hne)]; exact hB
  have hcp2 : ∀ dc ty, (Builtin.copy_ #[84, 84] ty #[.slice (some ⟨g, off, none⟩) (n + 1) dc, .slice (some ⟨B, 0, none⟩) 1 1]).run Ybad.prog W1 = .ok (goInt 1) (W1.setCells g off (rc r)) := fun dc ty =>
    run_copy4 W1 ty g off (n + 1) dc ⟨B, 0, none⟩ 1 1 1 (rc r) (by simp) rfl (World.news_of_block hB1)
      (fun j hj => by
        simp [rc] at hj
        rw [cell_of_row _ _ _ _ _ _ hg1, Array.getElem?_eq_getElem (by rw [over_size]; omega)]
        rfl)
      (fun j _ => frozen_of_row _ _ _ _ _ hg1) (by
        intro u hu
        simp [rc] at hu
        rcases hu with rfl | rfl | rfl | rfl <;> rfl)
  rw [← hW1] at hcp1
  have E1 : Aside (Insd w (some g) (r :: l) (.slice (some ⟨g, off, none⟩) (n + 1) cap) (W1.setCells g off (rc r))) := by
    refine ⟨.inr ⟨g, off, cap, _, by rw [List.length_cons, hn], heap_setCells_same _ _ W1 _ hg1, by rw [List.length_cons, hn]; exact hcap, hcm, by rw [over_size, over_size]; exact hsz, over_front hn hsz hcap⟩, ?_, g, rfl, .inl rfl, ?_⟩
    · rw [hW1]
      have a1 : w.grownBy w.drew (some g) := ⟨rfl, rfl, rfl, Nat.le_refl _, fun _ _ _ => rfl⟩
      exact (a1.trans (grownBy_setCells _ _)).trans (grownBy_setCells _ _)
    · rw [size_setCells]; exact heap_lt hg1
  have hcn : ¬ cap = 1 := by omega
  have hcn0 : ¬ cap = 0 := by omega
  have hw1 : IntKind.i64.wrap 1 = 1 := by decide
  have hp1 : (1 : Int) ≤ (n : Int) + 1 := by omega
  have hp0 : (0 : Int) ≤ (n : Int) + 1 := by omega
  have hn0 : ((0 : Int) == (n : Int)) = false := by rw [beq_eq_false_iff_ne]; omega
  have hgt : ¬ ((cap : Int) < (n : Int) + 1) := by omega
  simp only [maxLen] at hcm
  clear hW1 hg1 hB1 hB hg hcur hsz hlen hn
  go_enter Ybad.func56, Ybad.ntmps56
  go_wp2_with (simp only [hov])
  go_region_law (refine step_copy_run rfl (.tmp 73) (.tmp 76) 84 84 rfl _ _ (by simp [Act.eval]) (by simp [Act.eval]) (hcp1 _ _) ?_)
  go_wp2_with (at_builtin; refine wpList_copy_run _ rfl (.tmp 80) (.tmp 81) 84 84 rfl _ _ rfl rfl (hcp2 _) ?_)
  go_ret
  exact ⟨_, rfl, E1.out⟩


theorem over_front0 {cur : Array Value} {l : List Req} {r : Req} {n : Nat} (hn : l.length = n) (hsz : (n + 1) * 4 ≤ cur.size) : (over (over cur 0 (rc r)) 4 (rcs l)).toList.take ((n + 1) * 4) = rcs (r :: l) := by
  have hl : (rcs l).length = n * 4 := by rw [rcs_length, hn]
  have hr : (rc r).length = 4 := rfl
  apply List.ext_getElem?
  intro j
  rw [List.getElem?_take, rcs_cons]
  by_cases hj : j < (n + 1) * 4
  · rw [if_pos hj, Array.getElem?_toList, over_get _ _ _ _ (by rw [over_size, hl]; omega), hl]
    by_cases h4 : j < 4
    · rw [if_neg (by omega), over_get _ _ _ _ (by rw [hr]; omega), hr, if_pos (by omega), List.getElem?_append_left (by rw [hr]; exact h4)]
      rfl
    · rw [if_pos (by omega), List.getElem?_append_right (by rw [hr]; omega), hr]
  · rw [if_neg hj, List.getElem?_eq_none]
    rw [List.length_append, hl, hr]
    omega

set_option maxRecDepth 50000 in
set_option maxHeartbeats 4000000 in
/-- At the head, there is no room. -/
theorem insertGrow {w : World} {g off cap n : Nat} {cur : Array Value} {l : List Req} (hg : w.heap[g]? = some (.cells cur 83 (0, 0))) (hn : l.length = n) (h1 : 1 ≤ n) (hcap : cap = n) (hcur : ∀ j u, (rcs l)[j]? = some u → cur[off + j]? = some u)
    (r : Req) (B : Nat) (hB : w.heap[B]? = some (.cells #[.int .i64 r.y, .int .i64 r.m, .bool r.u, .bool false] 83 (0, 0))) (hl8 : n ≤ 8) :
    Calls Ybad.prog 56 #[.slice (some ⟨g, off, none⟩) n cap, .int .i64 0, .slice (some ⟨B, 0, none⟩) 1 1] w fun e w' => ∃ v', e = .returned v' ∧ Insd w (some g) (r :: l) v' w' := by
  subst hcap
  have hlen : (rcs l).length = cap * 4 := by rw [rcs_length, hn]
  obtain ⟨C, hC⟩ : ∃ C, C = grownCap w (cap + 1) cap 83 := ⟨_, rfl⟩
  have hCge : cap + 1 ≤ C := by rw [hC]; exact grownCap_ge w (cap + 1) cap 83
  have hCm : C ≤ maxLen := by rw [hC]; exact grownCap_le_maxLen w (cap + 1) cap 83 (by simp only [maxLen]; omega)
  obtain ⟨zs, hzs⟩ : ∃ zs, zs = Builtin.zeroCells #[.int .i64 0, .int .i64 0, .bool false, .bool false] (cap + 1) ++ Builtin.zeroCells #[.int .i64 0, .int .i64 0, .bool false, .bool false] (C - (cap + 1)) := ⟨_, rfl⟩
  have hzsz : zs.size = C * 4 := by rw [hzs, Array.size_append, size_zeroCells4, size_zeroCells4]; omega
  obtain ⟨W0, hW0⟩ : ∃ W0, W0 = w.drew.alloc (.cells zs 83) := ⟨_, rfl⟩
  obtain ⟨H, hH⟩ : ∃ H, H = w.heap.size := ⟨_, rfl⟩
  have hap : ∀ ty, (Builtin.append_ #[84, 3] ty #[.slice (some ⟨g, off, none⟩) 0 cap, .int .i64 ((cap : Int) + 1)]).run Ybad.prog w = .ok (.slice (some ⟨H, 0, none⟩) (cap + 1) C) W0 := fun ty => by
    have := run_append_zeros0 w ty ⟨g, off, none⟩ (cap + 1) cap (by omega) (by omega)
    rw [hW0, hzs, hC, hH, ← this]
    rfl
  have hgl := heap_lt hg
  have hBl := heap_lt hB
  have hH0 : W0.heap[H]? = some (.cells zs 83 (0, 0)) := by rw [hW0, hH]; exact heap_new w.drew _
  have hold : ∀ k, k < w.heap.size → W0.heap[k]? = w.heap[k]? := fun k hk => by rw [hW0]; exact Below.heap_alloc w.drew _ k hk
  have hcp1 : ∀ dc ty, (Builtin.copy_ #[84, 84] ty #[.slice (some ⟨H, 0, none⟩) (cap + 1) dc, .slice (some ⟨B, 0, none⟩) 1 1]).run Ybad.prog W0 = .ok (goInt 1) (W0.setCells H 0 (rc r)) := fun dc ty =>
    run_copy4 W0 ty H 0 (cap + 1) dc ⟨B, 0, none⟩ 1 1 1 (rc r) (by simp) rfl (World.news_of_block ((hold B hBl).trans hB))
      (fun j hj => by
        simp [rc] at hj
        rw [cell_of_row _ _ _ _ _ _ hH0, Array.getElem?_eq_getElem (by omega)]
        rfl)
      (fun j _ => frozen_of_row _ _ _ _ _ hH0) (by
        intro u hu
        simp [rc] at hu
        rcases hu with rfl | rfl | rfl | rfl <;> rfl)
  obtain ⟨W1, hW1⟩ : ∃ W1, W1 = W0.setCells H 0 (rc r) := ⟨_, rfl⟩
  have hH1 : W1.heap[H]? = some (.cells (over zs 0 (rc r)) 83 (0, 0)) := by rw [hW1]; exact heap_setCells_same _ _ W0 zs hH0
  have hold1 : ∀ k, k < w.heap.size → W1.heap[k]? = w.heap[k]? := fun k hk => by rw [hW1, heap_setCells_ne (by omega)]; exact hold k hk
  have hcp2 : ∀ dc sc ty, (Builtin.copy_ #[84, 84] ty #[.slice (some ⟨H, 4, none⟩) cap dc, .slice (some ⟨g, off, none⟩) cap sc]).run Ybad.prog W1.drew = .ok (goInt cap) (W1.drew.setCells H 4 (rcs l)) := fun dc sc ty =>
    run_copy4 W1.drew ty H 4 cap dc ⟨g, off, none⟩ cap sc cap (rcs l) (by simp) hlen
      (fun j v hj => by rw [Addr.add_lit]; exact (cell_of_row _ _ _ _ _ _ ((hold1 g hgl).trans hg)).trans (hcur j v hj))
      (fun j hj => by
        rw [hlen] at hj
        show (W1.cell? _).isSome = true
        rw [cell_of_row _ _ _ _ _ _ hH1, Array.getElem?_eq_getElem (by rw [over_size]; omega)]
        rfl)
      (fun j _ => frozen_of_row _ _ _ _ _ hH1) (rcs_oneCell l)
  have E1 : Aside (Insd w (some g) (r :: l) (.slice (some ⟨H, 0, none⟩) (cap + 1) C) (W1.drew.setCells H 4 (rcs l))) := by
    have hHf : (W1.drew.setCells H 4 (rcs l)).heap[H]? = some (.cells (over (over zs 0 (rc r)) 4 (rcs l)) 83 (0, 0)) := heap_setCells_same _ _ W1.drew _ hH1
    refine ⟨Seg.of_own (base := 0) ⟨by rw [rcs_length], .inr ⟨H, C, _, by rw [List.length_cons, hn], Nat.zero_le _, hHf, by rw [List.length_cons, hn]; exact hCge, hCm, by rw [over_size, over_size]; exact hzsz, ?_⟩⟩, ?_, H, rfl, .inr (by omega), heap_lt hHf⟩
    · rw [List.length_cons, hn]; exact over_front0 hn (by omega)
    · refine ⟨?_, ?_, ?_, ?_, fun k hk _ => ?_⟩
      · rw [(env_setCells _ _ _).1]; show W1.os = _; rw [hW1, (env_setCells _ _ _).1, hW0]; rfl
      · rw [(env_setCells _ _ _).2.1]; show W1.tape = _; rw [hW1, (env_setCells _ _ _).2.1, hW0]; rfl
      · rw [(env_setCells _ _ _).2.2]; show W1.output = _; rw [hW1, (env_setCells _ _ _).2.2, hW0]; rfl
      · rw [size_setCells]; show _ ≤ W1.heap.size; rw [hW1, size_setCells, hW0]; simp
      · rw [heap_setCells_ne (by omega)]; exact hold1 k hk
  have hcn : ¬ C = 1 := by omega
  have hcn0 : ¬ C = 0 := by omega
  have hcap0 : ¬ cap = 0 := by omega
  have hw1 : IntKind.i64.wrap 1 = 1 := by decide
  have hp1 : (1 : Int) ≤ (cap : Int) + 1 := by omega
  have hp0 : (0 : Int) ≤ (cap : Int) + 1 := by omega
  have hn0 : ((0 : Int) == (cap : Int)) = false := by rw [beq_eq_false_iff_ne]; omega
  have hgt : (cap : Int) < (cap : Int) + 1 := by omega
  rw [← hW1] at hcp1
  simp only [maxLen] at hCm
  clear hW1 hH1 hold1 hold hH0 hW0 hzs hzsz hC hB hg hcur hlen hn hH
  go_enter Ybad.func56, Ybad.ntmps56
  go_wp2_with (at_builtin; first | refine Lib.wpList_append_run _ rfl (.tmp 34) (.tmp 39) 84 3 rfl _ _ rfl rfl _ _ (hap _) ?_ | refine wpList_copy_run _ rfl (.tmp 43) (.tmp 44) 84 84 rfl _ _ rfl rfl (hcp1 _) ?_)
  go_region_law (refine step_copy_run rfl (.tmp 50) (.tmp 53) 84 84 rfl _ _ (by simp [Act.eval]) (by simp [Act.eval]) (hcp2 _ _) ?_)
  go_wp2
  go_ret
  exact ⟨_, rfl, E1.out⟩

end Go.Proofs.YbulkbcpiDoor.rel
