/-
  Seat b2678aF: LawS2678ATable: the law's own walk.
-/
import Derived.Test.YbulkbclaFmtATWalks
import Derived.Deep.OwnRows
import Derived.Laws.CopyOwn
namespace Go.Proofs.YbulkbclaFmt.lawATable
open Go.RowKit Go.Extern.Stop Go.Stop Go.Extern

set_option maxHeartbeats 1000000 in
theorem law_nil_ok (t : Int) (ll : Bool) (w : World) (h : t = 1 ∨ t = 2 ∨ t = 3) :
    Calls Ybaf.prog 3 #[.int .u8 t, .bool ll, .slice none 0 0] w fun e w' => e = .returned (.bool true) ∧ Below w.heap.size w w' := by
  have hn := fun wx => run_neq_slice_nil_any (P := Ybaf.prog) wx 22 5 none 0 0 0 0 Ybaf.underlying22
  have H : Hid (t = 1 ∨ t = 2 ∨ t = 3) := h
  clear h
  go_enter Ybaf.func3, Ybaf.ntmps3
  go_wp2_with fail
  refine (sizes_ok t ll _ _ H.out (by simp) (by simp)).mono ?_
  rintro e w' ⟨rfl, rfl⟩
  go_wp2_with fail
  refine (expect_ok t ll _ H.out).mono ?_
  rintro e w' ⟨rfl, rfl⟩
  go_wp2
  go_ret
  exact ⟨rfl, (Below.refl _ _).alloc (Nat.le_refl _) _⟩

set_option maxHeartbeats 1000000 in
theorem law_nil_no (F : Interp) (t : Int) (ll : Bool) (w : World) (hF : F.answers w.tape) (h1 : ¬ t = 1) (h2 : ¬ t = 2) (h3 : ¬ t = 3) :
    Calls Ybaf.prog 3 #[.int .u8 t, .bool ll, .slice none 0 0] w fun e w' => e = .returned (.bool true) ∧ Below w.heap.size w w' := by
  have hn := fun wx => run_neq_slice_nil_any (P := Ybaf.prog) wx 22 5 none 0 0 0 0 Ybaf.underlying22
  go_enter Ybaf.func3, Ybaf.ntmps3
  go_wp2_with fail
  refine (sizes_no F t _ _ (by exact hF) h1 h2 h3 (by simp)).mono ?_
  rintro e w1 ⟨rfl, hb⟩
  have c0 := hb.cell (p := ⟨w.heap.size, 0, none⟩) (by simp)
  have c1 := hb.cell (p := ⟨w.heap.size, 1, none⟩) (by simp)
  have c2 := hb.cell (p := ⟨w.heap.size, 2, none⟩) (by simp)
  simp at c0 c1 c2
  go_wp2_with fail
  refine (expect_no t ll _ h1 h2 h3).mono ?_
  rintro e w' ⟨rfl, rfl⟩
  go_wp2
  go_ret
  exact ⟨rfl, ((Below.refl _ _).alloc (Nat.le_refl _) _).trans (hb.mono (by simp))⟩

theorem info5 : (Ybaf.prog.info? 5).map (fun i => (i.zero, i.size, i.bytes)) = some (some (.int .u8 0), 1, 1) := by kernel_rfl
theorem size5 : (Ybaf.prog.info? 5).map (·.size) = some 1 := by kernel_rfl

theorem cell_lt {w : World} {a : Addr} {v : Value} (h : w.cell? a = some v) : a.block < w.heap.size := by
  rcases Nat.lt_or_ge a.block w.heap.size with h' | h'
  · exact h'
  · simp [World.cell?, Array.getElem?_eq_none h'] at h

/-- make, then copy: new memory alone. -/
theorem made_copied (a : Addr) (len cap : Nat) (zs : List Int) (hl : len ≤ zs.length) (w : World) (hcell : ∀ i, i < zs.length → w.cell? (a.add i) = some (.int .u8 (zs.getD i 0))) :
    ∃ w2, (Builtin.copy_ #[23, 22] 3 #[.slice (some ⟨w.heap.size, 0, none⟩) len len, .slice (some a) len cap]).run Ybaf.prog (w.alloc (.cells (madeCells #[.int .u8 0] len) 5)) = .ok (goInt len) w2 ∧
      Below w.heap.size w w2 := by
  by_cases h0 : len = 0
  · subst h0
    exact ⟨_, run_copy_none (P := Ybaf.prog) _ 23 22 3 5 _ _ 0 0 0 cap Ybaf.underlying23 size5 (by simp), (Below.refl _ _).alloc (Nat.le_refl _) _⟩
  · have hsrc : ∀ j v, ((zs.take len).map (Value.int .u8))[j]? = some v → (w.alloc (.cells (madeCells #[.int .u8 0] len) 5)).cell? (a.add j) = some v := by
      intro j v hj
      have hj' : j < len := by
        have := (List.getElem?_eq_some_iff.1 hj).1
        simp at this
        omega
      have hc := hcell j (by omega)
      have hbb : (a.add j).block < w.heap.size := cell_lt hc
      have hcell2 := ((Below.refl w.heap.size w).alloc (Nat.le_refl _) (.cells (madeCells #[.int .u8 0] len) 5)).cell hbb
      rw [hcell2, hc]
      simp [hj', List.getElem?_eq_getElem (show j < zs.length by omega)] at hj
      simp [List.getD, List.getElem?_eq_getElem (show j < zs.length by omega), hj]
    have hr := run_copy_row (P := Ybaf.prog) (w.alloc (.cells (madeCells #[.int .u8 0] len) 5)) 23 22 3 5 w.heap.size 0 len len a len cap (madeCells #[.int .u8 0] len) 5 ((zs.take len).map (Value.int .u8)) Ybaf.underlying23 size5
      (by show (w.heap.push _)[w.heap.size]? = _; simp) (by simp; omega) hsrc (by simp [size_madeCells]; omega) (ints_oneCell _ _)
    have hlen : ((zs.take len).map (Value.int .u8)).length = len := by simp; omega
    rw [hlen] at hr
    exact ⟨_, hr, below_setRow ((Below.refl _ _).alloc (Nat.le_refl _) _) (Nat.le_refl _) _⟩

set_option maxHeartbeats 1000000 in
theorem law_some_ok (t : Int) (ll : Bool) (a : Addr) (len cap : Nat) (zs : List Int) (hl : len ≤ zs.length) (hlen : len ≤ 140737488355328) (w : World)
    (hcell : ∀ i, i < zs.length → w.cell? (a.add i) = some (.int .u8 (zs.getD i 0))) (h : t = 1 ∨ t = 2 ∨ t = 3) :
    Calls Ybaf.prog 3 #[.int .u8 t, .bool ll, .slice (some a) len cap] w fun e w' => e = .returned (.bool true) ∧ Below w.heap.size w w' := by
  have hn := fun wx => run_neq_slice_nil_any (P := Ybaf.prog) wx 22 5 (some a) len cap 0 0 Ybaf.underlying22
  have hmk := run_make_row' (P := Ybaf.prog) 23 5 (.int .u8 0) 1 Ybaf.underlying23 info5 rfl .i64 .i64 len (by omega) (by omega)
  obtain ⟨w2, hcp, hb⟩ := made_copied a len cap zs hl w hcell
  have H : Hid (t = 1 ∨ t = 2 ∨ t = 3) := h
  clear h hcell
  go_enter Ybaf.func3, Ybaf.ntmps3
  go_wp2_with fail
  refine (sizes_ok t ll _ _ H.out (by simp) (by simp)).mono ?_
  rintro e w' ⟨rfl, rfl⟩
  go_wp2_with fail
  refine (expect_ok t ll _ H.out).mono ?_
  rintro e w' ⟨rfl, rfl⟩
  go_wp2
  go_ret
  exact ⟨rfl, hb.alloc hb.size _⟩

set_option maxHeartbeats 1000000 in
theorem law_some_no (F : Interp) (t : Int) (ll : Bool) (a : Addr) (len cap : Nat) (zs : List Int) (hl : len ≤ zs.length) (hlen : len ≤ 140737488355328) (w : World)
    (hF : F.answers w.tape) (hcell : ∀ i, i < zs.length → w.cell? (a.add i) = some (.int .u8 (zs.getD i 0))) (h1 : ¬ t = 1) (h2 : ¬ t = 2) (h3 : ¬ t = 3) :
    Calls Ybaf.prog 3 #[.int .u8 t, .bool ll, .slice (some a) len cap] w fun e w' => e = .returned (.bool true) ∧ Below w.heap.size w w' := by
  have hn := fun wx => run_neq_slice_nil_any (P := Ybaf.prog) wx 22 5 (some a) len cap 0 0 Ybaf.underlying22
  have hmk := run_make_row' (P := Ybaf.prog) 23 5 (.int .u8 0) 1 Ybaf.underlying23 info5 rfl .i64 .i64 len (by omega) (by omega)
  obtain ⟨w2, hcp, hb⟩ := made_copied a len cap zs hl w hcell
  have hF2 : F.answers w2.tape := by rw [hb.tape]; exact hF
  clear hcell hF
  go_enter Ybaf.func3, Ybaf.ntmps3
  go_wp2_with fail
  refine (sizes_no F t _ _ (by exact hF2) h1 h2 h3 (by simp)).mono ?_
  rintro e w1 ⟨rfl, hb1⟩
  have c0 := hb1.cell (p := ⟨w2.heap.size, 0, none⟩) (by simp)
  have c1 := hb1.cell (p := ⟨w2.heap.size, 1, none⟩) (by simp)
  have c2 := hb1.cell (p := ⟨w2.heap.size, 2, none⟩) (by simp)
  simp at c0 c1 c2
  go_wp2_with fail
  refine (expect_no t ll _ h1 h2 h3).mono ?_
  rintro e w' ⟨rfl, rfl⟩
  go_wp2
  go_ret
  exact ⟨rfl, (hb.alloc hb.size _).trans (hb1.mono (by have := hb.size; simp; omega))⟩

end Go.Proofs.YbulkbclaFmt.lawATable
