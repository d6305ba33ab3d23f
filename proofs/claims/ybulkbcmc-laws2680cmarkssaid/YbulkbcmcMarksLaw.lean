/-
  Seat b2680a: LawS2680CMarks: the law's own walk.
-/
import Derived.Test.YbulkbcmcMarksWalks
import Derived.Lib.Builder
namespace Go.Proofs.Ybulkbcmc.lawMarks
open Go.RowKit
open Go.MuLone

/-- The manager m (its lock free) and the transaction m + 1 in memory, as far as the law looks. -/
structure St (w : World) (m : Nat) (id : Int) (v e rb : Bool) : Prop where
  cm : w.cell? ⟨m + 1, 0, none⟩ = some (.pointer (some ⟨m, 0, none⟩))
  cid : w.cell? ⟨m + 1, 1, none⟩ = some (.int .i64 id)
  cv : w.cell? ⟨m + 1, 8, none⟩ = some (.bool v)
  crb : w.cell? ⟨m + 1, 9, none⟩ = some (.bool rb)
  ce : w.cell? ⟨m + 1, 10, none⟩ = some (.bool e)
  cl : w.cell? ⟨m, 0, none⟩ = some (.int .i32 0)
  fl : w.frozen? ⟨m, 0, none⟩ = false
  frb : w.frozen? ⟨m + 1, 9, none⟩ = false

theorem mark_st (m : Nat) (id : Int) (v e rb : Bool) (w : World) (h : St w m id v e rb) :
    Calls Yba.prog 4 #[.pointer (some ⟨m + 1, 0, none⟩)] w fun r w' => r = .returned (.tuple #[]) ∧ St w' m id v e true ∧ Below m w w' := by
  refine (mark_any (m + 1) m _ w h.cm h.cl h.fl h.crb h.frb).mono ?_
  rintro r w' ⟨rfl, rfl⟩
  have o : ∀ (u : World) (a : Nat) (x : Value) (off : Nat), (u.setCell ⟨m, a, none⟩ x).cell? ⟨m + 1, off, none⟩ = u.cell? ⟨m + 1, off, none⟩ := fun u a x off => World.cell?_setCell_other _ _ _ _ (by simp)
  have o2 : ∀ (u : World) (x : Value) (off : Nat), off ≠ 9 → (u.setCell ⟨m + 1, 9, none⟩ x).cell? ⟨m + 1, off, none⟩ = u.cell? ⟨m + 1, off, none⟩ := fun u x off hne => World.cell?_setCell_other _ _ _ _ (by intro h; injection h with _ h2 _; omega)
  refine ⟨rfl, ⟨?_, ?_, ?_, ?_, ?_, ?_, ?_, ?_⟩, ?_⟩
  · rw [o, o2 _ _ _ (by decide), o]; exact h.cm
  · rw [o, o2 _ _ _ (by decide), o]; exact h.cid
  · rw [o, o2 _ _ _ (by decide), o]; exact h.cv
  · rw [o]
    exact World.cell?_setCell_same _ _ _ (by rw [o]; exact h.crb)
  · rw [o, o2 _ _ _ (by decide), o]; exact h.ce
  · refine World.cell?_setCell_same _ _ _ (u := .int .i32 1) ?_
    rw [World.cell?_setCell_other _ _ _ _ (by simp)]
    exact World.cell?_setCell_same _ _ _ h.cl
  · rw [World.frozen?_setCell, World.frozen?_setCell, World.frozen?_setCell]; exact h.fl
  · rw [World.frozen?_setCell, World.frozen?_setCell, World.frozen?_setCell]; exact h.frb
  · exact (((Below.refl _ _).setCell (p := ⟨m, 0, none⟩) (Nat.le_refl m) _).setCell (p := ⟨m + 1, 9, none⟩) (Nat.le_succ m) _).setCell (p := ⟨m, 0, none⟩) (Nat.le_refl m) _

theorem info85 : ∃ j, Yba.prog.info? 85 = some j := by
  have : (Yba.prog.info? 85).isSome = true := by kernel_rfl
  exact Option.isSome_iff_exists.1 this

set_option maxRecDepth 100000 in
set_option maxHeartbeats 2000000 in
theorem law_any (id : Int) (v e p tw : Bool) (w : World) :
    Calls Yba.prog 3 #[.int .i64 id, .bool v, .bool e, .bool p, .bool tw] w fun r w' => r = .returned (.bool true) ∧ Below w.heap.size w w' := by
  obtain ⟨j, hj⟩ := info85
  have hneq := fun wx => Lib.run_neq_ptr_same (P := Yba.prog) (w := wx) (tp := 22) (te := 85) (⟨w.heap.size, 0, none⟩ : Addr) Yba.underlying22 hj
  clear hj
  go_enter Yba.func3, Yba.ntmps3
  go_wp2_with fail
  refine (mark_st w.heap.size id v e p _ ⟨by simp, by simp, by simp, by simp, by simp, by simp, by simp, by simp⟩).mono ?_
  rintro r w1 ⟨rfl, h1, hb⟩
  have hb1 := (((Below.refl w.heap.size w).alloc (Nat.le_refl _) _).alloc (by simp) _).trans hb
  clear hb
  cases tw
  · obtain ⟨cm, cid, cv, crb, ce, cl, fl, frb⟩ := h1
    go_wp2_with fail
    refine (try_free ⟨w.heap.size, 0, none⟩ w1 cl fl).mono ?_
    rintro r w2 ⟨rfl, rfl⟩
    go_wp2_with fail
    refine (unlock_held muLib ⟨w.heap.size, 0, none⟩ _ (World.cell?_setCell_same _ _ _ cl) (by simp [fl])).mono ?_
    rintro r w2 ⟨rfl, rfl⟩
    go_wp2
    go_ret
    exact ⟨rfl, (hb1.setCell (p := ⟨w.heap.size, 0, none⟩) (Nat.le_refl _) _).setCell (p := ⟨w.heap.size, 0, none⟩) (Nat.le_refl _) _⟩
  · go_wp2_with fail
    refine (mark_st w.heap.size id v e true _ h1).mono ?_
    rintro r w2 ⟨rfl, h2, hb⟩
    have hb2 := hb1.trans hb
    clear hb hb1 h1
    obtain ⟨cm, cid, cv, crb, ce, cl, fl, frb⟩ := h2
    go_wp2_with fail
    refine (try_free ⟨w.heap.size, 0, none⟩ w2 cl fl).mono ?_
    rintro r w3 ⟨rfl, rfl⟩
    go_wp2_with fail
    refine (unlock_held muLib ⟨w.heap.size, 0, none⟩ _ (World.cell?_setCell_same _ _ _ cl) (by simp [fl])).mono ?_
    rintro r w3 ⟨rfl, rfl⟩
    go_wp2
    go_ret
    exact ⟨rfl, (hb2.setCell (p := ⟨w.heap.size, 0, none⟩) (Nat.le_refl _) _).setCell (p := ⟨w.heap.size, 0, none⟩) (Nat.le_refl _) _⟩
end Go.Proofs.Ybulkbcmc.lawMarks
