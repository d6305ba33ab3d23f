/-
  Seat b2680aD: LawS2680BNewAgrees: the law's own walk.
-/
import Derived.Test.YbulkbcmcDoorBConf
import Derived.WideShapes
namespace Go.Proofs.YbulkbcmcDoor.lawB
open Go.RowKit

/-- what the table 'conflicts' holds. -/
def tab : List Nat := [416, 440, 444, 438, 446, 447, 128, 511, 191]
theorem tab_lt (m : Nat) (hm : m < 9) : tab.getD m 0 < 512 := by
  rcases m with _ | _ | _ | _ | _ | _ | _ | _ | _ | m <;> first | decide | omega

def Tab (w : World) : Prop := ∀ m, m < 9 → w.cell? ⟨0, m, none⟩ = some (.int .u32 ((tab.getD m 0 : Nat) : Int))

theorem cell_lt {w : World} {a : Addr} {v : Value} (h : w.cell? a = some v) : a.block < w.heap.size := by
  rcases Nat.lt_or_ge a.block w.heap.size with h' | h'
  · exact h'
  · simp [World.cell?, Array.getElem?_eq_none h'] at h

theorem Tab.pos {w : World} (t : Tab w) : 0 < w.heap.size := cell_lt (t 0 (by omega))
theorem Tab.below {w w' : World} (t : Tab w) (hb : Below w.heap.size w w') : Tab w' := fun m hm => by
  rw [hb.cell (p := ⟨0, m, none⟩) t.pos]
  exact t m hm

/-- WHAT THE WALK IS TOLD OF A SLICE OF INTEGERS THAT CAME IN. -/
def IsRow (k : IntKind) (w : World) (a : Option Addr) (len cap : Nat) (zs : List Int) : Prop :=
  (a = none ∧ len = 0 ∧ cap = 0 ∧ zs = []) ∨
  ∃ x, a = some x ∧ len ≤ cap ∧ cap ≤ maxLen ∧ zs.length = cap ∧ (∀ i, i < zs.length → w.cell? (x.add i) = some (.int k (zs.getD i 0))) ∧ ∀ n ∈ zs, (Lit.int k n).wf = true

theorem build_any (a : Option Addr) (len cap : Nat) (zs : List Int) (w : World) (hl : len ≤ 1024) (hr : IsRow .u8 w a len cap zs) :
    Calls Ybad.prog 6 #[.slice a len cap] w fun e w' => e = .returned (.pointer (some ⟨w.heap.size, 0, none⟩)) ∧
      ∃ c h, Res w' w.heap.size c h ∧ Inv c h 1024 ∧ Below w.heap.size w w' ∧ w'.heap.size = w.heap.size + 1 := by
  rcases hr with ⟨rfl, rfl, rfl, rfl⟩ | ⟨x, rfl, hlc, hm, hz, hcell, hwz⟩
  · exact build_nil w
  · obtain ⟨b, off, spot⟩ := x
    by_cases h0 : 0 < zs.length
    · have hc := hcell 0 h0
      have hspot : spot = none := by simpa [Addr.add] using World.cell?_spot hc
      subst hspot
      exact build_some b off len cap zs w hl (by omega) (fun i hi => by rw [← Go.WideShapes.add_plain]; exact hcell i hi) hwz (cell_lt hc)
    · obtain rfl : len = 0 := by omega
      go_enter Ybad.func6, Ybad.ntmps6
      go_wp2
      refine wp_loop_rounds 1 ?_
      rw [rounds_succ]
      go_wp2
      go_ret
      exact ⟨rfl, _, _, res_new w, inv_mono inv_zero (by omega), (Below.refl _ _).alloc (Nat.le_refl _) _, by simp⟩

theorem cell?_drewN (w : World) (n : Nat) (a : Addr) : (w.drewN n).cell? a = w.cell? a := rfl
theorem res_drewN {w : World} {b : Nat} {c : List Int} {h : Nat} (r : Res w b c h) (n : Nat) : Res (w.drewN n) b c h := ⟨r.cell, r.held, r.fz⟩

theorem sumTo_zero (conf : Nat) (c : List Int) (h : ∀ j, j < 9 → 0 ≤ c.getD j 0) : ∀ k, k ≤ 9 → (0 ≤ sumTo conf c k ∧ (sumTo conf c k = 0 ↔ ∀ j, j < k → conf.testBit j = true → c.getD j 0 = 0))
  | 0, _ => by simp [sumTo]
  | k + 1, hk => by
    obtain ⟨i0, ih⟩ := sumTo_zero conf c h k (by omega)
    have hb := h k (by omega)
    rw [sumTo]
    by_cases e : conf &&& 2 ^ k = 0
    · rw [if_pos e]
      have e' := (bit_iff conf k).1 e
      refine ⟨by omega, ?_⟩
      rw [Int.add_zero, ih]
      constructor
      · intro g j hj hbj
        by_cases ej : j = k
        · subst ej; rw [e'] at hbj; cases hbj
        · exact g j (by omega) hbj
      · intro g j hj
        exact g j (by omega)
    · rw [if_neg e]
      have e' : conf.testBit k = true := by
        cases hq : conf.testBit k
        · exact absurd ((bit_iff conf k).2 hq) e
        · rfl
      refine ⟨by omega, ?_⟩
      constructor
      · intro g j hj hbj
        by_cases ej : j = k
        · subst ej; omega
        · exact ih.1 (by omega) j (by omega) hbj
      · intro g
        have h1 := ih.2 (fun j hj => g j (by omega))
        have h2 := g k (by omega) e'
        omega

theorem agrees {c : List Int} {h : Nat} {N : Int} (i : Inv c h N) (conf : Nat) (hc : conf < 512) : (sumTo conf c 9 = 0 ↔ conf &&& h = 0) := by
  rw [(sumTo_zero conf c (fun j hj => (i.bd j hj).1) 9 (Nat.le_refl _)).2, and_zero_iff conf h hc]
  constructor
  · intro g j hj ⟨h1, h2⟩
    have := g j hj h1
    rw [i.bit j hj] at h2
    simp only [decide_eq_true_eq] at h2
    exact h2 this
  · intro g j hj h1
    have := g j hj
    rw [i.bit j hj] at this
    simp only [decide_eq_true_eq, h1, true_and] at this
    omega

set_option maxHeartbeats 1000000 in
theorem new_walk (a : Option Addr) (len cap : Nat) (zs : List Int) (s : Int) (w : World) (hr : IsRow .u8 w a len cap zs) (s0 : 0 ≤ s) (s1 : s ≤ 255) (ht : Tab w) :
    Calls Ybad.prog 4 #[.slice a len cap, .int .u8 s] w fun e w' => e = .returned (.bool true) ∧ Below w.heap.size w w' := by
  by_cases hl : len ≤ 1024
  · have hl' : ¬ (1024 : Int) < (len : Int) := by omega
    obtain ⟨m, hm⟩ := Int.eq_ofNat_of_zero_le (show 0 ≤ s % 9 by omega)
    have hm9 : m < 9 := by omega
    go_enter Ybad.func4, Ybad.ntmps4
    go_wp2_with fail
    refine (build_any a len cap zs w hl hr).mono ?_
    rintro e w1 ⟨rfl, c, h, r, iv, hb, hsz⟩
    have ht1 := ht.below hb
    have hag := agrees iv (tab.getD m 0) (tab_lt m hm9)
    have cc := ht1 m hm9
    have hlt := tab_lt m hm9
    generalize tab.getD m 0 = conf at *
    clear hr ht ht1 hsz hl
    have HG := hide hag
    clear hag
    go_wp2_with fail
    refine (grantable_nil _ m h conf (conf &&& h) _ hm9 iv.lt hlt r.held cc rfl).mono ?_
    rintro e w2 ⟨rfl, n, rfl⟩
    go_wp2_with fail
    refine (conflicting_any _ m h conf c 1024 (w1.drewN n) hm9 hlt (by omega) (by omega) (res_drewN r n) iv (by rw [cell?_drewN]; exact cc)).mono ?_
    rintro e w3 ⟨rfl, rfl⟩
    have HG2 : Hid (((((conf &&& h : Nat) : Int) == 0) == (sumTo conf c 9 == 0)) = true) := by
      show (((((conf &&& h : Nat) : Int) == 0) == (sumTo conf c 9 == 0)) = true)
      have := HG.out
      simp only [beq_iff_eq]
      rw [Bool.eq_iff_iff, beq_iff_eq, beq_iff_eq]
      omega
    clear HG
    generalize ((conf &&& h : Nat) : Int) = x at *
    generalize sumTo conf c 9 = y at *
    go_wp2
    go_ret
    refine ⟨?_, ⟨hb.os, hb.tape, hb.output, hb.size, hb.block⟩⟩
    rw [HG2.out]
    rfl
  · go_enter Ybad.func4, Ybad.ntmps4
    go_wp2
    go_ret
    exact ⟨rfl, Below.refl _ _⟩

end Go.Proofs.YbulkbcmcDoor.lawB
