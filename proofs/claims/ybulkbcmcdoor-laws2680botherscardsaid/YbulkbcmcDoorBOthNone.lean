/-
  Seat b2680aD: LawS2680BOthers: the law's own walk.
-/
import Derived.Test.YbulkbcmcDoorBNewWalk
namespace Go.Proofs.YbulkbcmcDoor.lawB
open Go.RowKit

/-- no mode up to k that some other holder holds lies in conf. -/
def wantTo (conf : Nat) (d : Nat → Int) : Nat → Bool
  | 0 => true
  | k + 1 => if 0 < d k ∧ ¬ conf &&& 2 ^ k = 0 then false else wantTo conf d k

theorem wantTo_iff (conf : Nat) (d : Nat → Int) : ∀ k, wantTo conf d k = true ↔ ∀ j, j < k → ¬ (0 < d j ∧ conf.testBit j = true)
  | 0 => by simp [wantTo]
  | k + 1 => by
    have ih := wantTo_iff conf d k
    have e : (¬ conf &&& 2 ^ k = 0) ↔ conf.testBit k = true := by
      rw [bit_iff]; simp
    rw [wantTo]
    by_cases h : 0 < d k ∧ ¬ conf &&& 2 ^ k = 0
    · rw [if_pos h]
      constructor
      · intro g; cases g
      · intro g
        exact absurd ⟨h.1, e.1 h.2⟩ (g k (by omega))
    · rw [if_neg h, ih]
      constructor
      · intro g j hj
        by_cases ej : j = k
        · subst ej
          rintro ⟨h1, h2⟩
          exact h ⟨h1, e.2 h2⟩
        · exact g j (by omega)
      · intro g j hj
        exact g j (by omega)

theorem others_agree (conf oth : Nat) (d : Nat → Int) (hc : conf < 512) (h : ∀ j, j < 9 → oth.testBit j = decide (0 < d j)) : ((((conf &&& oth : Nat) : Int) == 0) == wantTo conf d 9) = true := by
  rw [beq_iff_eq, Bool.eq_iff_iff, beq_iff_eq, wantTo_iff]
  have := and_zero_iff conf oth hc
  constructor
  · intro e j hj ⟨h1, h2⟩
    have := this.1 (by omega) j hj
    rw [h j hj] at this
    simp [h1, h2] at this
  · intro g
    have := this.2 (fun j hj => by rw [h j hj]; have := g j hj; simp at this ⊢; intro a; exact Classical.byContradiction fun b => by have := this (by omega); simp [a] at this)
    omega

set_option maxHeartbeats 1000000 in
theorem others_none (a : Option Addr) (len cap : Nat) (zs : List Int) (os s : Int) (w : World) (hr : IsRow .u8 w a len cap zs) (s0 : 0 ≤ s) (s1 : s ≤ 255) (hl : len ≤ 1024) (ht : Tab w) :
    Calls Ybad.prog 3 #[.slice a len cap, .bool false, .int .u8 os, .int .u8 s] w fun e w' => e = .returned (.bool true) ∧ Below w.heap.size w w' := by
  have hl' : ¬ (1024 : Int) < (len : Int) := by omega
  obtain ⟨m, hm⟩ := Int.eq_ofNat_of_zero_le (show 0 ≤ s % 9 by omega)
  have hm9 : m < 9 := by omega
  have hmI : (m : Int) < 9 := by omega
  go_enter Ybad.func3, Ybad.ntmps3
  go_wp2_with fail
  refine (build_any a len cap zs w hl hr).mono ?_
  rintro e w1 ⟨rfl, c, h, r, iv, hb, hsz⟩
  have ht1 := ht.below hb
  have cc := ht1 m hm9
  have hlt := tab_lt m hm9
  generalize tab.getD m 0 = conf at *
  have HA := hide (others_agree conf h (fun j => c.getD j 0) hlt (fun j hj => by
    rw [iv.bit j hj]
    have := iv.bd j hj
    congr 1
    simp only [ne_eq, eq_iff_iff]
    omega))
  have HR := hide r.cell
  have HV := hide iv.bd
  have hh := iv.lt
  have rh := r.held
  have HT : Hid (∀ k, wantTo conf (fun j => c.getD j 0) (k + 1) = if 0 < c.getD k 0 ∧ ¬ conf &&& 2 ^ k = 0 then false else wantTo conf (fun j => c.getD j 0) k) := fun k => rfl
  have H0 : Hid (wantTo conf (fun j => c.getD j 0) 0 = true) := rfl
  generalize wantTo conf (fun j => c.getD j 0) = W at *
  clear hr ht ht1 hsz hl r iv
  go_wp2_with fail
  refine (grantable_nil _ m h conf (conf &&& h) _ hm9 hh hlt rh cc rfl).mono ?_
  rintro e w2 ⟨rfl, n, rfl⟩
  generalize ((conf &&& h : Nat) : Int) = x at *
  go_wp2_with fail
  go_loop [14, 15] (fun v i => ∃ k : Nat, k ≤ 9 ∧ i = .int .i64 (k : Int) ∧ v = .bool (W k)) (fun _ i => 9 - (intOf i).toNat)
  case atStart => exact ⟨0, by omega, rfl, by rw [H0.out]⟩
  case round =>
    obtain ⟨k, hk, rfl, rfl⟩ := hrel
    by_cases hk9 : k < 9
    · have hxb := HV.out k hk9
      have ck := HR.out k hk9
      have ht := hide (HT.out k)
      have ha := and_cast conf k hlt hk9
      generalize c.getD k 0 = z at *
      generalize conf &&& 2 ^ k = y at *
      obtain ⟨hx0, hx1⟩ := hxb
      clear HR HV HT H0 HA
      by_cases hz : 0 < z
      · by_cases hy : y = 0
        · subst hy
          go_wp2
          go_round
          case rel => exact ⟨k + 1, by omega, by go_num, by rw [ht.out, if_neg (by simp)]⟩
          case measure => simp [intOf]; omega
        · have hy' : ((y : Int) != 0) = true := by rw [bne_iff_ne]; omega
          go_wp2
          go_round
          case rel => exact ⟨k + 1, by omega, by go_num, by rw [ht.out, if_pos ⟨hz, hy⟩]⟩
          case measure => simp [intOf]; omega
      · go_wp2
        go_round
        case rel => exact ⟨k + 1, by omega, by go_num, by rw [ht.out, if_neg (by omega)]⟩
        case measure => simp [intOf]; omega
    · obtain rfl : k = 9 := by omega
      clear HR HV HT H0
      generalize W 9 = y at *
      go_wp2
      go_ret
      refine ⟨?_, ⟨hb.os, hb.tape, hb.output, hb.size, hb.block⟩⟩
      rw [HA.out]
      rfl

end Go.Proofs.YbulkbcmcDoor.lawB
