/-
  Seat b2680aD: the walk of conflicting.
-/
import Derived.Test.YbulkbcmcDoorBGrant
namespace Go.Proofs.YbulkbcmcDoor.lawB
open Go.RowKit

theorem sumTo_bd (conf : Nat) (c : List Int) (N : Int) (hN : 0 ≤ N) (h : ∀ j, j < 9 → 0 ≤ c.getD j 0 ∧ c.getD j 0 ≤ N) : ∀ k, k ≤ 9 → 0 ≤ sumTo conf c k ∧ sumTo conf c k ≤ k * N
  | 0, _ => by simp [sumTo]
  | k + 1, hk => by
    have ih := sumTo_bd conf c N hN h k (by omega)
    have hb := h k (by omega)
    have e : ((k + 1 : Nat) : Int) * N = k * N + N := by rw [Int.natCast_add, Int.add_mul]; simp
    rw [e, sumTo]
    split <;> omega

set_option maxHeartbeats 1000000 in
theorem conflicting_any (b m h conf : Nat) (c : List Int) (N : Int) (w : World) (hm : m < 9) (hc : conf < 512) (hN : 0 ≤ N) (hN2 : N ≤ 100000) (r : Res w b c h) (iv : Inv c h N) (cc : w.cell? ⟨0, m, none⟩ = some (.int .u32 conf)) :
    Calls Ybad.prog 9 #[.pointer (some ⟨b, 0, none⟩), .int .u8 (m : Int)] w fun e w' => e = .returned (.int .i64 (sumTo conf c 9)) ∧ w' = w := by
  have hm' : (m : Int) < 9 := by omega
  have hsb := sumTo_bd conf c N hN iv.bd
  have hbd := iv.bd
  obtain ⟨c0, c1, c2, c3, c4, c5, c6, c7, c8, hc9⟩ := nine iv.len
  have hix := index9 c0 c1 c2 c3 c4 c5 c6 c7 c8
  rw [← hc9] at hix
  have r0 := r.cell 0 (by omega)
  have r1 := r.cell 1 (by omega)
  have r2 := r.cell 2 (by omega)
  have r3 := r.cell 3 (by omega)
  have r4 := r.cell 4 (by omega)
  have r5 := r.cell 5 (by omega)
  have r6 := r.cell 6 (by omega)
  have r7 := r.cell 7 (by omega)
  have r8 := r.cell 8 (by omega)
  rw [hc9] at r0 r1 r2 r3 r4 r5 r6 r7 r8
  simp at r0 r1 r2 r3 r4 r5 r6 r7 r8
  have hst : ∀ k, sumTo conf c (k + 1) = sumTo conf c k + if conf &&& 2 ^ k = 0 then 0 else c.getD k 0 := fun k => rfl
  have hs0 : sumTo conf c 0 = 0 := rfl
  generalize hS : sumTo conf c = S at *
  clear hc9 r iv hS
  have HI := hide hix
  have HB := hide hbd
  have HS := hide hsb
  have HT := hide hst
  have H0 := hide hs0
  clear hix hbd hsb hst hs0
  go_enter Ybad.func9, Ybad.ntmps9
  go_wp2
  go_loop [5, 12] (fun n i => ∃ k : Nat, k ≤ 9 ∧ i = .int .i64 (k : Int) ∧ n = .int .i64 (S k)) (fun _ i => 9 - (intOf i).toNat)
  case atStart => exact ⟨0, by omega, rfl, by rw [H0.out]⟩
  case round =>
    obtain ⟨k, hk, rfl, rfl⟩ := hrel
    by_cases hlt : k < 9
    · have hi := HI.out k hlt
      have hxb := HB.out k hlt
      have hb := HS.out k hk
      have hkk : (k : Int) * N ≤ 900000 := by
        have : (k : Int) * N ≤ 9 * 100000 := Int.mul_le_mul (by omega) hN2 hN (by omega)
        omega
      have ht := hide (HT.out k)
      have ha := and_cast conf k hc hlt
      generalize c.getD k 0 = x at *
      generalize conf &&& 2 ^ k = y at *
      obtain ⟨hb0, hb1⟩ := hb
      obtain ⟨hx0, hx1⟩ := hxb
      have hb2 : S k ≤ 900000 := by omega
      clear hb1
      have hwk : IntKind.u8.wrap (k : Int) = k := by rw [IntKind.wrap_u8']; omega
      clear HI HB HS
      by_cases hy : y = 0
      · subst hy
        go_wp2
        go_round
        case rel => exact ⟨k + 1, by omega, by go_num, by rw [ht.out]; simp⟩
        case measure => simp [intOf]; omega
      · have hy' : ((y : Int) != 0) = true := by rw [bne_iff_ne]; omega
        go_wp2
        go_round
        case rel => exact ⟨k + 1, by omega, by go_num, by rw [ht.out, if_neg hy]⟩
        case measure => simp [intOf]; omega
    · obtain rfl : k = 9 := by omega
      go_wp2
      go_ret
      exact ⟨rfl, rfl⟩

end Go.Proofs.YbulkbcmcDoor.lawB
