/-
  Seat b2680aD: LawS2680BOthers, own held: the law's own walk.
-/
import Derived.Test.YbulkbcmcDoorBOthNone
namespace Go.Proofs.YbulkbcmcDoor.lawB
open Go.RowKit

/-- what grantable answers to a holder of om: whatever the count. -/
theorem grantable_own (b g m om h conf : Nat) (c : List Int) (N : Int) (w : World) (hm : m < 9) (hom : om < 9) (hc : conf < 512) (r : Res w b c h) (iv : Inv c h N) (cc : w.cell? ⟨0, m, none⟩ = some (.int .u32 conf))
    (cg : w.cell? ⟨g, 4, none⟩ = some (.int .u8 om)) :
    Calls Ybad.prog 8 #[.pointer (some ⟨b, 0, none⟩), .pointer (some ⟨g, 0, none⟩), .int .u8 (m : Int)] w fun e w' =>
      e = .returned (.bool (((conf &&& (if c.getD om 0 = 1 then h &&& (4294967295 - 2 ^ om) else h) : Nat) : Int) == 0)) ∧ ∃ n, w' = w.drewN n := by
  by_cases h1 : c.getD om 0 = 1
  · rw [if_pos h1]
    have co := r.cell om hom
    rw [h1] at co
    exact grantable_one b g m om h conf _ w hm hom iv.lt hc r.held cc cg co rfl
  · rw [if_neg h1]
    exact grantable_more b g m om h conf _ (c.getD om 0) w hm hom iv.lt hc r.held cc cg (r.cell om hom) (by rw [beq_eq_false_iff_ne]; exact h1) rfl

/-- own's lock, new, beside what was there. -/
theorem own_new {w : World} {b : Nat} {c : List Int} {h : Nat} (r : Res w b c h) (hb : b < w.heap.size) (t : Tab w) (om : Nat) :
    Res (w.alloc (.cells #[.pointer none, .int .i32 0, .int .u32 0, .int .u32 0, .int .u8 (om : Int)] 41)) b c h ∧ Tab (w.alloc (.cells #[.pointer none, .int .i32 0, .int .u32 0, .int .u32 0, .int .u8 (om : Int)] 41)) ∧
      (w.alloc (.cells #[.pointer none, .int .i32 0, .int .u32 0, .int .u32 0, .int .u8 (om : Int)] 41)).cell? ⟨w.heap.size, 4, none⟩ = some (.int .u8 om) ∧
      Below w.heap.size w (w.alloc (.cells #[.pointer none, .int .i32 0, .int .u32 0, .int .u32 0, .int .u8 (om : Int)] 41)) := by
  have hbe : Below w.heap.size w (w.alloc (.cells #[.pointer none, .int .i32 0, .int .u32 0, .int .u32 0, .int .u8 (om : Int)] 41)) := (Below.refl _ _).alloc (Nat.le_refl _) _
  refine ⟨⟨?_, ?_, ?_⟩, t.below hbe, by simp, hbe⟩
  · intro j hj
    rw [hbe.cell (p := ⟨b, 7 + j, none⟩) hb]
    exact r.cell j hj
  · rw [hbe.cell (p := ⟨b, 16, none⟩) hb]
    exact r.held
  · intro j hj
    rw [hbe.frozen (p := ⟨b, 7 + j, none⟩) hb]
    exact r.fz j hj

set_option maxHeartbeats 2000000 in
theorem others_own (a : Option Addr) (len cap : Nat) (zs : List Int) (os s : Int) (w : World) (hr : IsRow .u8 w a len cap zs) (o0 : 0 ≤ os) (o1 : os ≤ 255) (s0 : 0 ≤ s) (s1 : s ≤ 255) (hl : len ≤ 1024) (ht : Tab w) :
    Calls Ybad.prog 3 #[.slice a len cap, .bool true, .int .u8 os, .int .u8 s] w fun e w' => e = .returned (.bool true) ∧ Below w.heap.size w w' := by
  have hl' : ¬ (1024 : Int) < (len : Int) := by omega
  obtain ⟨m, hm⟩ := Int.eq_ofNat_of_zero_le (show 0 ≤ s % 9 by omega)
  have hm9 : m < 9 := by omega
  have hmI : (m : Int) < 9 := by omega
  obtain ⟨om, hom⟩ := Int.eq_ofNat_of_zero_le (show 0 ≤ os % 9 by omega)
  have hom9 : om < 9 := by omega
  have homI : (om : Int) < 9 := by omega
  go_enter Ybad.func3, Ybad.ntmps3
  go_wp2_with fail
  refine (build_any a len cap zs w hl hr).mono ?_
  rintro e w1 ⟨rfl, c, h, r, iv, hb, hsz⟩
  have HS := hide hsz
  have ht1 := ht.below hb
  have hpos := ht.pos
  clear hr ht hsz hl
  have co := r.cell om hom9
  have hcb := iv.bd om hom9
  generalize hx : c.getD om 0 = x0 at co hcb
  have HX := hide hx
  clear hx
  by_cases hz0 : x0 = 0
  · subst hz0
    go_wp2_with fail
    refine (count_any _ _ c h 1024 w1 (by omega) homI r iv (by omega)).mono ?_
    rintro e w2 ⟨rfl, c', h', r', iv', hc', hb', hsz'⟩
    have HC : Hid (0 < c'.getD om 0) := by
      show 0 < c'.getD om 0
      rw [hc', Int.toNat_natCast, getD_set _ _ _ _ (by rw [iv.len]; exact hom9), if_pos rfl, HX.out]
      omega
    have HS2 : Hid (w2.heap.size = w.heap.size + 1) := hsz'.trans HS.out
    have ht2 : Tab w2 := fun j hj => by
      rw [hb'.cell (p := ⟨0, j, none⟩) hpos]
      exact ht1 j hj
    have hbb : Below w.heap.size w w2 := hb.trans hb'
    clear hc' hsz' HS ht1 hb' hb iv r HX co hcb
    go_wp2_with fail
    have hgs : w.heap.size < w2.heap.size := by have := HS2.out; omega
    obtain ⟨r3, ht3, cg, hb3⟩ := own_new r' hgs ht2 om
    have hbf := hbb.trans (hb3.mono (Nat.le_of_lt hgs))
    generalize w2.alloc (.cells #[.pointer none, .int .i32 0, .int .u32 0, .int .u32 0, .int .u8 (om : Int)] 41) = w3 at *
    clear HS2 hb3 hbb ht2 r' hgs
    generalize w2.heap.size = g at *
    have cc := ht3 m hm9
    have hlt := tab_lt m hm9
    generalize tab.getD m 0 = conf at *
    have HA := hide (others_agree conf _ (fun j => if j = om then c'.getD j 0 - 1 else c'.getD j 0) hlt (fun j hj => others_bit iv' om hom9 HC.out j hj))
    have HR := hide r3.cell
    have HV := hide iv'.bd
    have HT : Hid (∀ k, wantTo conf (fun j => if j = om then c'.getD j 0 - 1 else c'.getD j 0) (k + 1) = if 0 < (if k = om then c'.getD k 0 - 1 else c'.getD k 0) ∧ ¬ conf &&& 2 ^ k = 0 then false else wantTo conf (fun j => if j = om then c'.getD j 0 - 1 else c'.getD j 0) k) := fun k => rfl
    have H0 : Hid (wantTo conf (fun j => if j = om then c'.getD j 0 - 1 else c'.getD j 0) 0 = true) := rfl
    generalize wantTo conf (fun j => if j = om then c'.getD j 0 - 1 else c'.getD j 0) = W at *
    refine (grantable_own _ g m om h' conf c' (1024 + 1) _ hm9 hom9 hlt r3 iv' cc cg).mono ?_
    rintro e w4 ⟨rfl, n, rfl⟩
    generalize ((conf &&& (if c'.getD om 0 = 1 then h' &&& (4294967295 - 2 ^ om) else h') : Nat) : Int) = x at *
    clear r3 iv' ht3 HC
    go_wp2_with fail
    go_loop [14, 15, 16] (fun v i _ => ∃ k : Nat, k ≤ 9 ∧ i = .int .i64 (k : Int) ∧ v = .bool (W k)) (fun _ i _ => 9 - (intOf i).toNat)
    case atStart => exact ⟨0, by omega, rfl, by rw [H0.out]⟩
    case round =>
      obtain ⟨k, hk, rfl, rfl⟩ := hrel
      by_cases hk9 : k < 9
      · have hxb := HV.out k hk9
        have ck := HR.out k hk9
        have ht := hide (HT.out k)
        have ha := and_cast conf k hlt hk9
        generalize c'.getD k 0 = z at *
        generalize conf &&& 2 ^ k = y at *
        obtain ⟨hx0, hx1⟩ := hxb
        clear HR HV HT H0 HA
        by_cases hko : k = om
        · subst hko
          by_cases hz : 0 < z - 1
          · by_cases hy : y = 0
            · subst hy
              go_wp2
              go_round
              case rel => exact ⟨k + 1, by omega, by go_num, by rw [ht.out, if_neg (by simp)]⟩
              case measure => simp [intOf]; omega
            · have hy' : ((y : Int) != 0) = true := by rw [bne_iff_ne]; omega
              go_wp2
              go_round
              case rel => exact ⟨k + 1, by omega, by go_num, by rw [ht.out, if_pos ⟨by simpa using hz, hy⟩]⟩
              case measure => simp [intOf]; omega
          · go_wp2
            go_round
            case rel => exact ⟨k + 1, by omega, by go_num, by rw [ht.out, if_neg (by rw [if_pos rfl]; omega)]⟩
            case measure => simp [intOf]; omega
        · have hko' : ((k : Int) == (om : Int)) = false := by rw [beq_eq_false_iff_ne]; omega
          by_cases hz : 0 < z
          · by_cases hy : y = 0
            · subst hy
              go_wp2
              go_round
              case rel => exact ⟨k + 1, by omega, by go_num, by rw [ht.out, if_neg (by simp)]⟩
              case measure => simp [intOf]; omega
            · have hy' : ((y : Int) != 0) = true := by rw [bne_iff_ne]; omega
              go_wp2
              go_round
              case rel => exact ⟨k + 1, by omega, by go_num, by rw [ht.out, if_pos ⟨by rw [if_neg hko]; exact hz, hy⟩]⟩
              case measure => simp [intOf]; omega
          · go_wp2
            go_round
            case rel => exact ⟨k + 1, by omega, by go_num, by rw [ht.out, if_neg (by rw [if_neg hko]; omega)]⟩
            case measure => simp [intOf]; omega
      · obtain rfl : k = 9 := by omega
        clear HR HV HT H0
        generalize W 9 = y at *
        go_wp2
        go_ret
        refine ⟨?_, ⟨hbf.os, hbf.tape, hbf.output, hbf.size, hbf.block⟩⟩
        rw [HA.out]
        rfl
  · have hz1 : (x0 == 0) = false := by rw [beq_eq_false_iff_ne]; exact hz0
    have HC : Hid (0 < c.getD om 0) := by
      show 0 < c.getD om 0
      rw [HX.out]
      omega
    clear HX
    go_wp2_with fail
    have hgs : w.heap.size < w1.heap.size := by have := HS.out; omega
    obtain ⟨r3, ht3, cg, hb3⟩ := own_new r hgs ht1 om
    have hbf := hb.trans (hb3.mono (Nat.le_of_lt hgs))
    generalize w1.alloc (.cells #[.pointer none, .int .i32 0, .int .u32 0, .int .u32 0, .int .u8 (om : Int)] 41) = w3 at *
    clear HS hb3 hb ht1 r hgs co hcb
    generalize w1.heap.size = g at *
    have cc := ht3 m hm9
    have hlt := tab_lt m hm9
    generalize tab.getD m 0 = conf at *
    have HA := hide (others_agree conf _ (fun j => if j = om then c.getD j 0 - 1 else c.getD j 0) hlt (fun j hj => others_bit iv om hom9 HC.out j hj))
    have HR := hide r3.cell
    have HV := hide iv.bd
    have HT : Hid (∀ k, wantTo conf (fun j => if j = om then c.getD j 0 - 1 else c.getD j 0) (k + 1) = if 0 < (if k = om then c.getD k 0 - 1 else c.getD k 0) ∧ ¬ conf &&& 2 ^ k = 0 then false else wantTo conf (fun j => if j = om then c.getD j 0 - 1 else c.getD j 0) k) := fun k => rfl
    have H0 : Hid (wantTo conf (fun j => if j = om then c.getD j 0 - 1 else c.getD j 0) 0 = true) := rfl
    generalize wantTo conf (fun j => if j = om then c.getD j 0 - 1 else c.getD j 0) = W at *
    refine (grantable_own _ g m om h conf c 1024 _ hm9 hom9 hlt r3 iv cc cg).mono ?_
    rintro e w4 ⟨rfl, n, rfl⟩
    generalize ((conf &&& (if c.getD om 0 = 1 then h &&& (4294967295 - 2 ^ om) else h) : Nat) : Int) = x at *
    clear r3 iv ht3 HC
    go_wp2_with fail
    go_loop [14, 15, 16] (fun v i _ => ∃ k : Nat, k ≤ 9 ∧ i = .int .i64 (k : Int) ∧ v = .bool (W k)) (fun _ i _ => 9 - (intOf i).toNat)
    case atStart => exact ⟨0, by omega, rfl, by rw [H0.out]⟩
    case round =>
      obtain ⟨k, hk, rfl, rfl⟩ := hrel
      by_cases hk9 : k < 9
      · have hxb := HV.out k hk9
        have ck := HR.out k hk9
        have ht := hide (HT.out k)
        have ha := and_cast conf k hlt hk9
        generalize c.getD k 0 = z at *
        generalize conf &&& 2 ^ k = y at *
        obtain ⟨hx0, hx1⟩ := hxb
        clear HR HV HT H0 HA
        by_cases hko : k = om
        · subst hko
          by_cases hz : 0 < z - 1
          · by_cases hy : y = 0
            · subst hy
              go_wp2
              go_round
              case rel => exact ⟨k + 1, by omega, by go_num, by rw [ht.out, if_neg (by simp)]⟩
              case measure => simp [intOf]; omega
            · have hy' : ((y : Int) != 0) = true := by rw [bne_iff_ne]; omega
              go_wp2
              go_round
              case rel => exact ⟨k + 1, by omega, by go_num, by rw [ht.out, if_pos ⟨by simpa using hz, hy⟩]⟩
              case measure => simp [intOf]; omega
          · go_wp2
            go_round
            case rel => exact ⟨k + 1, by omega, by go_num, by rw [ht.out, if_neg (by rw [if_pos rfl]; omega)]⟩
            case measure => simp [intOf]; omega
        · have hko' : ((k : Int) == (om : Int)) = false := by rw [beq_eq_false_iff_ne]; omega
          by_cases hz : 0 < z
          · by_cases hy : y = 0
            · subst hy
              go_wp2
              go_round
              case rel => exact ⟨k + 1, by omega, by go_num, by rw [ht.out, if_neg (by simp)]⟩
              case measure => simp [intOf]; omega
            · have hy' : ((y : Int) != 0) = true := by rw [bne_iff_ne]; omega
              go_wp2
              go_round
              case rel => exact ⟨k + 1, by omega, by go_num, by rw [ht.out, if_pos ⟨by rw [if_neg hko]; exact hz, hy⟩]⟩
              case measure => simp [intOf]; omega
          · go_wp2
            go_round
            case rel => exact ⟨k + 1, by omega, by go_num, by rw [ht.out, if_neg (by rw [if_neg hko]; omega)]⟩
            case measure => simp [intOf]; omega
      · obtain rfl : k = 9 := by omega
        clear HR HV HT H0
        generalize W 9 = y at *
        go_wp2
        go_ret
        refine ⟨?_, ⟨hbf.os, hbf.tape, hbf.output, hbf.size, hbf.block⟩⟩
        rw [HA.out]
        rfl
end Go.Proofs.YbulkbcmcDoor.lawB
