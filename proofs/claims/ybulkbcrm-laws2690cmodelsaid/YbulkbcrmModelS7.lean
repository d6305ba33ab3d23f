/-
  Seat b2690a: LawS2690CModel: the sort of the keys: pdqsort at sixteen elements or fewer, all different.
-/
import Derived.Test.YbulkbcrmModelS6
namespace Go.Proofs.Ybulkbcrm.model
open Go.RowKit Go.Sort

set_option maxRecDepth 100000 in
set_option maxHeartbeats 3000000 in
theorem pdqSmall (blk off cap a b lim : Nat) (d : Array Int) (w : World) (hH : Holds encU w blk off d) (hbl : blk < w.heap.size) (hab : a ≤ b) (h12 : b ≤ a + 12) (hb : b ≤ d.size) (hsz : d.size < 1000) :
    Calls Yba.prog 53 #[.slice (some ⟨blk, off, none⟩) d.size cap, .int .i64 a, .int .i64 b, .int .i64 lim] w fun e w' =>
      e = .returned (.tuple #[]) ∧ ∃ d', PermIn a b d d' ∧ SortedIn ltInt a b d' ∧ Rw w blk off d d' w' := by
  have c := insertionSort blk off cap a b d w hH hbl hab hb hsz
  have S := hide (insertionSort_holds swoInt d a b hab hb)
  obtain ⟨N, hN⟩ : ∃ N, d.size = N := ⟨_, rfl⟩
  rw [hN] at hsz hb c ⊢
  generalize Sort.insertionSort ltInt d a b = d2 at c S
  have h12I : (b : Int) - (a : Int) ≤ 12 := by omega
  clear hN hH hbl
  go_enter Yba.func53, Yba.ntmps53
  go_wp2_with fail
  go_loopw [1, 2, 3, 8, 9] (fun s1 s2 s3 _ _ wx => s1 = .int .i64 (a : Int) ∧ s2 = .int .i64 (b : Int) ∧ s3 = .int .i64 (lim : Int) ∧ wx = w) (fun _ _ _ _ _ _ => 0)
  case atStart => exact ⟨rfl, rfl, rfl, rfl⟩
  case round =>
    obtain ⟨rfl, rfl, rfl, hw⟩ := hrel
    have hw2 := hw.symm
    clear hw
    subst hw2
    go_wp2_with fail
    go_at_call 55
    refine c.mono ?_
    rintro e w2 ⟨rfl, hr⟩
    have HR := hide hr
    clear hr
    go_wp2_with fail
    (try simp only [Exit.inBlock, Exit.then])
    refine bodyPost_ret (results_none rfl _ _ _) rfl ?_
    exact ⟨rfl, d2, S.out.1, S.out.2, HR.out⟩

theorem Rw.trans {w wr w' : World} {blk off : Nat} {d dk d' : Array Int} (h0 : Holds encU w blk off d) (hb : blk < w.heap.size) (h : Rw w blk off d dk wr) (h2 : Rw wr blk off dk d' w') : Rw w blk off d d' w' :=
  Rw.of h0 hb (h.at'.stepG hb h2.size h2.at') (by rw [h2.size, h.size])

theorem Rw.blk {w wr : World} {blk off : Nat} {d dk : Array Int} (h0 : Holds encU w blk off d) (hb : blk < w.heap.size) (h : Rw w blk off d dk wr) : blk < wr.heap.size := (h.at'.holds h0 h.size hb).2

set_option maxRecDepth 100000 in
set_option maxHeartbeats 6000000 in
theorem pdq (blk off cap lim : Nat) (d : Array Int) (w : World) (hH : Holds encU w blk off d) (hbl : blk < w.heap.size) (h16 : d.size ≤ 16) (hlim : d.size ≤ 12 + lim) (hlim2 : lim < 100) (hnd : ND 0 d.size d) :
    Calls Yba.prog 53 #[.slice (some ⟨blk, off, none⟩) d.size cap, .int .i64 0, .int .i64 d.size, .int .i64 lim] w fun e w' =>
      e = .returned (.tuple #[]) ∧ ∃ d', PermIn 0 d.size d d' ∧ SortedIn ltInt 0 d.size d' ∧ Rw w blk off d d' w' := by
  obtain ⟨N, hN⟩ : ∃ N, d.size = N := ⟨_, rfl⟩
  have HH := hide hH
  have HN := hide hN
  have HB := hide hbl
  rw [hN] at h16 hlim hnd ⊢
  have HP0 := hide (show PD N d 0 N d from ⟨Nat.zero_le _, Nat.le_refl _, by omega, rfl, hN.symm, hnd, .inl rfl, fun d' p s => ⟨p, s⟩⟩)
  clear hH hbl hnd hN
  go_enter Yba.func53, Yba.ntmps53
  go_wp2_with fail
  go_loopw [1, 2, 3, 8, 9] (fun s1 s2 s3 s8 s9 wx => ∃ (a b l : Nat) (wb wp : Bool) (dk : Array Int), s1 = .int .i64 (a : Int) ∧ s2 = .int .i64 (b : Int) ∧ s3 = .int .i64 (l : Int) ∧ s8 = .bool wb ∧ s9 = .bool wp ∧ b ≤ a + 12 + l ∧ l < 100 ∧ PD N d a b dk ∧ Rw w blk off d dk wx) (fun s1 s2 _ _ _ _ => (intOf s2).toNat - (intOf s1).toNat)
  case atStart => exact ⟨0, N, lim, true, true, d, rfl, rfl, rfl, rfl, rfl, by omega, hlim2, HP0.out, Rw.of HH.out HB.out (At.refl HH.out) rfl⟩
  case round =>
    clear HP0
    obtain ⟨a, b, l, wb, wp, dk, rfl, rfl, rfl, rfl, rfl, hbl, hl, hpd, hr⟩ := hrel
    have HPD := hide hpd
    have HR := hide hr
    have hab := hpd.ab
    have hbn := hpd.bn
    have hsm := hpd.small
    have hds := hide (show dk.size = N from by rw [hpd.size, HN.out])
    clear hpd hr
    by_cases h12 : b ≤ a + 12
    · have h12I : (b : Int) - (a : Int) ≤ 12 := by omega
      have c := insertionSort blk off cap a b dk wr HR.out.holds (HR.out.blk HH.out HB.out) hab (by rw [hds.out]; exact hbn) (by rw [hds.out]; omega)
      have S := hide (insertionSort_holds swoInt dk a b hab (by rw [hds.out]; exact hbn))
      generalize Sort.insertionSort ltInt dk a b = d2 at c S
      rw [hds.out] at c
      go_wp2_with fail
      go_at_call 55
      refine c.mono ?_
      rintro e w2 ⟨rfl, hr⟩
      have HR2 := hide (HR.out.trans HH.out HB.out hr)
      have F := hide (HPD.out.fin d2 S.out.1 S.out.2)
      clear hr
      go_wp2_with fail
      (try simp only [Exit.inBlock, Exit.then])
      refine bodyPost_ret (results_none rfl _ _ _) rfl ?_
      exact ⟨rfl, d2, F.out.1, F.out.2, HR2.out⟩
    · have h12I : ¬ (b : Int) - (a : Int) ≤ 12 := by omega
      have hl0 : ((l : Int) == 0) = false := by simp; omega
      have hl0' : ¬ (l : Int) = 0 := by omega
      go_upto_if 35 with fail
      go_cut [3] from 19 to 133 (fun s3 wx => ∃ (l2 : Nat) (d1 : Array Int), s3 = .int .i64 (l2 : Int) ∧ b ≤ a + 13 + l2 ∧ l2 < 100 ∧ PD N d a b d1 ∧ Rw w blk off d d1 wx)
      case first =>
        cases wb with
        | true =>
          go_wp2_with fail
          go_meet
          case rel => exact ⟨l, dk, rfl, by omega, hl, HPD.out, HR.out⟩
        | false =>
          have c := breakPatterns blk off cap a b dk wr HR.out.holds (HR.out.blk HH.out HB.out) (by omega) hsm (by rw [hds.out]; exact hbn) (by rw [hds.out]; omega)
          rw [hds.out] at c
          go_wp2_with fail
          go_at_call 57
          refine c.mono ?_
          rintro e w2 ⟨rfl, d1, hp, hr⟩
          have HR2 := hide (HR.out.trans HH.out HB.out hr)
          have HP2 := hide (HPD.out.perm hp)
          clear hr hp
          go_wp2_with fail
          go_meet
          case rel => exact ⟨l - 1, d1, by congr 1; omega, by omega, by omega, HP2.out, HR2.out⟩
      case rest =>
        obtain ⟨l2, d1, rfl, hbl2, hl2, hpd, hr⟩ := hcut
        have HPD1 := hide hpd
        have HR1 := hide hr
        have hds1 := hide (show d1.size = N from by rw [hpd.size, HN.out])
        clear hpd hr HPD HR hds
        have c := choosePivot wc blk off cap a b d1 HR1.out.holds (HR1.out.blk HH.out HB.out) (by omega) (by omega) (by rw [hds1.out]; exact hbn) (by rw [hds1.out]; omega)
        rw [hds1.out] at c
        go_wp2_with fail
        go_at_call 58
        refine c.mono ?_
        rintro e w2 ⟨x, h, rfl, hx1, hx2, hh, hg⟩
        have HR2 := hide (show Rw w blk off d d1 w2 from Rw.of HH.out HB.out (HR1.out.at'.same HH.out HR1.out.size HB.out hg) HR1.out.size)
        clear hg c HR1
        have hne2 : ((h : Int) == 2) = false := by simp; omega
        have hne2' : ¬ (h : Int) = 2 := by omega
        go_upto_region 15 with fail
        go_cut [68] from 19 to 133 (fun s68 wx => ∃ r : Bool, s68 = .bool r ∧ Rw w blk off d d1 wx)
        case first =>
          have hh2 : h = 0 ∨ h = 1 := by omega
          rcases hh2 with rfl | rfl <;> cases wb <;> cases wp <;> (go_wp2_with fail; go_meet; case rel => exact ⟨_, rfl, HR2.out⟩)
        case rest =>
          obtain ⟨r, rfl, hr⟩ := hcut
          have HR3 := hide hr
          clear hr HR2
          go_upto_if 68 with fail
          go_cut [] from 19 to 133 (fun wx => Rw w blk off d d1 wx)
          case first =>
            cases r with
            | false =>
              go_wp2_with fail
              go_meet
              case rel => exact HR3.out
            | true =>
              have c := partialSort blk off cap a b d1 wc HR3.out.holds (by omega) (by omega) (by rw [hds1.out]; exact hbn) (by rw [hds1.out]; omega)
              rw [hds1.out] at c
              go_wp2_with fail
              go_at_call 60
              refine c.mono ?_
              rintro e w3 ⟨r2, rfl, hs, n, hw3⟩
              have HR4 := hide (show Rw w blk off d d1 w3 from by rw [hw3]; exact HR3.out.drewN n)
              have HS := hide hs
              clear hs hw3
              cases r2 with
              | true =>
                have F := hide (HPD1.out.fin d1 (permIn_refl _ _ _) (HS.out rfl))
                go_wp2_with fail
                (try simp only [Exit.inBlock, Exit.then])
                refine bodyPost_ret (results_none rfl _ _ _) rfl ?_
                exact ⟨rfl, d1, F.out.1, F.out.2, HR4.out⟩
              | false =>
                go_wp2_with fail
                go_meet
                case rel => exact HR4.out
          case rest =>
            have HR4 := hide hcut
            clear hcut HR3
            obtain ⟨G, hG⟩ : ∃ G : Nat → Int, ∀ t, G t = d1[t]! := ⟨fun t => d1[t]!, fun _ => rfl⟩
            have hcw : ∀ t, t < N → wc.cell? ⟨blk, off + t, none⟩ = some (.int .u64 (G t)) := fun t ht => by rw [hG]; exact HR4.out.cell t (by rw [HN.out]; exact ht)
            have HG := hide hG
            clear hG
            go_upto_region 17 with fail
            go_cut [87] from 19 to 133 (fun s87 wx => s87 = .bool false ∧ Rw w blk off d d1 wx)
            case first =>
              by_cases ha : a = 0
              · subst ha
                have haI : decide ((0 : Int) < ((0 : Nat) : Int)) = false := by decide
                go_quiet (first | (go_at_call 61; refine Calls.quiet_of_same (less _ _ _)))
                go_wp2_with fail
                go_meet
                case rel => exact ⟨rfl, HR4.out.drewN nq⟩
              · have haI : (0 : Int) < (a : Int) := by omega
                have HLT := hide (show ltInt (G (a - 1)) (G x) = true from by
                  rw [HG.out, HG.out]
                  exact (HPD1.out.str.resolve_left ha) x hx1 hx2)
                have haN : 0 < a := by omega
                clear ha
                go_big_quiet (first | (go_at_call 61; refine Calls.quiet_of_same (less _ _ _)))
                go_wp2_with fail
                go_meet
                case rel => exact ⟨by rw [HLT.out]; rfl, HR4.out.drewN nq⟩
            case rest =>
              obtain ⟨rfl, hr⟩ := hcut
              have HR5 := hide hr
              clear hr HR4 hcw HG
              have c := partition blk off cap a b x d1 wc HR5.out.holds (HR5.out.blk HH.out HB.out) (by omega) hx1 hx2 (by rw [hds1.out]; exact hbn) (by rw [hds1.out]; omega)
              rw [hds1.out] at c
              go_wp2_with fail
              go_at_call 63
              refine c.mono ?_
              rintro e w4 ⟨m, r3, d4, rfl, hP, hr⟩
              have HR6 := hide (HR5.out.trans HH.out HB.out hr)
              have HP := hide hP
              have ham := hP.am
              have hmb := hP.mb
              have hds4 := hide (show d4.size = N from by rw [hP.perm.1, hds1.out])
              clear hr hP HR5 c
              by_cases hlr : m - a < b - m
              · have hlrI : (m : Int) - (a : Int) < (b : Int) - (m : Int) := by omega
                have c := pdqSmall blk off cap a m l2 d4 w4 HR6.out.holds (HR6.out.blk HH.out HB.out) ham (by omega) (by rw [hds4.out]; omega) (by rw [hds4.out]; omega)
                rw [hds4.out] at c
                go_wp2_with fail
                go_at_call 53
                refine c.mono ?_
                rintro e w5 ⟨rfl, d5, hp5, hs5, hr5⟩
                have HR7 := hide (HR6.out.trans HH.out HB.out hr5)
                have HP7 := hide (HPD1.out.left HP.out hp5 hs5)
                clear hp5 hs5 hr5 c
                go_wp2_with fail
                go_roundw
                case rel => exact ⟨m + 1, b, l2, _, _, d5, by go_num, rfl, rfl, rfl, rfl, by omega, hl2, HP7.out, HR7.out⟩
                case measure => simp [intOf]; omega
              · have hlrI : ¬ (m : Int) - (a : Int) < (b : Int) - (m : Int) := by omega
                have c := pdqSmall blk off cap (m + 1) b l2 d4 w4 HR6.out.holds (HR6.out.blk HH.out HB.out) (by omega) (by omega) (by rw [hds4.out]; omega) (by rw [hds4.out]; omega)
                rw [hds4.out, show ((m + 1 : Nat) : Int) = (m : Int) + 1 by omega] at c
                go_wp2_with fail
                go_at_call 53
                refine c.mono ?_
                rintro e w5 ⟨rfl, d5, hp5, hs5, hr5⟩
                have HR7 := hide (HR6.out.trans HH.out HB.out hr5)
                have HP7 := hide (HPD1.out.right HP.out hp5 hs5)
                clear hp5 hs5 hr5 c
                go_wp2_with fail
                go_roundw
                case rel => exact ⟨a, m, l2, _, _, d5, rfl, rfl, rfl, rfl, rfl, by omega, hl2, HP7.out, HR7.out⟩
                case measure => simp [intOf]; omega

end Go.Proofs.Ybulkbcrm.model
