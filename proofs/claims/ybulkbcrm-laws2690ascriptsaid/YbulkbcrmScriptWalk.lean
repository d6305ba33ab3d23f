/-
  Seat b2690a: LawS2690AScript: the law's own walk.
-/
import Derived.Test.YbulkbcrmScriptMem
import Derived.Deep.QuietTactic
import Derived.BigQuiet
namespace Go.Proofs.Ybulkbcrm.places
open Go.RowKit
set_option maxRecDepth 50000 in
set_option maxHeartbeats 1000000 in
theorem script_some (b0 off len cap : Nat) (T : Nat → Int) (V : Nat → ByteArray) (w : World) (hl : len ≤ 1024)
    (hcell : ∀ i, i < len → w.cell? ⟨b0, off + i * 2, none⟩ = some (.int .u8 (T i)) ∧ w.cell? ⟨b0, off + i * 2 + 1, none⟩ = some (.string (V i)) ∧ 0 ≤ T i ∧ T i ≤ 255) (hb0 : b0 < w.heap.size) :
    Calls Yba.prog 3 #[.slice (some ⟨b0, off, none⟩) len cap] w fun e w' => e = .returned (.bool true) ∧ Below w.heap.size w w' := by
  have hl' : ¬ (1024 : Int) < (len : Int) := by omega
  have HC : Aside (∀ i, i < len → w.cell? ⟨b0, off + i * 2, none⟩ = some (.int .u8 (T i)) ∧ w.cell? ⟨b0, off + i * 2 + 1, none⟩ = some (.string (V i)) ∧ 0 ≤ T i ∧ T i ≤ 255) := hcell
  clear hcell
  go_enter Yba.func3, Yba.ntmps3
  go_wp2
  go_loopw [19, 7] (fun i mv wr => ∃ (k : Nat) (l : List Q) (F : List ByteArray) (S D : List Bool) (mx : Int) (ao : Option Addr) (cp : Nat), k ≤ len ∧ i = .int .i64 (k : Int) ∧ mv = .int .i64 mx ∧ St w wr w.heap.size l F S D ao cp ∧ Inv l F S D mx) (fun i _ _ => len - (intOf i).toNat)
  case atStart => exact ⟨0, _, _, _, _, -1, _, _, Nat.zero_le _, rfl, rfl, st_start w, inv_start⟩
  case round =>
    obtain ⟨k, l, F, S, D, mx, ao, cp, hk, rfl, rfl, hst, hinv⟩ := hrel
    have IV : Aside (Inv l F S D mx) := hinv
    have ST : Aside (St w wr w.heap.size l F S D ao cp) := hst
    have hmx : -1 ≤ mx := by have := hinv.len; omega
    have hmx2 : mx ≤ 15 := by have := hinv.len; have := hinv.le; omega
    by_cases hlt : k < len
    · obtain ⟨c0, c1, t0, t1⟩ := HC.out k hlt
      have c0' : wr.cell? ⟨b0, off + k * 2, none⟩ = some (.int .u8 (T k)) := by rw [hst.bel.cell (p := ⟨b0, off + k * 2, none⟩) hb0]; exact c0
      have c1' : wr.cell? ⟨b0, off + k * 2 + 1, none⟩ = some (.string (V k)) := by rw [hst.bel.cell (p := ⟨b0, off + k * 2 + 1, none⟩) hb0]; exact c1
      clear c0 c1 hst hinv
      generalize T k = t at *
      generalize V k = v at *
      obtain ⟨kk, hkk⟩ := Int.eq_ofNat_of_zero_le (show 0 ≤ t % 16 by omega)
      have hk16 : kk < 16 := by omega
      have hkI : (kk : Int) < 16 := by omega
      go_wp2_with fail
      refine (see_any w.heap.size (w.heap.size + 4) kk l ao cp v _ (st_alloc ST.out _).pl (by omega) (by have := IV.out.le; omega) (st_alloc ST.out _).size).mono ?_
      rintro e w1 ⟨rfl, hsp⟩
      obtain ⟨⟨ao', cp', hst1⟩, hkeep⟩ := st_see (st_alloc ST.out _) hsp
      have cs1 : w1.cell? ⟨wr.heap.size, 1, none⟩ = some (.string v) := by
        rw [hkeep wr.heap.size 1 (by simp) (by have := ST.out.size; omega) (blk_lt ST.out.pl (Nat.le_refl _))]
        simp
      have cSk := hst1.ar.cS kk hk16
      have cFk := hst1.ar.cF kk hk16
      have cDk := hst1.ar.cD kk hk16
      have fSk := hst1.ar.fS kk
      have fFk := hst1.ar.fF kk
      have fDk := hst1.ar.fD kk
      have hszB : w.heap.size + 4 ≤ wr.heap.size := ST.out.size
      have ST1 : Aside (St w w1 w.heap.size (seeL l kk v) F S D ao' cp') := hst1
      clear hst1 hkeep hsp ST HC c0' c1'
      by_cases hs : S.getD kk false = false
      · have hB := seeB_new IV.out hk16 v hs
        have IV1 : Aside (Inv (seeL l kk v) (F.set kk v) (S.set kk true) D (mxOf mx kk)) := step_new IV.out hk16 v hs
        rw [hs] at cSk
        have HF : Aside (F.length = 16 ∧ S.length = 16) := ⟨IV.out.lF, IV.out.lS⟩
        generalize F.getD kk e0 = fk at *
        generalize D.getD kk false = dk at *
        generalize seeB l kk v = got at *
        clear hs IV
        subst hB
        by_cases hmk : mx < (kk : Int)
        · go_wp2
          go_roundw
          case rel => exact ⟨k + 1, _, _, _, _, _, _, _, by omega, by go_num, by rw [mxOf, if_pos hmk], st_setF (st_setS ST1.out HF.out.2 kk hk16 true) HF.out.1 kk hk16 v, IV1.out⟩
          case measure => simp [intOf]; omega
        · go_wp2
          go_roundw
          case rel => exact ⟨k + 1, _, _, _, _, _, _, _, by omega, by go_num, by rw [mxOf, if_neg (by omega)], st_setF (st_setS ST1.out HF.out.2 kk hk16 true) HF.out.1 kk hk16 v, IV1.out⟩
          case measure => simp [intOf]; omega
      · have hs : S.getD kk false = true := by simpa using hs
        have hB := seeB_old IV.out hk16 v hs
        rw [hs] at cSk
        have HF : Aside (D.length = 16) := IV.out.lD
        by_cases hv : v = F.getD kk e0
        · have IV1 : Aside (Inv (seeL l kk v) F S D (mxOf mx kk)) := step_same IV.out hk16 v hs hv
          generalize F.getD kk e0 = fk at *
          generalize D.getD kk false = dk at *
          generalize seeB l kk v = got at *
          clear hs IV
          subst hv
          have hB2 : got = false := by rw [hB]; simp
          clear hB
          subst hB2
          by_cases hmk : mx < (kk : Int)
          · go_wp2
            go_quiet (fail)
            go_wp2
            go_roundw
            case rel => exact ⟨k + 1, _, _, _, _, _, _, _, by omega, by go_num, by rw [mxOf, if_pos hmk], st_drewN ST1.out _, IV1.out⟩
            case measure => simp [intOf]; omega
          · go_wp2
            go_quiet (fail)
            go_wp2
            go_roundw
            case rel => exact ⟨k + 1, _, _, _, _, _, _, _, by omega, by go_num, by rw [mxOf, if_neg (by omega)], st_drewN ST1.out _, IV1.out⟩
            case measure => simp [intOf]; omega
        · have IV1 : Aside (Inv (seeL l kk v) F S (D.set kk true) (mxOf mx kk)) := step_diff IV.out hk16 v hs hv
          generalize F.getD kk e0 = fk at *
          generalize seeB l kk v = got at *
          clear hs IV
          have hv1 := str_ne hv
          have hv2 : (v.toList == fk.toList) = false := by rw [beq_eq_false_iff_ne]; exact hv1
          have hB2 : got = !D.getD kk false := by rw [hB, decide_eq_false (fun e => hv e.symm)]; simp
          clear hB hv
          generalize D.getD kk false = dk at *
          cases dk
          · simp only [Bool.not_false] at hB2
            subst hB2
            by_cases hmk : mx < (kk : Int)
            · go_wp2
              go_quiet (fail)
              go_wp2
              go_roundw
              case rel => exact ⟨k + 1, _, _, _, _, _, _, _, by omega, by go_num, by rw [mxOf, if_pos hmk], st_setD (st_drewN ST1.out _) HF.out kk hk16 true, IV1.out⟩
              case measure => simp [intOf]; omega
            · go_wp2
              go_quiet (fail)
              go_wp2
              go_roundw
              case rel => exact ⟨k + 1, _, _, _, _, _, _, _, by omega, by go_num, by rw [mxOf, if_neg (by omega)], st_setD (st_drewN ST1.out _) HF.out kk hk16 true, IV1.out⟩
              case measure => simp [intOf]; omega
          · simp only [Bool.not_true] at hB2
            subst hB2
            by_cases hmk : mx < (kk : Int)
            · go_wp2
              go_quiet (fail)
              go_wp2
              go_roundw
              case rel => exact ⟨k + 1, _, _, _, _, _, _, _, by omega, by go_num, by rw [mxOf, if_pos hmk], st_setD (st_drewN ST1.out _) HF.out kk hk16 true, IV1.out⟩
              case measure => simp [intOf]; omega
            · go_wp2
              go_quiet (fail)
              go_wp2
              go_roundw
              case rel => exact ⟨k + 1, _, _, _, _, _, _, _, by omega, by go_num, by rw [mxOf, if_neg (by omega)], st_setD (st_drewN ST1.out _) HF.out kk hk16 true, IV1.out⟩
              case measure => simp [intOf]; omega
    · have hne : ((l.length : Int) != mx + 1) = false := by have := hinv.len; rw [bne_eq_false_iff_eq]; omega
      have hpc := hst.pl.cell
      have hle := hinv.le
      obtain ⟨wo, rfl⟩ : ∃ wo : World, wo = wr := ⟨_, rfl⟩
      clear hst hinv
      go_wp2
      go_loopw [13] (fun i w2 => ∃ (j n : Nat), j ≤ l.length ∧ i = .int .i64 (j : Int) ∧ w2 = wo.drewN n) (fun i _ => l.length - (intOf i).toNat)
      case atStart => exact ⟨0, 0, Nat.zero_le _, rfl, rfl⟩
      case round =>
        obtain ⟨j, n, hj, rfl, rfl⟩ := hrel
        by_cases hjl : j < l.length
        · have hj16 : j < 16 := by omega
          obtain ⟨g, cp2, hform⟩ := Joins.ownsRow_form ST.out.pl.own (by omega)
          simp only [Value.slice.injEq] at hform
          obtain ⟨rfl, _, rfl⟩ := hform
          obtain ⟨q, hq⟩ : ∃ q, l[j]? = some q := ⟨_, List.getElem?_eq_getElem hjl⟩
          have hqd : l.getD j q0 = q := by rw [List.getD_eq_getElem?_getD, hq]; rfl
          have hat := cells3_at _ j q hq
          have hc0 := (ST.out.pl.own.cellAt (j * 3) (by omega)).trans hat.1
          have hc1 := (ST.out.pl.own.cellAt (j * 3 + 1) (by omega)).trans hat.2.1
          have hc2 := (ST.out.pl.own.cellAt (j * 3 + 2) (by omega)).trans hat.2.2
          have cS := ST.out.ar.cS j hj16
          have cD := ST.out.ar.cD j hj16
          have cF := ST.out.ar.cF j hj16
          have h1 := IV.out.seen j hj16
          have h2 := IV.out.split j hj16
          have h3 := IV.out.val j hj16
          rw [hqd] at h1 h2 h3
          rw [← h1] at cS h3
          rw [← h2] at cD
          have hjI : (j : Int) < 16 := by omega
          have hjL : (j : Int) < (l.length : Int) := by omega
          obtain ⟨x, sn, sp⟩ := q
          simp only at hc0 hc1 hc2 cS cD h3
          clear h1 h2 hqd hat hq IV HC
          generalize F.getD j e0 = f at *
          cases sn
          · simp only [Bool.false_eq_true, if_false] at h3
            subst h3
            unfold e0 at hc0
            cases sp
            · go_wp2
              go_quiet (fail)
              go_wp2
              go_quiet (fail)
              go_wp2
              go_roundw
              case rel => exact ⟨j + 1, _, by omega, by go_num, rfl⟩
              case measure => simp [intOf]; omega
            · go_wp2
              go_quiet (fail)
              go_wp2
              go_quiet (fail)
              go_wp2
              go_roundw
              case rel => exact ⟨j + 1, _, by omega, by go_num, rfl⟩
              case measure => simp [intOf]; omega
          · simp only [if_true] at h3
            subst h3
            cases sp
            · go_wp2
              go_quiet (fail)
              go_wp2
              go_quiet (fail)
              go_wp2
              go_roundw
              case rel => exact ⟨j + 1, _, by omega, by go_num, rfl⟩
              case measure => simp [intOf]; omega
            · go_wp2
              go_quiet (fail)
              go_wp2
              go_quiet (fail)
              go_wp2
              go_roundw
              case rel => exact ⟨j + 1, _, by omega, by go_num, rfl⟩
              case measure => simp [intOf]; omega
        · go_wp2
          go_ret
          have hb := ST.out.bel
          exact ⟨rfl, ⟨hb.os, hb.tape, hb.output, hb.size, hb.block⟩⟩
set_option maxRecDepth 50000 in
set_option maxHeartbeats 1000000 in
theorem script_none (a : Option Addr) (cap : Nat) (w : World) :
    Calls Yba.prog 3 #[.slice a 0 cap] w fun e w' => e = .returned (.bool true) ∧ Below w.heap.size w w' := by
  go_enter Yba.func3, Yba.ntmps3
  go_wp2
  refine wp_loop_rounds 1 ?_
  rw [rounds_succ]
  go_wp2
  refine wp_loop_rounds 1 ?_
  rw [rounds_succ]
  go_wp2
  go_ret
  exact ⟨rfl, ((((Below.refl _ _).alloc (Nat.le_refl _) _).alloc (by simp) _).alloc (by simp; omega) _).alloc (by simp; omega) _⟩

theorem script_long (a : Option Addr) (len cap : Nat) (w : World) (hl : 1024 < len) :
    Calls Yba.prog 3 #[.slice a len cap] w fun e w' => e = .returned (.bool true) ∧ Below w.heap.size w w' := by
  have hl' : (1024 : Int) < (len : Int) := by omega
  go_enter Yba.func3, Yba.ntmps3
  go_wp2
  go_ret
  exact ⟨rfl, Below.refl _ _⟩
end Go.Proofs.Ybulkbcrm.places
