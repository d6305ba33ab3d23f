/-
  Seat b2690a: LawS2690CModel: evict, its two ways.
-/
import Derived.Test.YbulkbcrmModelM7
namespace Go.Proofs.Ybulkbcrm.model
open Go.RowKit

/-- The live states with those below 'to' taken out, as far as 'done' says. -/
def cutL (L : Nat → Option Rec) (done : Nat → Bool) : Nat → Option Rec := fun i => if done i then none else L i

theorem lvf_cut_upd {L : Nat → Option Rec} {d d' : Nat → Bool} {s : Nat} (h : ∀ i, d' i = (d i || decide (i = s))) : upd (lvf (cutL L d)) s none = lvf (cutL L d') := by
  funext i
  by_cases e : i = s
  · subst e
    simp [upd, lvf, cutL, h]
  · simp [upd, lvf, cutL, h, e]

theorem lvf_cut_same {L : Nat → Option Rec} {d d' : Nat → Bool} (h : ∀ i r, L i = some r → d i = d' i) : lvf (cutL L d) = lvf (cutL L d') := by
  funext i
  cases hL : L i with
  | none => simp [lvf, cutL, hL]
  | some r => simp [lvf, cutL, hL, h i r hL]

theorem lvf_zero (L : Nat → Option Rec) (i : Nat) : ∃ r b, (lvf L i).getD (rcv zrec) = rcv r ∧ (lvf L i).isSome = b ∧ ((b = true ∧ L i = some r) ∨ (b = false ∧ L i = none)) := by
  cases h : L i with
  | none => exact ⟨zrec, false, by simp [lvf, h], by simp [lvf, h], .inr ⟨rfl, rfl⟩⟩
  | some r => exact ⟨r, true, by simp [lvf, h], by simp [lvf, h], .inl ⟨rfl, rfl⟩⟩

theorem Ev.iter {w0 : World} {sb lm low rel : Nat} {mv : Value} {kept : Nat} {lv hv : Value} {l xs : List Rec} {wr w2 : World} {r0 : Nat} (h : Ev w0 sb lm low rel mv kept lv hv l xs wr) (hg : wr.grownBy w2 (some r0)) (hr : w0.heap.size ≤ r0)
    (hi : ∃ m a1 a2 a3, wr.heap[r0]? = some (.mapIter m a1 a2 a3)) : Ev w0 sb lm low rel mv kept lv hv l xs w2 := by
  obtain ⟨hvx, h1, h2, h3, h4⟩ := h
  obtain ⟨m, a1, a2, a3, hi⟩ := hi
  refine ⟨hvx, h1.same (hg.block sb h1.lt (fun e => ?_)), h2.same (fun g e => hg.block g (h2.lt e) (fun e2 => ?_)), h3.grown hg (fun k e => .inr (by cases e; exact hr)), h4⟩
  · cases e
    unfold SB at h1
    rw [hi] at h1
    cases h1
  · cases e2
    obtain ⟨cur, hc⟩ := h2.kind e
    rw [hi] at hc
    cases hc

set_option maxRecDepth 100000 in
set_option maxHeartbeats 4000000 in
theorem evict {w : World} {sb pb lm low rel : Nat} {mv : Value} {kept : Nat} {lv hv : Value} {l : List Rec} {L : Nat → Option Rec} (fr tt : Nat) (hft : fr < tt) (hto : tt ≤ 15) (hp : PB w pb sb) (hs : SB w sb low rel mv kept lv hv) (hg : Seg w hv l) (hn : l.length ≤ 16)
    (hL : Lok L) (hm : PM w 30 .u64 16 lm (lvf L)) (hlow : ∀ i, i < fr → L i = none) :
    Calls Yba.prog 13 #[.map (some lm), .int .u64 (fr : Int), .int .u64 (tt : Int), dropV pb] w fun e w' => e = .returned (.tuple #[]) ∧
      ∃ xs, Took L (fun i => i < tt) xs ∧ PM w' 30 .u64 16 lm (lvf (cutL L (fun i => decide (i < tt)))) ∧ Ev w sb lm low rel mv kept lv hv l xs w' := by
  obtain ⟨W0, hW0⟩ : ∃ W0, W0 = (w.alloc (.cells #[.map (some lm)] 69)).alloc (.cells #[dropV pb] 81) := ⟨_, rfl⟩
  have F0 : Fr (fun _ => False) w W0 := by rw [hW0]; exact ((Fr.refl _ w).alloc _).alloc _
  obtain ⟨mb, hmbE⟩ : ∃ mb, mb = w.heap.size := ⟨_, rfl⟩
  obtain ⟨db, hdbE⟩ : ∃ db, db = w.heap.size + 1 := ⟨_, rfl⟩
  have hmb : W0.heap[mb]? = some (.cells #[.map (some lm)] 69 (0, 0)) := by
    rw [hW0, hmbE, Below.heap_alloc _ _ _ (by simp)]
    exact alloc_new _ _
  have hdb : W0.heap[db]? = some (.cells #[dropV pb] 81 (0, 0)) := by
    have e := alloc_new (w.alloc (.cells #[.map (some lm)] 69)) (.cells #[dropV pb] 81)
    simp only [World.size_alloc] at e
    rw [hW0, hdbE]
    exact e
  have hp0 : PB W0 pb sb := hp.fr F0 (fun h => h)
  have hs0 := hs.fr F0 (fun h => h)
  have hg0 := hg.fr F0 (fun _ _ h => h)
  have hm0 := hm.fr F0 (fun h => h)
  have ev0 : Ev W0 sb lm low rel mv kept lv hv l [] W0 := ⟨hv, hs0, by rw [List.append_nil]; exact hg0, Fr.refl _ _, .inl rfl⟩
  have hlm0 := hm0.isMap
  have lift : ∀ xs w', Ev W0 sb lm low rel mv kept lv hv l xs w' → Ev w sb lm low rel mv kept lv hv l xs w' := by
    rintro xs w' ⟨hvx, a1, a2, a3, a4⟩
    refine ⟨hvx, a1, a2, (F0.mono (T := EvS sb lm hv) (fun k h => h.elim)).trans a3, ?_⟩
    rcases a4 with h | h
    · exact .inl h
    · exact .inr (fun g e => Nat.le_trans F0.size (h g e))
  -- one state is taken
  have take : ∀ (T : World → Prop) (wr : World) (xs : List Rec) (r : Rec), Ev W0 sb lm low rel mv kept lv hv l xs wr → (l ++ xs).length ≤ 100 → (∃ es c, wr.heap[lm]? = some (.map es c)) →
      (∃ w', (Builtin.delete_ #[69, 30] 0 #[.map (some lm), .int .u64 (r.slot : Int)]).run Yba.prog (wr.alloc (.cells (rcl r).toArray 52)) = .ok (.tuple #[]) w' ∧ T w' ∧ (wr.alloc (.cells (rcl r).toArray 52)).mapTurned w' lm) →
      ∀ K : Nat → Prop, (∀ k, K k → ∃ o, wr.heap[k]? = some o ∧ ∀ cur t fz, o ≠ .cells cur t fz) → (∀ w1 w2 : World, T w1 → (∀ k, K k → w2.heap[k]? = w1.heap[k]?) → T w2) →
      Calls Yba.prog 24 #[.int .u64 (r.slot : Int), rcv r, .pointer (some ⟨mb, 0, none⟩), .pointer (some ⟨db, 0, none⟩)] wr fun e w' => e = .returned (.tuple #[]) ∧ T w' ∧ Ev W0 sb lm low rel mv kept lv hv l (xs ++ [r]) w' :=
    fun T wr xs r h1 h3 h4 h5 K h6 h7 => Ev.take T h1 r hmb hdb hp0 ⟨_, _, hs0⟩ (fun g e => hg0.kind e) hlm0 h3 h4 h5 K h6 h7
  have TAKE := hide take
  have LIFT := hide lift
  have EV0 := hide ev0
  have PM0 := hide hm0
  have HL := hide hL
  have HLOW := hide hlow
  have HF0 := hide F0
  have evmb : ∀ xs wr, Ev W0 sb lm low rel mv kept lv hv l xs wr → wr.cell? ⟨mb, 0, none⟩ = some (.map (some lm)) := by
    rintro xs wr ⟨hvx, a1, a2, a3, a4⟩
    refine cell_of ((a3.keep mb (heap_lt hmb) ?_).trans hmb) rfl
    rintro (e | e | e)
    · subst e
      unfold SB at hs0
      rw [hmb] at hs0
      cases hs0
    · subst e
      obtain ⟨es, c, he⟩ := hlm0
      rw [hmb] at he
      cases he
    · obtain ⟨cur, hc⟩ := hg0.kind e
      rw [hmb] at hc
      cases hc
  have EVMB := hide evmb
  have m0 := evmb [] W0 ev0
  obtain ⟨cn, hcn⟩ : ∃ cn, cntF (lvf L) 16 = cn := ⟨_, rfl⟩
  have hcn16 : cn ≤ 16 := by rw [← hcn]; exact cntF_le _ _
  have hlen := fun ty => PM.len (t := 69) (e := 52) hm0 Yba.underlying69 ty
  rw [hcn] at hlen
  clear take lift ev0 hm0 hL hlow F0 evmb hp hs hg hm hmb hdb hp0 hs0 hg0 hlm0 hcn
  have HW0 := hide hW0
  clear hW0
  subst hmbE hdbE
  have hftI : ¬ (tt : Int) ≤ (fr : Int) := by omega
  obtain ⟨df, hdf⟩ : ∃ df : Nat, (tt : Int) - (fr : Int) = (df : Int) := ⟨tt - fr, by omega⟩
  unfold dropV at HW0 ⊢
  go_enter Yba.func13, Yba.ntmps13
  go_upto_region 2 with fail
  go_cut [17] from 15 (fun s17 wx => s17 = .bool false ∧ wx = W0)
  case first =>
    go_wp2_with fail
    go_meet
    case rel => exact ⟨rfl, HW0.out.symm⟩
  case rest =>
    obtain ⟨rfl, hcut⟩ := hcut
    subst hcut
    by_cases hway : df ≤ cn
    · have hwayI : (df : Int) ≤ (cn : Int) := by omega
      go_wp2_with fail
      go_loopw [9] (fun s9 wx => ∃ (s : Nat) (xs : List Rec), s9 = .int .u64 (s : Int) ∧ fr ≤ s ∧ s ≤ tt ∧ Took L (fun i => i < s) xs ∧ PM wx 30 .u64 16 lm (lvf (cutL L (fun i => decide (i < s)))) ∧ Ev wc sb lm low rel mv kept lv hv l xs wx) (fun s9 _ => tt - (intOf s9).toNat)
      case atStart =>
        refine ⟨fr, [], rfl, Nat.le_refl _, by omega, Took.nil L (fun i r h1 h2 => by rw [HLOW.out i h1] at h2; cases h2), ?_, EV0.out⟩
        rw [← lvf_cut_same (L := L) (d := fun _ => false) (fun i r h => ?_)]
        · exact PM0.out
        · rcases Nat.lt_or_ge i fr with h1 | h1
          · rw [HLOW.out i h1] at h; cases h
          · simp; omega
      case round =>
        obtain ⟨s, xs, rfl, hfs, hst, htk, hpm, hev⟩ := hrel
        have HTK := hide htk
        have HPM := hide hpm
        have HEV := hide hev
        have mw := EVMB.out xs wr hev
        by_cases hlt : s < tt
        · have hltI : (s : Int) < (tt : Int) := by omega
          have LK := hpm.lookOk keyed30 Yba.underlying69 (zero52 wr) (show s < 16 by omega) (key30 (show s < 16 by omega))
          obtain ⟨r, bb, e1, e2, e3⟩ := lvf_zero (cutL L (fun i => decide (i < s))) s
          have e4 : cutL L (fun i => decide (i < s)) s = L s := by simp [cutL]
          rw [e4] at e3
          rw [e1, e2] at LK
          have E3 := hide e3
          clear htk hpm hev e1 e2 e3 e4
          cases bb with
          | false =>
            unfold rcv at LK
            go_wp2_with fail
            go_roundw
            case rel =>
              have hLs : L s = none := by rcases E3.out with ⟨h, _⟩ | ⟨_, h⟩; cases h; exact h
              refine ⟨s + 1, xs, by go_num, by omega, by omega, HTK.out.same (fun i r h => ?_), ?_, HEV.out.alloc _⟩
              · have : i ≠ s := by rintro rfl; rw [hLs] at h; cases h
                omega
              · rw [← lvf_cut_same (L := L) (d := fun i => decide (i < s)) (fun i r h => ?_)]
                · exact HPM.out.same (Below.heap_alloc _ _ _ HPM.out.lt)
                · have : i ≠ s := by rintro rfl; rw [hLs] at h; cases h
                  rw [decide_eq_decide]
                  omega
            case measure => simp [intOf]; omega
          | true =>
            have hLs : L s = some r := by rcases E3.out with ⟨_, h⟩ | ⟨h, _⟩; exact h; cases h
            have hrs := (HL.out.slot s r hLs).1
            have LS := hide hLs
            have lenOK : (l ++ xs).length ≤ 100 := by
              have := HTK.out.len HL.out
              rw [List.length_append]
              omega
            have pmA : PM ((wr.alloc (.cells (rcl r).toArray 52)).alloc (.cells (rcl r).toArray 52)) 30 .u64 16 lm (lvf (cutL L (fun i => decide (i < s)))) := HPM.out.fr (((Fr.refl (fun _ => False) wr).alloc _).alloc _) (fun h => h)
            obtain ⟨wd, hd1, hd2, hd3⟩ := pmA.del keyed30 Yba.underlying69 (show s < 16 by omega) (key30 (show s < 16 by omega)) 0
            rw [lvf_cut_upd (d' := fun i => decide (i < s + 1)) (fun i => by
              rw [← Bool.decide_or, decide_eq_decide]
              omega)] at hd2
            have c := TAKE.out (fun w' => PM w' 30 .u64 16 lm (lvf (cutL L (fun i => decide (i < s + 1))))) (wr.alloc (.cells (rcl r).toArray 52)) xs r (HEV.out.alloc _) lenOK (HPM.out.same (Below.heap_alloc _ _ _ HPM.out.lt)).isMap ⟨wd, by rw [hrs]; exact hd1, hd2, hd3⟩ (fun k => k = lm)
              (fun k e => by
                subst e
                obtain ⟨es, c, he⟩ := (HPM.out.same (w' := wr.alloc (.cells (rcl r).toArray 52)) (Below.heap_alloc _ _ _ HPM.out.lt)).isMap
                exact ⟨_, he, fun _ _ _ e => by cases e⟩)
              (fun w1 w2 h1 h2 => h1.same (h2 lm rfl))
            rw [hrs] at c
            obtain ⟨slot, low', rel', log, ra, rl, rc⟩ := r
            unfold rcl rcv at c
            unfold rcv at LK
            simp only at hrs
            subst hrs
            simp only at c LK
            have C := hide c
            clear c hd1 hd2 hd3 pmA E3 hLs lenOK
            go_wp2_with fail
            go_at_call 24
            refine C.out.mono ?_
            rintro e w3 ⟨rfl, hpm3, hev3⟩
            have HPM3 := hide hpm3
            have HEV3 := hide hev3
            clear C hpm3 hev3
            go_wp2_with fail
            go_roundw
            case rel => exact ⟨slot + 1, xs ++ [_], by go_num, by omega, by omega, HTK.out.snoc HL.out LS.out (by omega) (fun i => by omega), HPM3.out, HEV3.out⟩
            case measure => simp [intOf]; omega
        · have hltI : ¬ (s : Int) < (tt : Int) := by omega
          have hE : s = tt := by omega
          subst hE
          clear htk hpm hev
          go_wp2_with fail
          (try simp only [Exit.inBlock, Exit.then])
          refine bodyPost_ret (results_none rfl _ _ _) rfl ?_
          exact ⟨rfl, xs, HTK.out, HPM.out, LIFT.out xs _ HEV.out⟩
    · have hwayI : ¬ (df : Int) ≤ (cn : Int) := by omega
      obtain ⟨w1, cnt, hrg, hr1, hgr1, hsz1⟩ := PM0.out.range keyed30 Yba.underlying69
      obtain ⟨r0, hr0⟩ : ∃ r0, wc.heap.size = r0 := ⟨_, rfl⟩
      have ev1 : Ev wc sb lm low rel mv kept lv hv l [] w1 := by
        obtain ⟨hvx, h1, h2, h3, h4⟩ := EV0.out
        exact ⟨hvx, h1.same (hgr1.block sb h1.lt (by simp)), h2.same (fun g e => hgr1.block g (h2.lt e) (by simp)), h3.grown hgr1 (fun k e => by cases e), h4⟩
      rw [hr0] at hrg hr1
      have HR1 := hide hr1
      have EV1 := hide ev1
      clear hr1 hgr1 hsz1 ev1
      go_wp2_with fail
      go_loopw [12] (fun _ wx => ∃ (xs : List Rec) (left : Nat → Bool) (cnt : Nat), Took L (fun i => i < tt ∧ left i = false) xs ∧ PMr wx 30 .u64 16 lm r0 (lvf (cutL L (fun i => decide (i < tt) && !left i))) left cnt ∧ Ev wc sb lm low rel mv kept lv hv l xs wx) (fun _ wx => wx.rangeLeft lm r0)
      case atStart =>
        refine ⟨[], fun i => (lvf L i).isSome, cnt, Took.nil L (fun i r h1 h2 => ?_), ?_, EV1.out⟩
        · have := h1.2
          simp [lvf, h2] at this
        · rw [← lvf_cut_same (L := L) (d := fun _ => false) (fun i r h => by simp [lvf, h])]
          exact HR1.out
      case round =>
        obtain ⟨xs, left, cnt1, htk, hpr, hev⟩ := hrel
        rcases hpr.next keyed30 (fun i hi => key30 hi) 0 with ⟨hc, hlf, hnx⟩ | ⟨i, v, w2, cnt2, hi, hli, hfi, hnx, hr2, hcl, hg2, hs2, hen⟩
        · have HEV := hide hev
          have HTK := hide (htk.same (done' := fun i => i < tt) (fun i r h => ⟨fun h => h.1, fun h2 => ⟨h2, hlf i (HL.out.slot i r h).2⟩⟩))
          have HPM := hide hpr.pm
          have HLF := hide hlf
          clear hev htk hpr hlf
          go_wp2_with fail
          go_end0
          refine ⟨rfl, xs, HTK.out, ?_, LIFT.out xs _ HEV.out⟩
          rw [← lvf_cut_same (L := L) (d := fun i => decide (i < tt) && !left i) (fun i r h => by rw [HLF.out i (HL.out.slot i r h).2]; simp)]
          exact HPM.out
        · obtain ⟨r, hLi, hv⟩ : ∃ r, L i = some r ∧ v = rcv r := by
            simp only [lvf, cutL] at hfi
            split at hfi
            · cases hfi
            · cases hq : L i with
              | none => rw [hq] at hfi; cases hfi
              | some r => rw [hq] at hfi; exact ⟨r, rfl, by simpa using hfi.symm⟩
          subst hv
          have hrs := (HL.out.slot i r hLi).1
          have ev2 := hev.iter hg2 (by omega) (by obtain ⟨a1, a2, a3, h⟩ := hpr.iter; exact ⟨_, a1, a2, a3, h⟩)
          have LI := hide hLi
          have HTK := hide htk
          have HPR := hide hpr
          have EV2 := hide ev2
          have HR2 := hide hr2
          have mw2 := EVMB.out xs w2 ev2
          by_cases hlt : i < tt
          · have hltI : (i : Int) < (tt : Int) := by omega
            have lenOK : (l ++ xs).length ≤ 100 := by
              have := HTK.out.len HL.out
              rw [List.length_append]
              omega
            obtain ⟨wd, cnt3, hd1, hd2, hd3, hd4⟩ := (hr2.fr (((Fr.refl (fun _ => False) w2).alloc (.cells (rcl r).toArray 52)).alloc (.cells (rcl r).toArray 52)) (fun h => h) (fun h => h)).drop keyed30 Yba.underlying69 hi (key30 hi) 0
            rw [lvf_cut_upd (d' := fun j => decide (j < tt) && !(left j && !decide (j = i))) (fun j => by
              by_cases e : j = i
              · subst e; simp [hlt]
              · simp [e]), show (fun j => (left j && !decide (j = i)) && !decide (j = i)) = (fun j => left j && !decide (j = i)) from by funext j; cases left j <;> by_cases e : j = i <;> simp [e]] at hd2
            have c := TAKE.out (fun w' => ∃ cnt4, cnt4 ≤ cnt2 ∧ PMr w' 30 .u64 16 lm r0 (lvf (cutL L (fun j => decide (j < tt) && !(left j && !decide (j = i))))) (fun j => left j && !decide (j = i)) cnt4) (w2.alloc (.cells (rcl r).toArray 52)) xs r (EV2.out.alloc _) lenOK (hr2.pm.same (Below.heap_alloc _ _ _ hr2.pm.lt)).isMap ⟨wd, by rw [hrs]; exact hd1, ⟨cnt3, hd3, hd2⟩, hd4⟩ (fun k => k = lm ∨ k = r0)
              (fun k e => by
                rcases e with rfl | rfl
                · obtain ⟨es, c, he⟩ := (hr2.pm.same (w' := w2.alloc (.cells (rcl r).toArray 52)) (Below.heap_alloc _ _ _ hr2.pm.lt)).isMap
                  exact ⟨_, he, fun _ _ _ e => by cases e⟩
                · obtain ⟨a1, a2, a3, he⟩ := (hr2.fr ((Fr.refl (fun _ => False) w2).alloc (.cells (rcl r).toArray 52)) (fun h => h) (fun h => h)).iter
                  exact ⟨_, he, fun _ _ _ e => by cases e⟩)
              (fun w1 w2 ⟨c4, h0, h1⟩ h2 => ⟨c4, h0, h1.same (h2 lm (.inl rfl)) (h2 r0 (.inr rfl))⟩)
            rw [hrs] at c
            obtain ⟨slot, low', rel', log, ra, rl, rc⟩ := r
            unfold rcl rcv at c
            unfold rcv at hnx hen
            simp only at hrs
            subst hrs
            simp only at c hnx hen
            have C := hide c
            clear c hd1 hd2 hd3 hd4 hLi lenOK htk hpr ev2 hr2 hfi hev hg2 hs2
            go_wp2_with fail
            go_at_call 24
            refine C.out.mono ?_
            rintro e w3 ⟨rfl, ⟨cnt4, hc4, hpm3⟩, hev3⟩
            have HPM3 := hide hpm3
            have HEV3 := hide hev3
            clear C hpm3 hev3
            go_wp2_with fail
            go_roundw
            case rel =>
              refine ⟨xs ++ [_], _, cnt4, HTK.out.snoc HL.out LI.out (by rw [hli]; simp) (fun j => ?_), HPM3.out, HEV3.out⟩
              by_cases e : j = slot
              · subst e; simp [hlt]
              · simp [e]
            case measure => rw [HPR.out.left_eq, HPM3.out.left_eq]; omega
          · have hltI : ¬ (i : Int) < (tt : Int) := by omega
            obtain ⟨slot, low', rel', log, ra, rl, rc⟩ := r
            unfold rcv at hnx hen
            simp only at hrs hnx hen
            subst hrs
            clear hLi htk hpr ev2 hr2 hfi hev hg2 hs2
            go_wp2_with fail
            go_roundw
            case rel =>
              refine ⟨xs, (fun j => left j && !decide (j = slot)), cnt2, HTK.out.same (fun j r h => ?_), ?_, EV2.out.alloc _⟩
              · by_cases e : j = slot
                · subst e; simp [hlt]
                · simp [e]
              · rw [← lvf_cut_same (L := L) (d := fun j => decide (j < tt) && !left j) (fun j r h => ?_)]
                · exact HR2.out.fr ((Fr.refl (fun _ => False) w2).alloc _) (fun h => h) (fun h => h)
                · by_cases e : j = slot
                  · subst e; simp [hlt]
                  · simp [e]
            case measure =>
              rw [HPR.out.left_eq, (HR2.out.fr ((Fr.refl (fun _ => False) w2).alloc _) (fun h => h) (fun h => h)).left_eq]
              exact hcl

end Go.Proofs.Ybulkbcrm.model
