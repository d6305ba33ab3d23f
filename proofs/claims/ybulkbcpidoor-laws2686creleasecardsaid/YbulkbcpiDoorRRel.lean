/-
  Seat b2686aD: Release.
-/
import Derived.Test.YbulkbcpiDoorRGw
namespace Go.Proofs.YbulkbcpiDoor.rel
open Go.RowKit

section
variable {ow : Nat → Option Nat} {w : World} {M qm tm : Nat} {s : St} {i : Nat}

/-- A queue leaves 'held'. -/
theorem tx_del {t g n cap k : Nat} {hd wt : List Nat} {wv : Value} (x : Tx ow w t hd wt (.slice (some ⟨g, 0, none⟩) n cap) wv) (hf : Fresh ow w) (hn : hd.length = n) (hk : k < n) {w1 : World} {cur' : Array Value} (hg1 : w1.heap[g]? = some (.cells cur' 64 (0, 0))) (hsz : cur'.size = cap) (hcur : cur'.toList.take (n - 1) = (hd.eraseIdx k).map qp) (ho : Only w w1 g) :
    (w1.cell? ⟨t, 0, none⟩ = some (.slice (some ⟨g, 0, none⟩) n cap) ∧ w1.frozen? ⟨t, 0, none⟩ = false ∧ t < w1.heap.size) ∧ Fr ow w ow (w1.setCell ⟨t, 0, none⟩ (.slice (some ⟨g, 0, none⟩) (n - 1) cap)) [t] ∧ Tx ow (w1.setCell ⟨t, 0, none⟩ (.slice (some ⟨g, 0, none⟩) (n - 1) cap)) t (hd.eraseIdx k) wt (.slice (some ⟨g, 0, none⟩) (n - 1) cap) wv := by
  have hgt : t ≠ g := x.ne_row (.inl rfl)
  have hbt : w1.heap[t]? = some (.cells #[.slice (some ⟨g, 0, none⟩) n cap, wv, .bool false, .int .u64 0] 73 (0, 0)) := (ho.block t hgt).trans x.blk
  have F1 : Fr ow w ow w1 [t] := ho.fr hf (x.hown g rfl)
  have F2 : Fr ow w1 ow (w1.setCell ⟨t, 0, none⟩ (.slice (some ⟨g, 0, none⟩) (n - 1) cap)) [t] := (Fr.refl F1.fresh0 [t]).setCell (.inr ⟨t, x.own, by simp⟩) _ _
  obtain ⟨_, hc2, hc3⟩ : (n : Nat) ≤ cap ∧ cap ≤ maxLen ∧ True := by
    rcases x.hrow.2 with ⟨e, _⟩ | ⟨g', cap', cur, e, _, _, h3, h4, _⟩
    · cases e
    · cases e; exact ⟨by rw [← hn]; exact h3, h4, trivial⟩
  have hlen : (hd.eraseIdx k).length = n - 1 := by rw [List.length_eraseIdx, hn, if_pos hk]
  refine ⟨⟨?_, frozen_of_row _ _ _ _ _ hbt, heap_lt hbt⟩, (F1.trans F2).mono (by simp), ?_, x.own, ?_, ?_, ?_, x.wown, ?_⟩
  · rw [cell_of_row _ _ _ _ _ _ hbt]; rfl
  · rw [hset_same hbt]; rfl
  · refine ⟨by rw [List.length_map, hlen]; simp, .inr ⟨g, cap, cur', by rw [hlen], Nat.zero_le _, ?_, by omega, hc2, by rw [hsz]; simp, ?_⟩⟩
    · rw [hset_other _ _ _ hgt]; exact hg1
    · rw [hlen, Nat.mul_one]; exact hcur
  · intro k' e
    simp [Value.ownBlock] at e
    subst e
    exact x.hown _ rfl
  · refine ownsRow_same x.wrow (fun k' e => ?_)
    have h1 : k' ≠ g := fun e2 => by subst e2; exact x.ne k' rfl e
    rw [hset_other _ _ _ (x.ne_row (.inr e)), ho.block k' h1]
  · intro k' e e2
    simp [Value.ownBlock] at e
    subst e
    exact x.ne _ rfl e2

theorem erase_at {l : List Nat} {k i : Nat} (hn : l.Nodup) (h : l[k]? = some i) : l.eraseIdx k = l.erase i := by
  have hk := (List.getElem?_eq_some_iff.1 h).1
  rw [List.erase_eq_eraseIdx_of_idxOf]
  have : l[k]'hk = i := (List.getElem?_eq_some_iff.1 h).2
  rw [← this]
  exact hn.idxOf_getElem k hk

set_option maxRecDepth 50000 in
set_option maxHeartbeats 4000000 in
theorem releaseX {ev : Nat → Value} (h : Rep ow w M qm tm s) (I : Inv NoE NoE s) (G : Glob ow w ev) (hi : i < 3) (y : Nat) (hy : y < 4) :
    Calls Ybad.prog 8 #[.pointer (some ⟨M, 0, none⟩), .int .i64 (y : Int), .string (name i)] w fun e w' => ∃ v er, e = .returned (.tuple #[v, er]) ∧ Nxt ow w M qm tm s w' := by
  obtain ⟨sqv, stv, mg, _, _⟩ := h.mg
  have m0 : w.cell? ⟨M, 0, none⟩ = some (.map (some qm)) := mg.c.1
  have m1 : w.cell? ⟨M, 1, none⟩ = some (.map (some tm)) := mg.c.2.1
  have M2 : Aside (w.cell? ⟨M, 2, none⟩ = some (.bool false)) := mg.c.2.2.1
  have Ml := heap_lt mg
  clear mg
  obtain ⟨tv, htv⟩ : ∃ tv, pv (s.tb y) = tv := ⟨_, rfl⟩
  obtain ⟨qv, hqv⟩ : ∃ qv, pv (s.qb i) = qv := ⟨_, rfl⟩
  have LT : Aside ((Instr.lookup 55 (.map (some tm)) (.int .i64 (y : Int)) false).run Ybad.prog w = .ok tv w) := by rw [← htv]; exact lookT h hy
  have LQ : Aside ((Instr.lookup 54 (.map (some qm)) (.string (name i)) false).run Ybad.prog w = .ok qv w) := by rw [← hqv]; exact lookQ h hi
  have WT : Aside (Calls Ybad.prog 14 #[tv] w fun e w' => e = .returned (.bool (s.wl y).isSome) ∧ w' = w) := by rw [← htv]; exact isWaitR h hy (fun e => (I.tn y hy (fun e => e) e).2)
  have HD : Aside (Calls Ybad.prog 15 #[qv, .int .i64 (y : Int)] w fun e w' => (∃ m : Nat, e = .returned (.tuple #[.int .i64 m, .bool (has (s.gr i) y)])) ∧ Below w.heap.size w w') := by rw [← hqv]; exact heldR h hi y (fun e => (I.qn i hi e).1)
  have HERE : Aside (∀ w', Below w.heap.size w w' → Nxt ow w M qm tm s w') := fun w' b => nxt_here h I (fr_below b h.fresh)
  have g0 := G.c 0 (by omega)
  have g3 := G.c 3 (by omega)
  have l0 := cell_lt g0
  have l3 := cell_lt g3
  have G3 : Aside (∀ w', Below w.heap.size w w' → w'.cell? ⟨3, 0, none⟩ = some (ev 3) ∧ 3 < w'.heap.size ∧ w'.cell? ⟨M, 2, none⟩ = some (.bool false)) := fun w' b => ⟨by rw [b.cell (p := ⟨3, 0, none⟩) l3]; exact g3, Nat.lt_of_lt_of_le l3 b.size, by rw [b.cell (p := ⟨M, 2, none⟩) Ml]; exact M2.out⟩
  have REP : Aside (Rep ow w M qm tm s) := h
  have INV : Aside (Inv NoE NoE s) := I
  have TV : Aside (pv (s.tb y) = tv) := htv
  have QV : Aside (pv (s.qb i) = qv) := hqv
  clear h I G htv hqv
  obtain ⟨nm, hnm⟩ : ∃ nm, name i = nm := ⟨_, rfl⟩
  rw [hnm] at LQ ⊢
  clear hnm
  go_enter Ybad.func8, Ybad.ntmps8
  go_wp2_with (refine wpList_lookup_run _ rfl (.tmp 17) (.tmp 18) 55 rfl _ _ _ rfl rfl LT.out ?_)
  refine WT.out.mono ?_
  rintro e w1 ⟨rfl, rfl⟩
  cases hw : (s.wl y).isSome with
  | true =>
    have E := hide (HERE.out w1.drew (Below.refl _ _).drew)
    go_wp2
    go_region
    all_goals
      go_wp2
      go_ret2
      exact ⟨_, _, rfl, E.out⟩
  | false =>
    go_wp2_with (refine wpList_lookup_run _ rfl (.tmp 26) (.tmp 27) 54 rfl _ _ _ rfl rfl LQ.out ?_)
    refine HD.out.mono ?_
    rintro e w2 ⟨⟨m', rfl⟩, hbel⟩
    obtain ⟨d3, l32, dM⟩ := G3.out w2 hbel
    have BE := hide hbel
    clear hbel
    cases hh : has (s.gr i) y with
    | false =>
      have E := hide (HERE.out w2.drew BE.out.drew)
      go_wp2
      go_region
      all_goals
        go_wp2
        go_ret2
        exact ⟨_, _, rfl, E.out⟩
    | true =>
      have hwl : s.wl y = none := by simpa using hw
      have hil : i ∈ s.hl y := (INV.out.hold i hi y hy).1 hh
      obtain ⟨t, ht⟩ : ∃ t, s.tb y = some t := by
        cases hc : s.tb y with
        | none => have := (INV.out.tn y hy (fun e => e) hc).1; rw [this] at hil; cases hil
        | some t => exact ⟨t, rfl⟩
      obtain ⟨b, hb⟩ : ∃ b, s.qb i = some b := by
        cases hc : s.qb i with
        | none => have := (INV.out.qn i hi hc).1; rw [this] at hh; cases hh
        | some b => exact ⟨b, rfl⟩
      obtain rfl : tv = .pointer (some ⟨t, 0, none⟩) := by rw [← TV.out, ht]; rfl
      obtain rfl : qv = .pointer (some ⟨b, 0, none⟩) := by rw [← QV.out, hb]; rfl
      have F2 := fr_below BE.out REP.out.fresh
      have h2 := REP.out.still F2
      have ok := INV.out.qok i hi
      have hgne : s.gr i ≠ [] := fun e => by rw [e] at hh; cases hh
      have REM : Aside (Calls Ybad.prog 19 #[.pointer (some ⟨b, 0, none⟩), .int .i64 (y : Int)] w2 fun e w' => e = .returned (.tuple #[]) ∧ ∃ k r, (s.gr i)[k]? = some r ∧ r.y = y ∧ To ow w2 M qm tm s (s.setQ i ((s.gr i).eraseIdx k) (s.wt i) (s.lo - if (s.gr i).length = 1 then 1 else 0) s.wa) w') :=
        removeR h2 hi hb y hh (fun r hr => (ok.glt r hr).2) (by have := ok.len; omega) (INV.out.lo1 hi hgne) (by have := INV.out.lo3; omega)
      have FF2 : Aside (Fr ow w1 ow w2 []) := F2
      have HT : Aside (s.tb y = some t) := ht
      have HB : Aside (s.qb i = some b) := hb
      have HIL : Aside (i ∈ s.hl y) := hil
      have HWL : Aside (s.wl y = none) := hwl
      clear F2 h2 ok hgne ht hb hil hwl HERE G3 WT HD LT LQ TV QV m0 m1 M2 g0 g3
      go_wp2_with fail
      refine (letGo _ _ dM).mono ?_
      rintro e w2' ⟨rfl, rfl⟩
      go_wp2_with fail
      refine REM.out.mono ?_
      rintro e w3 ⟨rfl, k, r, hk, hry, ow3, f3, h3⟩
      obtain ⟨s1, hs1⟩ : ∃ s1, s1 = s.setQ i ((s.gr i).eraseIdx k) (s.wt i) (s.lo - if (s.gr i).length = 1 then 1 else 0) s.wa := ⟨_, rfl⟩
      rw [← hs1] at f3 h3
      have T1 : s1.tb = s.tb ∧ s1.hl = s.hl ∧ s1.wl = s.wl ∧ s1.qb = s.qb := by rw [hs1]; exact ⟨rfl, rfl, rfl, rfl⟩
      have ht1 : s1.tb y = some t := by rw [T1.1]; exact HT.out
      obtain ⟨hv, wv, x⟩ := h3.ts y hy t ht1
      rw [T1.2.1, T1.2.2.1, T1.2.2.2] at x
      obtain ⟨L, hL⟩ : ∃ L, (s.hl y).map (blk s.qb) = L := ⟨_, rfl⟩
      rw [hL] at x
      have eb : blk s.qb i = b := by simp [blk, HB.out]
      have hbL : b ∈ L := by rw [← hL, ← eb]; exact List.mem_map.2 ⟨i, HIL.out, rfl⟩
      obtain ⟨n, hn⟩ : ∃ n, L.length = n := ⟨_, rfl⟩
      obtain ⟨g, cap, cur, rfl, hg, hcap, hcm, hsz, hcur⟩ : ∃ g cap cur, hv = .slice (some ⟨g, 0, none⟩) n cap ∧ w3.heap[g]? = some (.cells cur 64 (0, 0)) ∧ n ≤ cap ∧ cap ≤ maxLen ∧ cur.size = cap ∧ cur.toList.take n = L.map qp := by
        rcases x.hrow.2 with ⟨_, h0⟩ | ⟨g, cap, cur, rfl, _, h2, h3, h4, h5, h6⟩
        · rw [List.length_eq_zero_iff.1 h0] at hbL; cases hbL
        · rw [hn] at h3 h6 ⊢
          exact ⟨g, cap, cur, rfl, h2, h3, h4, by omega, by rw [Nat.mul_one] at h6; exact h6⟩
      have hLq : ∀ j ∈ s.hl y, ∃ b, s.qb j = some b := fun j hj => by
        have hj3 := (INV.out.hnd y hy).2 j hj
        cases hc : s.qb j with
        | none => have h1 := (INV.out.hold j hj3 y hy).2 hj; rw [(INV.out.qn j hj3 hc).1] at h1; cases h1
        | some b => exact ⟨b, rfl⟩
      have hbl : ∀ c ∈ L, ∃ cs, w3.heap[c]? = some (.cells cs 88 (0, 0)) := by
        intro c hc
        rw [← hL, List.mem_map] at hc
        obtain ⟨j, hj, rfl⟩ := hc
        obtain ⟨b', hb'⟩ := hLq j hj
        obtain ⟨_, _, q'⟩ := h3.qs j ((INV.out.hnd y hy).2 j hj) b' (by rw [T1.2.2.2]; exact hb')
        have : blk s.qb j = b' := by simp [blk, hb']
        rw [this]
        exact ⟨_, q'.blk⟩
      have t0 := x.c.1
      have tl := heap_lt x.blk
      have IDX : Aside (Calls Ybad.prog 20 #[.slice (some ⟨g, 0, none⟩) n cap, .pointer (some ⟨b, 0, none⟩)] w3 fun e w' => ∃ k' : Nat, e = .returned (.int .i64 k') ∧ L[k']? = some b ∧ w' = w3) := idxPtr x.hrow b hbL hbl
      have DEL : Aside (∀ k', k' < n → Calls Ybad.prog 21 #[.slice (some ⟨g, 0, none⟩) n cap, .int .i64 (k' : Int), .int .i64 ((k' : Int) + 1)] w3 fun e w' => e = .returned (.slice (some ⟨g, 0, none⟩) (n - 1) cap) ∧ ∃ cur', w'.heap[g]? = some (.cells cur' 64 (0, 0)) ∧ cur'.size = cur.size ∧ cur'.toList.take (n - 1) = (L.eraseIdx k').map qp ∧ Only w3 w' g) := fun k' hk' => delPtr hg hn hk' hcap hsz hcur
      have HH3 : Aside (Rep ow3 w3 M qm tm s1) := h3
      have FF3 : Aside (FrX ow w1 ow3 w3 M qm tm s s1) := FrX.trans (FrX.of FF2.out (by simp) (fun _ _ hn => hn)) f3
      have XX : Aside (Tx ow3 w3 t L ((s.wl y).toList.map (blk s.qb)) (.slice (some ⟨g, 0, none⟩) n cap) wv) := x
      have TT1 : Aside (s1.tb = s.tb ∧ s1.hl = s.hl ∧ s1.wl = s.wl ∧ s1.qb = s.qb) := T1
      have HL : Aside ((s.hl y).map (blk s.qb) = L) := hL
      have HN : Aside (L.length = n) := hn
      have SZ : Aside (cur.size = cap) := hsz
      have S1 : Aside (s1 = s.setQ i ((s.gr i).eraseIdx k) (s.wt i) (s.lo - if (s.gr i).length = 1 then 1 else 0) s.wa) := hs1
      have HK : Aside ((s.gr i)[k]? = some r ∧ r.y = y) := ⟨hk, hry⟩
      have hn4 : n ≤ 4 := by rw [← hn, ← hL, List.length_map]; have := INV.out.hl3 hy; omega
      have EB : Aside (blk s.qb i = b) := eb
      clear REM f3 h3 hs1 T1 ht1 x hL hbL hn hg hcm hsz hcur hLq hbl FF2 hk hry dM d3 eb
      go_wp2_with fail
      refine IDX.out.mono ?_
      rintro e w4 ⟨k', rfl, hk', rfl⟩
      have hkn : k' < n := by rw [← HN.out]; exact (List.getElem?_eq_some_iff.1 hk').1
      have HK' := hide hk'
      clear hk' IDX
      have D := hide (DEL.out k' hkn)
      clear DEL
      go_wp2_with fail
      refine D.out.mono ?_
      rintro e w5 ⟨rfl, cur', q1, q2, q3, q4⟩
      obtain ⟨⟨z0, zf, zl⟩, F5, x5⟩ := tx_del (k := k') XX.out HH3.out.fresh HN.out hkn q1 (q2.trans SZ.out) q3 q4
      obtain ⟨W5, hW5⟩ : ∃ W5, W5 = w5.setCell ⟨t, 0, none⟩ (.slice (some ⟨g, 0, none⟩) (n - 1) cap) := ⟨_, rfl⟩
      rw [← hW5] at F5 x5
      have ei : (s.hl y)[k']? = some i := by
        have h1 := HK'.out
        rw [← HL.out, List.getElem?_map] at h1
        cases hc : (s.hl y)[k']? with
        | none => rw [hc] at h1; cases h1
        | some j =>
          rw [hc] at h1
          simp at h1
          have hjm := List.mem_of_getElem? hc
          have hj3 := (INV.out.hnd y hy).2 j hjm
          cases hq : s.qb j with
          | none =>
            have h2 := (INV.out.hold j hj3 y hy).2 hjm
            rw [(INV.out.qn j hj3 hq).1] at h2; cases h2
          | some b' =>
            have : b' = b := by simpa [blk, hq] using h1
            subst this
            rw [REP.out.qinj j i b' hj3 hi hq HB.out]
      have eer : (s.hl y).eraseIdx k' = (s.hl y).erase i := erase_at (INV.out.hnd y hy).1 ei
      have h5 := HH3.out.updT hy (by rw [TT1.out.1]; exact HT.out) F5 (hl' := (s.hl y).erase i) (wl' := s.wl y) (hv' := .slice (some ⟨g, 0, none⟩) (n - 1) cap) (wv' := wv) (by
        rw [TT1.out.2.2.2, ← eer, ChangeMaps.map_eraseIdx, HL.out]
        exact x5)
      obtain ⟨s2, hs2⟩ : ∃ s2, s2 = s1.setT y ((s.hl y).erase i) (s.wl y) := ⟨_, rfl⟩
      have h5' : Rep ow3 W5 M qm tm s2 := by rw [hs2]; exact h5
      have ht2 : s2.tb y = some t := by rw [hs2]; show s1.tb y = some t; rw [TT1.out.1]; exact HT.out
      have I2 : Inv (fun j => j = i) NoE s2 := by
        have := inv_remove INV.out hi HK.out.1 HK.out.2 HWL.out
        rw [hs2, S1.out]
        exact this.weaken (fun j e => e.resolve_left (fun e => e))
      have FX5 : FrX ow w1 ow3 W5 M qm tm s s2 := by
        rw [hs2]
        refine FrX.trans FF3.out (FrX.of F5 ?_ (fun _ _ hn => hn))
        intro z hz
        simp at hz
        subst hz
        exact .inl (mem_dom.2 (.inr (.inr (.inr (.inr (.inl ⟨y, hy, by rw [TT1.out.1]; exact HT.out⟩))))))
      have hb2 : s2.qb i = some b := by rw [hs2]; show s1.qb i = some b; rw [TT1.out.2.2.2]; exact HB.out
      have FGT : Aside (Calls Ybad.prog 22 #[.pointer (some ⟨M, 0, none⟩), .int .i64 (y : Int), .pointer (some ⟨t, 0, none⟩)] W5 fun e w' => e = .returned (.tuple #[]) ∧ Fgt ow3 W5 M qm tm s2 y w') := forgetIfIdle h5' hy ht2
      have II2 : Aside (Inv (fun j => j = i) NoE s2) := I2
      have FFX5 : Aside (FrX ow w1 ow3 W5 M qm tm s s2) := FX5
      have HB2 : Aside (s2.qb i = some b) := hb2
      clear h5 h5' ht2 I2 FX5 hb2 ei eer F5 x5 q1 q2 q3 q4 XX HH3 FF3 hs2 D
      go_wp2_with fail
      rw [← hW5]
      clear hW5 z0 zf zl
      refine FGT.out.mono ?_
      rintro e w6 ⟨rfl, ow6, tb', st', f6, h6, htb⟩
      have I6 : Inv (fun j => j = i) NoE { s2 with tb := tb', st := st' } := by
        refine II2.out.frame rfl rfl rfl rfl rfl rfl II2.out.emp II2.out.qn (fun z hz hX e => ?_)
        rcases htb with rfl | ⟨rfl, e1, e2⟩
        · exact II2.out.tn z hz hX e
        · by_cases ez : z = y
          · subst ez; exact ⟨e1, e2⟩
          · simp only [upd_ne _ _ ez] at e
            exact II2.out.tn z hz hX e
      have fA : Fr ow6 w6 ow6 (w6.alloc (.cells #[.pointer (some ⟨b, 0, none⟩)] 64)) [] := (Fr.refl h6.fresh []).alloc _
      have h7 := h6.still fA
      have GWC : Aside (Calls Ybad.prog 23 #[.pointer (some ⟨M, 0, none⟩), .slice (some ⟨w6.heap.size, 0, none⟩) 1 1] (w6.alloc (.cells #[.pointer (some ⟨b, 0, none⟩)] 64)) fun e w' => ∃ v', e = .returned v' ∧ Nxt ow w1 M qm tm s w') := by
        refine (grantWaiting (js := [i]) (T := 64) h7 I6 (fun j hj => ?_) (by simp) ?_ (fun g e => ?_)).mono ?_
        · simp at hj
          subst hj
          exact ⟨hi, rfl, b, HB2.out⟩
        · refine ⟨by simp, .inr ⟨w6.heap.size, 1, #[.pointer (some ⟨b, 0, none⟩)], rfl, Nat.zero_le _, heap_new w6 _, Nat.le_refl _, by simp only [maxLen]; omega, rfl, ?_⟩⟩
          have : blk s2.qb i = b := by simp [blk, HB2.out]
          simp [this, qp]
        · simp [Value.ownBlock] at e
          subst e
          exact .inl (h6.fresh _ (Nat.le_refl _))
        · rintro e w' ⟨v', rfl, ow', s', gs, f, r, I', _⟩
          refine ⟨v', rfl, s', ⟨ow', FrX.trans (FrX.trans FFX5.out f6) (FrX.trans (FrX.of fA (by simp) (fun _ _ hn => hn)) f), r⟩, I'.weaken (fun j e => ?_)⟩
          exact absurd (by simp [e.1]) e.2
      clear f6 h6 htb I6 fA h7 FGT
      go_wp2_with fail
      refine GWC.out.mono ?_
      rintro e w7 ⟨v', rfl, hE⟩
      have E := hide hE
      clear hE
      go_wp2
      go_ret2
      exact ⟨_, _, rfl, E.out⟩

end

end Go.Proofs.YbulkbcpiDoor.rel
