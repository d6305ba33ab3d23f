/-
  Seat b2686aD: a transaction's record, new where there is none.
-/
import Derived.Test.YbulkbcpiDoorRNewq
namespace Go.Proofs.YbulkbcpiDoor.rel
open Go.RowKit

def NewT (ow : Nat → Option Nat) (w : World) (M qm tm : Nat) (s : St) (y : Nat) (t : Nat) (w' : World) : Prop :=
  ∃ ow' st', FrX ow w ow' w' M qm tm s { s with tb := upd s.tb y (some t), st := st' } ∧ Rep ow' w' M qm tm { s with tb := upd s.tb y (some t), st := st' }

section
variable {ow : Nat → Option Nat} {w : World} {M qm tm : Nat} {s : St}

theorem newt_end (h : Rep ow w M qm tm s) {y : Nat} (hy : y < 4) (hq : s.tb y = none) (hhl : s.hl y = []) (hwl : s.wl y = none)
    {sqv stv stv' : Value} (mg : Mg w M qm tm s.lo s.wa sqv stv) {ow1 : Nat → Option Nat} {w1 w2 : World} {b : Nat} {st' : List Nat}
    (f1 : Fr ow w ow1 w1 [M, tm, b]) (mg1 : Mg w1 M qm tm s.lo s.wa sqv stv') (row1 : w1.ownsRow 0 62 1 stv' st'.length (st'.map qp)) (own1 : ∀ g, stv'.ownBlock = some g → ow1 g = some tm)
    (hb : (b ∈ s.st ∧ b ∉ st') ∨ w.heap.size ≤ b) (hsub : ∀ c ∈ st', c ∈ s.st) (hnd : st'.Nodup) (hlen : st'.length ≤ 256) {hv wv : Value} (q1 : Tx ow1 w1 b [] [] hv wv)
    (pt2 : PM w2 3 tlit 4 tm (upd s.tb y (some b))) (ht : w1.mapTurned w2 tm) : NewT ow w M qm tm s y b w2 := by
  obtain ⟨l1, l2, l3, l4⟩ := h.qlt
  have oq1 : ow1 tm = some tm := by rw [f1.old tm h.pt.lt]; exact h.ot
  have oM1 : ow1 M = some M := by rw [f1.old M (heap_lt mg)]; exact h.oM
  have f2 : Fr ow1 w1 ow1 w2 [tm] := Fr.turned f1.fresh0 ht oq1
  have f := (f1.trans f2).mono (T := [M, tm, b]) (by simp)
  have hMb : b ≠ M := by
    rintro rfl
    have := q1.blk.symm.trans mg1
    simp at this
  have hbq : b ≠ tm := by
    rintro rfl
    obtain ⟨es, c, es', c', hh, _⟩ := ht
    rw [q1.blk] at hh
    cases hh
  have hqM : tm ≠ M := Ne.symm (h.pt.blkne mg)
  have hbtm : b ≠ qm := by
    rcases hb with hb | hb
    · obtain ⟨_, _, q0⟩ := h.sts b hb.1
      exact h.pq.blkne q0.blk
    · have := h.pq.lt
      omega
  have mg2 : Mg w2 M qm tm s.lo s.wa sqv stv' := mg1.fr f2 oM1 (by simp [Ne.symm hqM])
  have q2 := q1.fr f2 (by simp [hbq])
  have hrow2 : w2.ownsRow 0 62 1 stv' st'.length (st'.map qp) := by
    refine ownsRow_same row1 (fun g hg => ?_)
    have hgq : g ≠ tm := by
      rintro rfl
      obtain ⟨es, c, es', c', hh, _⟩ := ht
      rcases row1.2 with ⟨rfl, _⟩ | ⟨g', cap', cur, rfl, _, h2, _⟩
      · cases hg
      · simp [Value.ownBlock] at hg
        subst hg
        rw [h2] at hh
        cases hh
    exact ht.grown.block g (ownsRow_lt row1 hg) (fun e => hgq (by cases e; rfl))
  have hnew : ∀ j, j < 4 → s.tb j ≠ some b := fun j hj e => by
    rcases hb with hb | hb
    · exact h.tsp j b hj e hb.1
    · have := l2 j b hj e; omega
  have hnt : ∀ i, i < 3 → s.qb i ≠ some b := fun i hi e => by
    rcases hb with hb | hb
    · obtain ⟨_, _, x0⟩ := h.sts b hb.1
      obtain ⟨_, _, q0⟩ := h.qs i hi b e
      exact q0.ne_tx x0 rfl
    · have := l1 i b hi e; omega
  have hns : b ∉ s.sq := fun e => by
    rcases hb with hb | hb
    · obtain ⟨_, _, x0⟩ := h.sts b hb.1
      obtain ⟨_, _, q0⟩ := h.sqs b e
      exact q0.ne_tx x0 rfl
    · have := l3 b e; omega
  have hbst : b ∉ st' := fun e => by
    rcases hb with hb | hb
    · exact hb.2 e
    · have := l4 b (hsub b e); omega
  refine ⟨ow1, st', FrX.of f ?_ ?_, h.reT f mg (hl' := s.hl) (wl' := s.wl) mg2 hrow2 own1 pt2 ?_ ?_ hnt hns hMb hbtm hbq ?_ hnd ?_ hlen⟩
  · intro x hx
    simp at hx
    rcases hx with rfl | rfl | rfl
    · exact .inl (mem_dom.2 (.inl rfl))
    · exact .inl (mem_dom.2 (.inr (.inr (.inl rfl))))
    · rcases hb with hb | hb
      · exact .inl (mem_dom.2 (.inr (.inr (.inr (.inr (.inr (.inr hb.1)))))))
      · exact .inr hb
  · intro x hx hn hm
    refine hn (mem_dom.2 ?_)
    rcases mem_dom.1 hm with e | e | e | ⟨j, hj, e⟩ | ⟨y', hy', e⟩ | e | e
    · exact .inl e
    · exact .inr (.inl e)
    · exact .inr (.inr (.inl e))
    · exact .inr (.inr (.inr (.inl ⟨j, hj, e⟩)))
    · by_cases ej : y' = y
      · subst ej
        simp only [upd_same] at e
        cases e
        rcases hb with hb | hb
        · exact .inr (.inr (.inr (.inr (.inr (.inr hb.1)))))
        · omega
      · simp only [upd_ne _ _ ej] at e
        exact .inr (.inr (.inr (.inr (.inl ⟨y', hy', e⟩))))
    · exact .inr (.inr (.inr (.inr (.inr (.inl e)))))
    · exact .inr (.inr (.inr (.inr (.inr (.inr (hsub x e))))))
  · intro j hj c hc
    by_cases e : j = y
    · subst e
      rw [upd_same] at hc
      cases hc
      exact .inl ⟨rfl, hv, wv, by rw [hhl, hwl]; exact q2⟩
    · rw [upd_ne _ _ e] at hc
      exact .inr ⟨fun e2 => hnew j hj (by rw [← e2]; exact hc), hc, rfl, rfl⟩
  · intro c hc
    exact .inr ⟨fun e2 => hbst (by rw [← e2]; exact hc), hsub c hc⟩
  · intro j1 j2 c h1 h2 e1 e2
    by_cases a1 : j1 = y
    · by_cases a2 : j2 = y
      · rw [a1, a2]
      · subst a1
        rw [upd_same] at e1
        rw [upd_ne _ _ a2] at e2
        cases e1
        exact absurd e2 (hnew j2 h2)
    · rw [upd_ne _ _ a1] at e1
      by_cases a2 : j2 = y
      · subst a2
        rw [upd_same] at e2
        cases e2
        exact absurd e1 (hnew j1 h1)
      · rw [upd_ne _ _ a2] at e2
        exact h.tinj j1 j2 c h1 h2 e1 e2
  · intro j c hj hc
    by_cases e : j = y
    · subst e
      rw [upd_same] at hc
      cases hc
      exact hbst
    · rw [upd_ne _ _ e] at hc
      exact fun hm => h.tsp j c hj hc (hsub c hm)

theorem record_some (t : Nat) (y : Int) (w : World) (mv : Value) : Calls Ybad.prog 41 #[mv, .pointer (some ⟨t, 0, none⟩), .int .i64 y] w fun e w' => e = .returned (.pointer (some ⟨t, 0, none⟩)) ∧ w' = w := by
  go_enter Ybad.func41, Ybad.ntmps41
  go_wp2
  go_ret
  exact ⟨rfl, rfl⟩

set_option maxRecDepth 50000 in
set_option maxHeartbeats 4000000 in
theorem record_nil (h : Rep ow w M qm tm s) {y : Nat} (hy : y < 4) (hq : s.tb y = none) (hhl : s.hl y = []) (hwl : s.wl y = none) :
    Calls Ybad.prog 41 #[.pointer (some ⟨M, 0, none⟩), .pointer none, .int .i64 (y : Int)] w fun e w' => ∃ b, e = .returned (.pointer (some ⟨b, 0, none⟩)) ∧ NewT ow w M qm tm s y b w' := by
  obtain ⟨sqv, stv, mg, ⟨r1, o1⟩, ⟨r2, o2⟩⟩ := h.mg
  have hMl := heap_lt mg
  obtain ⟨m0, m1, m2, m3, m4, m5, m6, m7, m8, mz⟩ := mg.c
  rcases List.eq_nil_or_concat s.st with hst | ⟨l, b, hst⟩
  · rw [hst] at r2
    obtain ⟨ao, cap, rfl⟩ : ∃ ao cap, stv = .slice ao 0 cap := by
      rcases r2.2 with ⟨rfl, _⟩ | ⟨g, cap, cur, rfl, _⟩
      · exact ⟨_, _, rfl⟩
      · exact ⟨_, _, rfl⟩
    obtain ⟨W, hW⟩ : ∃ W, W = w.alloc (.cells zt 73) := ⟨_, rfl⟩
    have F0 : Fr ow w ow W [] := by rw [hW]; exact (Fr.refl h.fresh []).alloc _
    obtain ⟨w2, hput, pt2, hturn⟩ := (h.pt.fr F0 h.ot (by simp)).put keyedI Ybad.underlying55 hy (keyT hy) (by simp only [maxLen]; omega) tlit_inj w.heap.size
    have HR : Aside ((Instr.mapUpdate 55 (.map (some tm)) (.int .i64 (y : Int)) (.pointer (some ⟨w.heap.size, 0, none⟩))).run Ybad.prog W = .ok () w2) := hput
    have END : Aside (NewT ow w M qm tm s y w.heap.size w2) := by
      have F1 : Fr ow w (fun k => if k = w.heap.size then some w.heap.size else ow k) W [M, tm, w.heap.size] := (F0.relabel (Nat.le_refl _) (by rw [hW]; simp) (some w.heap.size)).mono (by simp)
      refine newt_end h hy hq hhl hwl mg F1 (mg.fr F0 h.oM (by simp)) (st' := []) ?_ ?_ (.inr (Nat.le_refl _)) (by simp) List.nodup_nil (by simp) (hv := .slice none 0 0) (wv := .slice none 0 0) ?_ pt2 hturn
      · exact ownsRow_same r2 (fun g hg => F0.keep g (ownsRow_lt r2 hg) (fun _ _ hm => by simp at hm))
      · intro g hg
        have := ownsRow_lt r2 hg
        simp only [if_neg (show ¬ g = w.heap.size by omega)]
        exact o2 g hg
      · refine tx_new ?_ (by simp)
        rw [hW]
        exact heap_new w _
    have c1 : W.cell? ⟨M, 1, none⟩ = some (.map (some tm)) := (mg.fr F0 h.oM (by simp)).c.2.1
    have T1 : Aside (W = w.alloc (.cells zt 73)) := hW
    clear h mg r1 r2 o1 o2 pt2 hturn hput F0 m0 m1 m2 m3 m4 m5 m6 m7 mz hW
    go_enter Ybad.func41, Ybad.ntmps41
    go_wp2_with fail
    refine (takeSpareT_nil m8).mono ?_
    rintro e w1 ⟨rfl, rfl⟩
    rw [← T1.out]
    go_wp2_with (refine wpList_mapUpdate_run _ rfl (.tmp 17) (.tmp 18) (.tmp 19) 55 rfl _ _ _ rfl rfl rfl w2 HR.out ?_)
    go_ret
    exact ⟨_, rfl, END.out⟩
  · obtain ⟨n, hn⟩ : ∃ n, l.length = n := ⟨_, rfl⟩
    have hst' : s.st = l ++ [b] := by rw [hst]; simp
    have hlen : s.st.length = n + 1 := by rw [hst', List.length_append, hn]; rfl
    rw [hlen] at r2
    obtain ⟨g, cap, cur, rfl, hg, hcap, hcm, hsz, hcur⟩ : ∃ g cap cur, stv = .slice (some ⟨g, 0, none⟩) (n + 1) cap ∧ w.heap[g]? = some (.cells cur 62 (0, 0)) ∧ n + 1 ≤ cap ∧ cap ≤ maxLen ∧ cur.size = cap * 1 ∧ cur.toList.take ((n + 1) * 1) = s.st.map qp := by
      rcases r2.2 with ⟨_, h0⟩ | ⟨g, cap, cur, rfl, _, h2, h3, h4, h5, h6⟩
      · omega
      · exact ⟨g, cap, cur, rfl, h2, h3, h4, h5, h6⟩
    have hbm : b ∈ s.st := by rw [hst']; simp
    obtain ⟨hv, wv, qb⟩ := h.sts b hbm
    have hgl := heap_lt hg
    have hbl := heap_lt qb.blk
    have hMg : M ≠ g := by
      rintro rfl
      have := hg.symm.trans mg
      simp at this
    have hbg : b ≠ g := by
      rintro rfl
      have := hg.symm.trans qb.blk
      simp at this
    have hbM : b ≠ M := qb.ne_mg mg
    have hgq := o2 g rfl
    have hx : w.cell? ⟨g, n, none⟩ = some (.pointer (some ⟨b, 0, none⟩)) := by
      rw [cell_of_row _ _ _ _ _ _ hg]
      have : (s.st.map qp)[n]? = some (qp b) := by rw [hst', List.map_append, List.getElem?_append_right (by rw [List.length_map, hn]; exact Nat.le_refl _), List.length_map, hn, Nat.sub_self]; rfl
      rw [← hcur, List.getElem?_take, if_pos (by omega), Array.getElem?_toList] at this
      exact this
    have hgz : w.frozen? ⟨g, n, none⟩ = false := frozen_of_row _ _ _ _ _ hg
    have hn300 : n < 300 := by have := h.stl; omega
    obtain ⟨W1, hW1⟩ : ∃ W1, W1 = (w.setCell ⟨g, n, none⟩ (.pointer none)).setCell ⟨M, 8, none⟩ (.slice (some ⟨g, 0, none⟩) n cap) := ⟨_, rfl⟩
    have F1 : Fr ow w ow W1 [M, tm, b] := by rw [hW1]; exact ((Fr.refl h.fresh [M, tm, b]).setCell (.inr ⟨tm, hgq, by simp⟩) _ _).setCell (.inr ⟨M, h.oM, by simp⟩) _ _
    have hM1 : Mg W1 M qm tm s.lo s.wa sqv (.slice (some ⟨g, 0, none⟩) n cap) := by
      unfold Mg at mg ⊢
      rw [hW1, hset_same ((hset_other w ⟨g, n, none⟩ (.pointer none) (k := M) (Ne.symm hMg)).trans mg)]
      simp
    have hg1 : W1.heap[g]? = some (.cells (cur.setIfInBounds n (.pointer none)) 62 (0, 0)) := by rw [hW1, hset_other _ _ _ hMg, hset_same hg]
    have hqm1 : W1.heap[tm]? = w.heap[tm]? := by
      have e1 : M ≠ tm := h.pt.blkne mg
      have e2 : g ≠ tm := h.pt.blkne hg
      rw [hW1, hset_other _ _ _ e1, hset_other _ _ _ e2]
    have hrow1 : W1.ownsRow 0 62 1 (.slice (some ⟨g, 0, none⟩) n cap) l.length (l.map qp) := by
      refine ⟨by simp, .inr ⟨g, cap, _, by rw [hn], Nat.zero_le _, hg1, by omega, hcm, by simpa using hsz, ?_⟩⟩
      rw [hn, Nat.mul_one, Array.toList_setIfInBounds, List.take_set_of_le (Nat.le_refl _)]
      have := congrArg (List.take n) hcur
      rw [List.take_take, hst', List.map_append, List.take_left' (by rw [List.length_map, hn]), Nat.min_eq_left (by omega)] at this
      exact this
    have hqW : Tx ow W1 b [] [] hv wv := by
      have hk : ∀ k, ow k = some b → W1.heap[k]? = w.heap[k]? := fun k e => by
        have h1 : k ≠ g := fun e2 => by rw [e2, hgq] at e; injection e with e; exact h.pt.blkne qb.blk e.symm
        have h2 : k ≠ M := fun e2 => by rw [e2, h.oM] at e; injection e with e; exact hbM e.symm
        rw [hW1, hset_other _ _ _ (Ne.symm h2), hset_other _ _ _ (Ne.symm h1)]
      exact ⟨by rw [hk b qb.own]; exact qb.blk, qb.own, ownsRow_same qb.hrow (fun k e => hk k (qb.hown k e)), qb.hown, ownsRow_same qb.wrow (fun k e => hk k (qb.wown k e)), qb.wown, qb.ne⟩
    obtain ⟨w2, hput, pt2, hturn⟩ := (h.pt.same (w' := W1) hqm1).put keyedI Ybad.underlying55 hy (keyT hy) (by simp only [maxLen]; omega) tlit_inj b
    have HR : Aside ((Instr.mapUpdate 55 (.map (some tm)) (.int .i64 (y : Int)) (.pointer (some ⟨b, 0, none⟩))).run Ybad.prog W1 = .ok () w2) := hput
    have END : Aside (NewT ow w M qm tm s y b w2) := by
      have hnd := h.stn
      rw [hst', List.nodup_append] at hnd
      exact newt_end h hy hq hhl hwl mg F1 (st' := l) (stv' := .slice (some ⟨g, 0, none⟩) n cap) hM1 hrow1 (fun k e => by simp [Value.ownBlock] at e; subst e; exact hgq) (.inl ⟨hbm, fun hm => hnd.2.2 b hm b (by simp) rfl⟩) (fun c hc => by rw [hst']; simp [hc]) hnd.1 (by have := h.stl; omega) hqW pt2 hturn
    have c1 : W1.cell? ⟨M, 1, none⟩ = some (.map (some tm)) := hM1.c.2.1
    have T1 : Aside (W1 = (w.setCell ⟨g, n, none⟩ (.pointer none)).setCell ⟨M, 8, none⟩ (.slice (some ⟨g, 0, none⟩) n cap)) := hW1
    have mz8 := mz 8
    clear h mg r1 r2 o1 o2 pt2 hturn hput F1 m0 m1 m2 m3 m4 m5 m6 m7 mz hg hcur hcm hsz hW1 hrow1 hg1 hqm1 hM1 hqW qb hst hst' hlen
    go_enter Ybad.func41, Ybad.ntmps41
    go_wp2_with fail
    refine (takeSpareT_cons m8 hx mz8 hgz hMg hn300 hcap).mono ?_
    rintro e w1 ⟨rfl, rfl⟩
    rw [← T1.out]
    go_wp2_with (refine wpList_mapUpdate_run _ rfl (.tmp 17) (.tmp 18) (.tmp 19) 55 rfl _ _ _ rfl rfl rfl w2 HR.out ?_)
    go_ret
    exact ⟨_, rfl, END.out⟩

end

end Go.Proofs.YbulkbcpiDoor.rel
