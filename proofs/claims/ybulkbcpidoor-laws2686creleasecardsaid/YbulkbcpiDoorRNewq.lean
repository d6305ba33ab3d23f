/-
  Seat b2686aD: a new queue.
-/
import Derived.Test.YbulkbcpiDoorRSpare
namespace Go.Proofs.YbulkbcpiDoor.rel
open Go.RowKit

theorem Fr.relabel {ow ow1 : Nat → Option Nat} {w w1 : World} {S : List Nat} (h : Fr ow w ow1 w1 S) {b : Nat} (hb : w.heap.size ≤ b) (hb2 : b < w1.heap.size) (x : Option Nat) : Fr ow w (fun k => if k = b then x else ow1 k) w1 S :=
  ⟨h.os, h.tape, h.output, h.size, fun k hk => by simp only [if_neg (show ¬ k = b by omega)]; exact h.old k hk, fun k hk => by simp only [if_neg (show ¬ k = b by omega)]; exact h.fresh k hk, h.keep⟩

def NewQ (ow : Nat → Option Nat) (w : World) (M qm tm : Nat) (s : St) (i : Nat) (b : Nat) (w' : World) : Prop :=
  ∃ ow' sq', FrX ow w ow' w' M qm tm s { s with qb := upd s.qb i (some b), sq := sq' } ∧ Rep ow' w' M qm tm { s with qb := upd s.qb i (some b), sq := sq' }

theorem upd_same (f : Nat → Option Nat) (i : Nat) (x : Option Nat) : upd f i x i = x := by simp [upd]
theorem upd_ne (f : Nat → Option Nat) {i j : Nat} (x : Option Nat) (h : j ≠ i) : upd f i x j = f j := by simp [upd, h]

theorem blk_upd {f : Nat → Option Nat} {i : Nat} {x : Option Nat} {l : List Nat} (h : i ∉ l) : l.map (blk (upd f i x)) = l.map (blk f) := by
  apply List.map_congr_left
  intro j hj
  have : j ≠ i := fun e => h (e ▸ hj)
  simp [blk, upd, this]

theorem Rep.qlt {ow : Nat → Option Nat} {w : World} {M qm tm : Nat} {s : St} (h : Rep ow w M qm tm s) : (∀ i b, i < 3 → s.qb i = some b → b < w.heap.size) ∧ (∀ y b, y < 4 → s.tb y = some b → b < w.heap.size) ∧ (∀ b ∈ s.sq, b < w.heap.size) ∧ (∀ b ∈ s.st, b < w.heap.size) := by
  refine ⟨fun i b hi hb => ?_, fun y b hy hb => ?_, fun b hb => ?_, fun b hb => ?_⟩
  · obtain ⟨_, _, q⟩ := h.qs i hi b hb; exact heap_lt q.blk
  · obtain ⟨_, _, q⟩ := h.ts y hy b hb; exact heap_lt q.blk
  · obtain ⟨_, _, q⟩ := h.sqs b hb; exact heap_lt q.blk
  · obtain ⟨_, _, q⟩ := h.sts b hb; exact heap_lt q.blk

theorem qu_new {ow : Nat → Option Nat} {w : World} {b : Nat} {nm : ByteArray} {tp : Value} (h : w.heap[b]? = some (.cells #[.string nm, .slice none 0 0, .slice none 0 0, .int .i64 0, .int .i64 0, .int .i64 0, .int .i64 0, tp] 88 (0, 0))) (ho : ow b = some b) : Qu ow w b nm [] [] tp (.slice none 0 0) (.slice none 0 0) :=
  ⟨h, ho, ⟨rfl, .inl ⟨rfl, rfl⟩⟩, (fun g e => by cases e), .inl ⟨rfl, rfl⟩, (fun g e => by cases e), (fun g e => by cases e)⟩

theorem tx_new {ow : Nat → Option Nat} {w : World} {b : Nat} (h : w.heap[b]? = some (.cells zt 73 (0, 0))) (ho : ow b = some b) : Tx ow w b [] [] (.slice none 0 0) (.slice none 0 0) :=
  ⟨h, ho, ⟨rfl, .inl ⟨rfl, rfl⟩⟩, (fun g e => by cases e), ⟨rfl, .inl ⟨rfl, rfl⟩⟩, (fun g e => by cases e), (fun g e => by cases e)⟩

section
variable {ow : Nat → Option Nat} {w : World} {M qm tm : Nat} {s : St}

/-- The last step, for a new block and for a spare one. -/
theorem newq_end (h : Rep ow w M qm tm s) {i : Nat} (hi : i < 3) (hq : s.qb i = none) (hgr : s.gr i = []) (hwt : s.wt i = []) (hfree : ∀ y, y < 4 → ∀ t, s.tb y = some t → i ∉ s.hl y ∧ s.wl y ≠ some i)
    {sqv sqv' stv : Value} (mg : Mg w M qm tm s.lo s.wa sqv stv) {ow1 : Nat → Option Nat} {w1 w2 : World} {b : Nat} {sq' : List Nat}
    (f1 : Fr ow w ow1 w1 [M, qm, b]) (mg1 : Mg w1 M qm tm s.lo s.wa sqv' stv) (row1 : w1.ownsRow 0 64 1 sqv' sq'.length (sq'.map qp)) (own1 : ∀ g, sqv'.ownBlock = some g → ow1 g = some qm)
    (hb : (b ∈ s.sq ∧ b ∉ sq') ∨ w.heap.size ≤ b) (hsub : ∀ c ∈ sq', c ∈ s.sq) (hnd : sq'.Nodup) (hlen : sq'.length ≤ 256) {gv wv : Value} (q1 : Qu ow1 w1 b (name i) [] [] (tal M) gv wv)
    (pq2 : PM w2 9 qlit 3 qm (upd s.qb i (some b))) (ht : w1.mapTurned w2 qm) : NewQ ow w M qm tm s i b w2 := by
  obtain ⟨l1, l2, l3, l4⟩ := h.qlt
  have oq1 : ow1 qm = some qm := by rw [f1.old qm h.pq.lt]; exact h.oq
  have oM1 : ow1 M = some M := by rw [f1.old M (heap_lt mg)]; exact h.oM
  have f2 : Fr ow1 w1 ow1 w2 [qm] := Fr.turned f1.fresh0 ht oq1
  have f := (f1.trans f2).mono (T := [M, qm, b]) (by simp)
  have hMb : b ≠ M := by
    rintro rfl
    have := q1.blk.symm.trans mg1
    simp at this
  have hbq : b ≠ qm := by
    rintro rfl
    obtain ⟨es, c, es', c', hh, _⟩ := ht
    rw [q1.blk] at hh
    cases hh
  have hqM : qm ≠ M := Ne.symm (h.pq.blkne mg)
  have hbtm : b ≠ tm := by
    rcases hb with hb | hb
    · obtain ⟨_, _, q0⟩ := h.sqs b hb.1
      exact h.pt.blkne q0.blk
    · have := h.pt.lt
      omega
  have mg2 : Mg w2 M qm tm s.lo s.wa sqv' stv := mg1.fr f2 oM1 (by simp [Ne.symm hqM])
  have q2 := q1.fr f2 (by simp [hbq])
  have hrow2 : w2.ownsRow 0 64 1 sqv' sq'.length (sq'.map qp) := by
    refine ownsRow_same row1 (fun g hg => ?_)
    have hgq : g ≠ qm := by
      rintro rfl
      obtain ⟨es, c, es', c', hh, _⟩ := ht
      rcases row1.2 with ⟨rfl, _⟩ | ⟨g', cap', cur, rfl, _, h2, _⟩
      · cases hg
      · simp [Value.ownBlock] at hg
        subst hg
        rw [h2] at hh
        cases hh
    exact ht.grown.block g (ownsRow_lt row1 hg) (fun e => hgq (by cases e; rfl))
  have hnew : ∀ j, j < 3 → s.qb j ≠ some b := fun j hj e => by
    rcases hb with hb | hb
    · exact h.qsp j b hj e hb.1
    · have := l1 j b hj e; omega
  have hnt : ∀ y, y < 4 → s.tb y ≠ some b := fun y hy e => by
    rcases hb with hb | hb
    · obtain ⟨_, _, q0⟩ := h.sqs b hb.1
      obtain ⟨_, _, x0⟩ := h.ts y hy b e
      exact q0.ne_tx x0 rfl
    · have := l2 y b hy e; omega
  have hns : b ∉ s.st := fun e => by
    rcases hb with hb | hb
    · obtain ⟨_, _, q0⟩ := h.sqs b hb.1
      obtain ⟨_, _, x0⟩ := h.sts b e
      exact q0.ne_tx x0 rfl
    · have := l4 b e; omega
  have hbsq : b ∉ sq' := fun e => by
    rcases hb with hb | hb
    · exact hb.2 e
    · have := l3 b (hsub b e); omega
  refine ⟨ow1, sq', FrX.of f ?_ ?_, h.reQ f mg mg2 hrow2 own1 pq2 ?_ ?_ ?_ hnt hns hMb hbq hbtm ?_ hnd ?_ hlen⟩
  · intro x hx
    simp at hx
    rcases hx with rfl | rfl | rfl
    · exact .inl (mem_dom.2 (.inl rfl))
    · exact .inl (mem_dom.2 (.inr (.inl rfl)))
    · rcases hb with hb | hb
      · exact .inl (mem_dom.2 (.inr (.inr (.inr (.inr (.inr (.inl hb.1)))))))
      · exact .inr hb
  · intro x hx hn hm
    refine hn (mem_dom.2 ?_)
    rcases mem_dom.1 hm with e | e | e | ⟨j, hj, e⟩ | ⟨y, hy, e⟩ | e | e
    · exact .inl e
    · exact .inr (.inl e)
    · exact .inr (.inr (.inl e))
    · by_cases ej : j = i
      · subst ej
        simp only [upd_same] at e
        cases e
        rcases hb with hb | hb
        · exact .inr (.inr (.inr (.inr (.inr (.inl hb.1)))))
        · omega
      · simp only [upd_ne _ _ ej] at e
        exact .inr (.inr (.inr (.inl ⟨j, hj, e⟩)))
    · exact .inr (.inr (.inr (.inr (.inl ⟨y, hy, e⟩))))
    · exact .inr (.inr (.inr (.inr (.inr (.inl (hsub x e))))))
    · exact .inr (.inr (.inr (.inr (.inr (.inr e)))))
  · intro j hj c hc
    by_cases e : j = i
    · subst e
      rw [upd_same] at hc
      cases hc
      exact .inl ⟨rfl, gv, wv, by rw [hgr, hwt]; exact q2⟩
    · rw [upd_ne _ _ e] at hc
      exact .inr ⟨fun e2 => hnew j hj (by rw [← e2]; exact hc), hc⟩
  · intro c hc
    exact .inr ⟨fun e2 => hbsq (by rw [← e2]; exact hc), hsub c hc⟩
  · intro y hy t hyt
    obtain ⟨h1, h2⟩ := hfree y hy t hyt
    exact ⟨blk_upd h1, blk_upd (by cases hw : s.wl y with | none => simp | some j => rw [hw] at h2; simp; rintro rfl; exact h2 rfl)⟩
  · intro j1 j2 c h1 h2 e1 e2
    by_cases a1 : j1 = i
    · by_cases a2 : j2 = i
      · rw [a1, a2]
      · subst a1
        rw [upd_same] at e1
        rw [upd_ne _ _ a2] at e2
        cases e1
        exact absurd e2 (hnew j2 h2)
    · rw [upd_ne _ _ a1] at e1
      by_cases a2 : j2 = i
      · subst a2
        rw [upd_same] at e2
        cases e2
        exact absurd e1 (hnew j1 h1)
      · rw [upd_ne _ _ a2] at e2
        exact h.qinj j1 j2 c h1 h2 e1 e2
  · intro j c hj hc
    by_cases e : j = i
    · subst e
      rw [upd_same] at hc
      cases hc
      exact hbsq
    · rw [upd_ne _ _ e] at hc
      exact fun hm => h.qsp j c hj hc (hsub c hm)

set_option maxRecDepth 50000 in
set_option maxHeartbeats 4000000 in
theorem newQueue (h : Rep ow w M qm tm s) {i : Nat} (hi : i < 3) (hq : s.qb i = none) (hgr : s.gr i = []) (hwt : s.wt i = []) (hfree : ∀ y, y < 4 → ∀ t, s.tb y = some t → i ∉ s.hl y ∧ s.wl y ≠ some i) :
    Calls Ybad.prog 28 #[.pointer (some ⟨M, 0, none⟩), .string (name i)] w fun e w' => ∃ b, e = .returned (.pointer (some ⟨b, 0, none⟩)) ∧ NewQ ow w M qm tm s i b w' := by
  obtain ⟨sqv, stv, mg, ⟨r1, o1⟩, ⟨r2, o2⟩⟩ := h.mg
  have hMl := heap_lt mg
  obtain ⟨m0, m1, m2, m3, m4, m5, m6, m7, m8, mz⟩ := mg.c
  obtain ⟨nm, hnm⟩ : ∃ nm, name i = nm := ⟨_, rfl⟩
  rcases List.eq_nil_or_concat s.sq with hsq | ⟨l, b, hsq⟩
  · -- no spare queue
    rw [hsq] at r1
    obtain ⟨ao, cap, rfl⟩ : ∃ ao cap, sqv = .slice ao 0 cap := by
      rcases r1.2 with ⟨rfl, _⟩ | ⟨g, cap, cur, rfl, _⟩
      · exact ⟨_, _, rfl⟩
      · exact ⟨_, _, rfl⟩
    obtain ⟨W, hW⟩ : ∃ W, W = (w.alloc (.cells #[.string nm, .slice none 0 0, .slice none 0 0, .int .i64 0, .int .i64 0, .int .i64 0, .int .i64 0, tal M] 88)).drew := ⟨_, rfl⟩
    have F0 : Fr ow w ow W [] := by rw [hW]; exact ((Fr.refl h.fresh []).alloc _).drew
    obtain ⟨w2, hput, pq2, hturn⟩ := (h.pq.fr F0 h.oq (by simp)).put keyedS Ybad.underlying54 hi (keyQ hi) (by simp only [maxLen]; omega) qlit_inj w.heap.size
    have HR : Aside ((Instr.mapUpdate 54 (.map (some qm)) (.string nm) (.pointer (some ⟨w.heap.size, 0, none⟩))).run Ybad.prog W = .ok () w2) := by rw [← hnm]; exact hput
    have END : Aside (NewQ ow w M qm tm s i w.heap.size w2) := by
      have F1 : Fr ow w (fun k => if k = w.heap.size then some w.heap.size else ow k) W [M, qm, w.heap.size] := (F0.relabel (Nat.le_refl _) (by rw [hW]; simp) (some w.heap.size)).mono (by simp)
      refine newq_end h hi hq hgr hwt hfree mg F1 (mg.fr F0 h.oM (by simp)) (sq' := []) ?_ ?_ (.inr (Nat.le_refl _)) (by simp) List.nodup_nil (by simp) (gv := .slice none 0 0) (wv := .slice none 0 0) ?_ pq2 hturn
      · exact ownsRow_same r1 (fun g hg => F0.keep g (ownsRow_lt r1 hg) (fun _ _ hm => by simp at hm))
      · intro g hg
        have := ownsRow_lt r1 hg
        simp only [if_neg (show ¬ g = w.heap.size by omega)]
        exact o1 g hg
      · refine qu_new ?_ (by simp)
        rw [hW, hnm]
        exact heap_new w _
    clear h mg r1 r2 o1 o2 pq2 hturn hput F0 hfree m1 m2 m3 m4 m5 m6 m8 mz
    subst hW
    rw [hnm]
    go_enter Ybad.func28, Ybad.ntmps28
    go_wp2_with fail
    refine (takeSpareQ_nil m7).mono ?_
    rintro e w1 ⟨rfl, rfl⟩
    unfold zq
    go_wp2
    go_region
    all_goals
      go_wp2_with (refine wpList_mapUpdate_run _ rfl (.tmp 23) (.tmp 24) (.tmp 25) 54 rfl _ _ _ rfl rfl rfl w2 HR.out ?_)
      go_ret
      exact ⟨_, rfl, END.out⟩
  · -- the last spare one
    obtain ⟨n, hn⟩ : ∃ n, l.length = n := ⟨_, rfl⟩
    have hsq' : s.sq = l ++ [b] := by rw [hsq]; simp
    have hlen : s.sq.length = n + 1 := by rw [hsq', List.length_append, hn]; rfl
    rw [hlen] at r1
    obtain ⟨g, cap, cur, rfl, hg, hcap, hcm, hsz, hcur⟩ : ∃ g cap cur, sqv = .slice (some ⟨g, 0, none⟩) (n + 1) cap ∧ w.heap[g]? = some (.cells cur 64 (0, 0)) ∧ n + 1 ≤ cap ∧ cap ≤ maxLen ∧ cur.size = cap * 1 ∧ cur.toList.take ((n + 1) * 1) = s.sq.map qp := by
      rcases r1.2 with ⟨_, h0⟩ | ⟨g, cap, cur, rfl, _, h2, h3, h4, h5, h6⟩
      · omega
      · exact ⟨g, cap, cur, rfl, h2, h3, h4, h5, h6⟩
    have hbm : b ∈ s.sq := by rw [hsq']; simp
    obtain ⟨gv, wv, qb⟩ := h.sqs b hbm
    have hgl := heap_lt hg
    have hbl := heap_lt qb.blk
    have hMg : M ≠ g := by
      rintro rfl
      have := hg.symm.trans mg
      simp at this
    have hbg : b ≠ g := by
      rintro rfl
      have := hg.symm.trans qb.blk
      simp at this
    have hbM : b ≠ M := qb.ne_mg mg
    have hgq := o1 g rfl
    have hx : w.cell? ⟨g, n, none⟩ = some (.pointer (some ⟨b, 0, none⟩)) := by
      rw [cell_of_row _ _ _ _ _ _ hg]
      have : (s.sq.map qp)[n]? = some (qp b) := by rw [hsq', List.map_append, List.getElem?_append_right (by rw [List.length_map, hn]; exact Nat.le_refl _), List.length_map, hn, Nat.sub_self]; rfl
      rw [← hcur, List.getElem?_take, if_pos (by omega), Array.getElem?_toList] at this
      exact this
    have hgz : w.frozen? ⟨g, n, none⟩ = false := frozen_of_row _ _ _ _ _ hg
    have hn300 : n < 300 := by have := h.sql; omega
    obtain ⟨W1, hW1⟩ : ∃ W1, W1 = (w.setCell ⟨g, n, none⟩ (.pointer none)).setCell ⟨M, 7, none⟩ (.slice (some ⟨g, 0, none⟩) n cap) := ⟨_, rfl⟩
    have F1 : Fr ow w ow W1 [M, qm, b] := by rw [hW1]; exact ((Fr.refl h.fresh [M, qm, b]).setCell (.inr ⟨qm, hgq, by simp⟩) _ _).setCell (.inr ⟨M, h.oM, by simp⟩) _ _
    have hb1 : W1.heap[b]? = w.heap[b]? := by rw [hW1, hset_other _ _ _ (Ne.symm hbM), hset_other _ _ _ (Ne.symm hbg)]
    have hM1 : Mg W1 M qm tm s.lo s.wa (.slice (some ⟨g, 0, none⟩) n cap) stv := by
      unfold Mg at mg ⊢
      rw [hW1, hset_same ((hset_other w ⟨g, n, none⟩ (.pointer none) (k := M) (Ne.symm hMg)).trans mg)]
      simp
    have hg1 : W1.heap[g]? = some (.cells (cur.setIfInBounds n (.pointer none)) 64 (0, 0)) := by rw [hW1, hset_other _ _ _ hMg, hset_same hg]
    have hqm1 : W1.heap[qm]? = w.heap[qm]? := by
      have e1 : M ≠ qm := h.pq.blkne mg
      have e2 : g ≠ qm := h.pq.blkne hg
      rw [hW1, hset_other _ _ _ e1, hset_other _ _ _ e2]
    have hrow1 : W1.ownsRow 0 64 1 (.slice (some ⟨g, 0, none⟩) n cap) l.length (l.map qp) := by
      refine ⟨by simp, .inr ⟨g, cap, _, by rw [hn], Nat.zero_le _, hg1, by omega, hcm, by simpa using hsz, ?_⟩⟩
      rw [hn, Nat.mul_one, Array.toList_setIfInBounds, List.take_set_of_le (Nat.le_refl _)]
      have := congrArg (List.take n) hcur
      rw [List.take_take, hsq', List.map_append, List.take_left' (by rw [List.length_map, hn]), Nat.min_eq_left (by omega)] at this
      exact this
    have hq1b := hb1.trans qb.blk
    obtain ⟨W, hW⟩ : ∃ W, W = ((W1.setCell ⟨b, 0, none⟩ (.string nm)).setCell ⟨b, 7, none⟩ (tal M)).drew := ⟨_, rfl⟩
    have FW : Fr ow w ow W [M, qm, b] := by rw [hW]; exact ((F1.setCell (.inr ⟨b, qb.own, by simp⟩) _ _).setCell (.inr ⟨b, qb.own, by simp⟩) _ _).drew
    have hWb : W.heap[b]? = some (.cells #[.string nm, gv, wv, .int .i64 (cnt 0 [] : Nat), .int .i64 (cnt 1 [] : Nat), .int .i64 (cnt 0 [] : Nat), .int .i64 (cnt 1 [] : Nat), tal M] 88 (0, 0)) := by
      rw [hW]
      show ((W1.setCell ⟨b, 0, none⟩ (.string nm)).setCell ⟨b, 7, none⟩ (tal M)).heap[b]? = _
      rw [hset_same (hset_same hq1b _ _)]
      rfl
    have hWk : ∀ k, k ≠ b → W.heap[k]? = W1.heap[k]? := fun k hk => by
      rw [hW]
      show ((W1.setCell ⟨b, 0, none⟩ (.string nm)).setCell ⟨b, 7, none⟩ (tal M)).heap[k]? = _
      rw [hset_other _ _ _ (Ne.symm hk), hset_other _ _ _ (Ne.symm hk)]
    have hqW : Qu ow W b nm [] [] (tal M) gv wv := by
      refine ⟨hWb, qb.own, ownsRow_same qb.grow (fun k e => ?_), qb.gown, qb.wrow.same (fun k e => ?_), qb.wown, qb.ne⟩
      · have h1 : k ≠ g := fun e2 => by have := qb.gown k e; rw [e2, hgq] at this; injection this with this; exact h.pq.blkne qb.blk this.symm
        have h2 : k ≠ M := fun e2 => by have := qb.gown k e; rw [e2, h.oM] at this; injection this with this; exact hbM this.symm
        rw [hWk k (Ne.symm (qb.ne_row e)), hW1, hset_other _ _ _ (Ne.symm h2), hset_other _ _ _ (Ne.symm h1)]
      · have h1 : k ≠ g := fun e2 => by have := qb.wown k e; rw [e2, hgq] at this; injection this with this; exact h.pq.blkne qb.blk this.symm
        have h2 : k ≠ M := fun e2 => by have := qb.wown k e; rw [e2, h.oM] at this; injection this with this; exact hbM this.symm
        rw [hWk k (Ne.symm (qb.ne_wrow e)), hW1, hset_other _ _ _ (Ne.symm h2), hset_other _ _ _ (Ne.symm h1)]
    have hqmb : qm ≠ b := Ne.symm (h.pq.blkne qb.blk)
    obtain ⟨w2, hput, pq2, hturn⟩ := (h.pq.same (w' := W) ((hWk qm hqmb).trans hqm1)).put keyedS Ybad.underlying54 hi (keyQ hi) (by simp only [maxLen]; omega) qlit_inj b
    have HR : Aside ((Instr.mapUpdate 54 (.map (some qm)) (.string nm) (.pointer (some ⟨b, 0, none⟩))).run Ybad.prog W = .ok () w2) := by rw [← hnm]; exact hput
    have END : Aside (NewQ ow w M qm tm s i b w2) := by
      have hnd := h.sqn
      rw [hsq', List.nodup_append] at hnd
      refine newq_end h hi hq hgr hwt hfree mg FW (sq' := l) (sqv' := .slice (some ⟨g, 0, none⟩) n cap) ?_ ?_ ?_ (.inl ⟨hbm, fun hm => hnd.2.2 b hm b (by simp) rfl⟩) (fun c hc => by rw [hsq']; simp [hc]) hnd.1 (by have := h.sql; omega) (gv := gv) (wv := wv) (by rw [hnm]; exact hqW) pq2 hturn
      · exact (hWk M (Ne.symm hbM)).trans hM1
      · exact ownsRow_same hrow1 (fun k e => by simp [Value.ownBlock] at e; subst e; exact hWk g (Ne.symm hbg))
      · intro k e; simp [Value.ownBlock] at e; subst e; exact hgq
    have b0 : W1.cell? ⟨b, 0, none⟩ = some (.string emptyB) := by rw [cell_of_row _ _ _ _ _ _ hq1b]; rfl
    have b7 : W1.cell? ⟨b, 7, none⟩ = some (.pointer none) := by rw [cell_of_row _ _ _ _ _ _ hq1b]; rfl
    have z0 : W1.frozen? ⟨b, 0, none⟩ = false := frozen_of_row _ _ _ _ _ hq1b
    have z7 : W1.frozen? ⟨b, 7, none⟩ = false := frozen_of_row _ _ _ _ _ hq1b
    have M0 : W1.cell? ⟨M, 0, none⟩ = some (.map (some qm)) := hM1.c.1
    have T1 : Aside (W1 = (w.setCell ⟨g, n, none⟩ (.pointer none)).setCell ⟨M, 7, none⟩ (.slice (some ⟨g, 0, none⟩) n cap)) := hW1
    have mz7 := mz 7
    have sb1 : b < W1.heap.size := heap_lt hq1b
    have sM1 : M < W1.heap.size := heap_lt hM1
    clear h mg r1 r2 o1 o2 pq2 hturn hput F1 FW hfree m1 m2 m3 m4 m5 m6 m8 mz hg hcur hcm hsz hW1 hrow1 hg1 hqm1 hM1 hb1 hq1b hqW hWk hWb qb hsq hsq' hlen
    subst hW
    rw [hnm]
    unfold tal at *
    go_enter Ybad.func28, Ybad.ntmps28
    go_wp2_with fail
    refine (takeSpareQ_cons m7 hx mz7 hgz hMg hn300 hcap).mono ?_
    rintro e w1 ⟨rfl, rfl⟩
    rw [← T1.out]
    go_wp2
    go_region
    all_goals
      go_wp2_with (refine wpList_mapUpdate_run _ rfl (.tmp 23) (.tmp 24) (.tmp 25) 54 rfl _ _ _ rfl rfl rfl w2 HR.out ?_)
      go_ret
      exact ⟨_, rfl, END.out⟩

end

end Go.Proofs.YbulkbcpiDoor.rel
