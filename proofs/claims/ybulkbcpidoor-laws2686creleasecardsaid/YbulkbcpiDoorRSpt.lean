/-
  Seat b2686aD: a record that the manager keeps no more is kept as a spare one.
-/
import Derived.Test.YbulkbcpiDoorRPidx
namespace Go.Proofs.YbulkbcpiDoor.rel
open Go.RowKit

def SpT (ow : Nat → Option Nat) (w : World) (M qm tm : Nat) (lo wa : Int) (sqv : Value) (st : List Nat) (t : Nat) (w' : World) : Prop :=
  ∃ ow' stv' st', Fr ow w ow' w' [M, tm, t] ∧ Mg w' M qm tm lo wa sqv stv' ∧ w'.ownsRow 0 62 1 stv' st'.length (st'.map qp) ∧ (∀ g, stv'.ownBlock = some g → ow' g = some tm) ∧ st'.length ≤ 256 ∧ w'.heap[tm]? = w.heap[tm]? ∧
    (st' = st ∨ (st' = st ++ [t] ∧ ∃ hv' wv', Tx ow' w' t [] [] hv' wv'))

/-- The emptied record is stored. -/
def setT (w : World) (t : Nat) (v v2 : Value) : World :=
  (((w.setCell ⟨t, 0, none⟩ v).setCell ⟨t, 1, none⟩ v2).setCell ⟨t, 2, none⟩ (.bool false)).setCell ⟨t, 3, none⟩ (.int .u64 0)

theorem setT_blk {w : World} {t : Nat} {v v2 : Value} {x0 x1 x2 x3 : Value} (h : w.heap[t]? = some (.cells #[x0, x1, x2, x3] 73 (0, 0))) :
    (setT w t v v2).heap[t]? = some (.cells #[v, v2, .bool false, .int .u64 0] 73 (0, 0)) := by
  unfold setT
  rw [hset_same (hset_same (hset_same (hset_same h 0 _) 1 _) 2 _) 3 _]
  simp

theorem setT_fr {ow : Nat → Option Nat} {w : World} {t : Nat} (v v2 : Value) (hf : Fresh ow w) (ho : ow t = some t) : Fr ow w ow (setT w t v v2) [t] := by
  have k : ∃ s, ow t = some s ∧ s ∈ [t] := ⟨t, ho, by simp⟩
  unfold setT
  exact ((((Fr.refl hf [t]).setCell (.inr k) _ _).setCell (.inr k) _ _).setCell (.inr k) _ _).setCell (.inr k) _ _

theorem setT_size (w : World) (t : Nat) (v v2 : Value) : (setT w t v v2).heap.size = w.heap.size := by simp [setT]
theorem setT_ne (w : World) {t k : Nat} (v v2 : Value) (h : t ≠ k) : (setT w t v v2).heap[k]? = w.heap[k]? := by
  unfold setT
  rw [hset_other _ _ _ h, hset_other _ _ _ h, hset_other _ _ _ h, hset_other _ _ _ h]

theorem Tx.ne_row {ow : Nat → Option Nat} {w : World} {b : Nat} {hd wt hv wv} (q : Tx ow w b hd wt hv wv) {g : Nat} (hg : hv.ownBlock = some g ∨ wv.ownBlock = some g) : b ≠ g := by
  rintro rfl
  have k : ∀ {v : Value} {n : Nat} {xs : List Value}, w.ownsRow 0 64 1 v n xs → v.ownBlock = some b → False := fun {v n xs} h e => by
    rcases h.2 with ⟨rfl, _⟩ | ⟨g', cap', cur, rfl, _, h2, _⟩
    · cases e
    · simp [Value.ownBlock] at e
      subst e
      have := q.blk.symm.trans h2
      simp at this
  rcases hg with hg | hg
  · exact k q.hrow hg
  · exact k q.wrow hg

/-- Both lists emptied, in either order. -/
structure Two (w : World) (hv wv h' w'' : Value) (w' : World) : Prop where
  os : w'.os = w.os
  tape : w'.tape = w.tape
  output : w'.output = w.output
  size : w'.heap.size = w.heap.size
  block : ∀ k, hv.ownBlock ≠ some k → wv.ownBlock ≠ some k → w'.heap[k]? = w.heap[k]?
  row1 : w'.ownsRow 0 64 1 h' 0 []
  row2 : w'.ownsRow 0 64 1 w'' 0 []
  same1 : h'.ownBlock = none ∨ h'.ownBlock = hv.ownBlock
  same2 : w''.ownBlock = none ∨ w''.ownBlock = wv.ownBlock

theorem two_hw {w w1 w2 : World} {hv wv h' w'' : Value} (hne : ∀ g, hv.ownBlock = some g → wv.ownBlock ≠ some g) (a : Spl w.drew 64 1 hv h' w1) (b : Spl w1 64 1 wv w'' w2) : Two w hv wv h' w'' w2 := by
  refine ⟨b.os.trans a.os, b.tape.trans a.tape, b.output.trans a.output, b.size.trans a.size, fun k h1 h2 => (b.block k h2).trans (a.block k h1), ownsRow_same a.row (fun g e => b.block g (fun e2 => ?_)), b.row, a.same, b.same⟩
  rcases a.same with h | h
  · rw [h] at e; cases e
  · rw [h] at e; exact hne g e e2

theorem two_wh {w w1 w2 : World} {hv wv h' w'' : Value} (hne : ∀ g, hv.ownBlock = some g → wv.ownBlock ≠ some g) (a : Spl w.drew 64 1 wv w'' w1) (b : Spl w1 64 1 hv h' w2) : Two w hv wv h' w'' w2 := by
  refine ⟨b.os.trans a.os, b.tape.trans a.tape, b.output.trans a.output, b.size.trans a.size, fun k h1 h2 => (b.block k h1).trans (a.block k h2), b.row, ownsRow_same a.row (fun g e => b.block g (fun e2 => ?_)), b.same, a.same⟩
  rcases a.same with h | h
  · rw [h] at e; cases e
  · rw [h] at e; exact hne g e2 e

theorem Two.fr {ow : Nat → Option Nat} {w w' : World} {hv wv h' w'' : Value} {s : Nat} (h : Two w hv wv h' w'' w') (hf : Fresh ow w) (o1 : ∀ g, hv.ownBlock = some g → ow g = some s) (o2 : ∀ g, wv.ownBlock = some g → ow g = some s) : Fr ow w ow w' [s] :=
  ⟨h.os, h.tape, h.output, by rw [h.size]; exact Nat.le_refl _, fun _ _ => rfl, fun k hk => hf k (by rw [← h.size]; exact hk), fun k _ hn => h.block k (fun e => hn s (o1 k e) (by simp)) (fun e => hn s (o2 k e) (by simp))⟩

theorem spl_tx {w0 w1 : World} {t : Nat} {x0 x1 x2 x3 : Value} {v v' : Value} (hb : w0.heap[t]? = some (.cells #[x0, x1, x2, x3] 73 (0, 0))) (hn : v.ownBlock ≠ some t) (s : Spl w0 64 1 v v' w1) :
    Aside (w1.heap[t]? = some (.cells #[x0, x1, x2, x3] 73 (0, 0))) ∧ w1.cell? ⟨t, 0, none⟩ = some x0 ∧ w1.cell? ⟨t, 1, none⟩ = some x1 ∧ w1.cell? ⟨t, 2, none⟩ = some x2 ∧ w1.cell? ⟨t, 3, none⟩ = some x3 ∧
    w1.frozen? ⟨t, 0, none⟩ = false ∧ w1.frozen? ⟨t, 1, none⟩ = false ∧ w1.frozen? ⟨t, 2, none⟩ = false ∧ w1.frozen? ⟨t, 3, none⟩ = false ∧ t < w1.heap.size := by
  have h : w1.heap[t]? = some (.cells #[x0, x1, x2, x3] 73 (0, 0)) := (s.block t hn).trans hb
  refine ⟨h, ?_, ?_, ?_, ?_, frozen_of_row _ _ _ _ _ h, frozen_of_row _ _ _ _ _ h, frozen_of_row _ _ _ _ _ h, frozen_of_row _ _ _ _ _ h, heap_lt h⟩ <;> rw [cell_of_row _ _ _ _ _ _ h] <;> rfl

def SptEnd (ow : Nat → Option Nat) (w : World) (M qm tm : Nat) (lo wa : Int) (sqv : Value) (st : List Nat) (t : Nat) (ao : Option Addr) (n cap : Nat) (v1 v2 : Value) (w2 : World) : Prop :=
  (setT w2 t v1 v2).ownsRow 0 62 1 (.slice ao n cap) n (st.map qp) ∧ ∀ (g cap2 : Nat) (w3 : World), w3.ownsRow 0 62 1 (.slice (some ⟨g, 0, none⟩) (n + 1) cap2) (n + 1) (st.map qp ++ [qp t]) → ((setT w2 t v1 v2).alloc (.cells #[.pointer (some ⟨t, 0, none⟩)] 62)).grownBy w3 (Value.slice ao n cap).ownBlock →
        ((Value.slice ao n cap).ownBlock = some g ∨ g = w2.heap.size + 1) → g < w3.heap.size → (w3.cell? ⟨M, 8, none⟩ = some (.slice ao n cap) ∧ w3.frozen? ⟨M, 8, none⟩ = false ∧ M < w3.heap.size) ∧ SpT ow w M qm tm lo wa sqv st t (w3.setCell ⟨M, 8, none⟩ (.slice (some ⟨g, 0, none⟩) (n + 1) cap2))

theorem spt_end {ow : Nat → Option Nat} {w : World} {M qm tm t : Nat} {lo wa : Int} {sqv : Value} {st : List Nat} {hd wt : List Nat} {hv wv : Value} {ao : Option Addr} {n cap : Nat} (hn : st.length = n) (mg : Mg w M qm tm lo wa sqv (.slice ao n cap)) (oM : ow M = some M) (row : w.ownsRow 0 62 1 (.slice ao n cap) st.length (st.map qp)) (own : ∀ g, (Value.slice ao n cap).ownBlock = some g → ow g = some tm)
    (hf : Fresh ow w) (x : Tx ow w t hd wt hv wv) (htt : tm ≠ t) (htM : tm ≠ M) (ot : ow tm = some tm) (htl : tm < w.heap.size) (hrt : ∀ g, (Value.slice ao n cap).ownBlock = some g → g ≠ tm) (hn256 : n < 256) {v1 v2 : Value} {w2 : World} (T : Two w hv wv v1 v2 w2) :
    SptEnd ow w M qm tm lo wa sqv st t ao n cap v1 v2 w2 ∧ w2.cell? ⟨M, 8, none⟩ = some (.slice ao n cap) ∧ w2.frozen? ⟨M, 8, none⟩ = false ∧ M < w2.heap.size := by
  have hbM := x.ne_mg mg
  have F1 := T.fr hf x.hown x.wown
  have mg1 := mg.fr F1 oM (by simp [Ne.symm hbM])
  have hb1 : w2.heap[t]? = w.heap[t]? := T.block t (fun e => x.ne_row (.inl e) rfl) (fun e => x.ne_row (.inr e) rfl)
  have F2 := setT_fr (t := t) v1 v2 F1.fresh0 x.own
  have F12 := F1.trans F2
  have mg2 := mg1.fr F2 oM (by simp [Ne.symm hbM])
  have hrow : ∀ k, (Value.slice ao n cap).ownBlock = some k → (setT w2 t v1 v2).heap[k]? = w.heap[k]? := fun k e => F12.keep k (ownsRow_lt row e) (fun x ex hm => by rw [own k e] at ex; cases ex; simp at hm; exact htt hm)
  have R2 : (setT w2 t v1 v2).ownsRow 0 62 1 (.slice ao n cap) n (st.map qp) := by rw [hn] at row; exact ownsRow_same row hrow
  refine ⟨⟨R2, fun g cap2 w3 h1 h2 h3 h4 => ?_⟩, mg1.c.2.2.2.2.2.2.2.2.1, mg1.c.2.2.2.2.2.2.2.2.2 8, heap_lt mg1⟩
  have F3 := F2.alloc (.cells #[.pointer (some ⟨t, 0, none⟩)] 62)
  have mg3 := mg1.fr F3 oM (by simp [Ne.symm hbM])
  have F4 := Fr.grown (s := tm) (g := g) F3.fresh0 h2 (fun k e => own k e) (by rcases h3 with h3 | h3; exact .inl h3; exact .inr (by rw [h3]; simp [setT_size])) h4
  have mg4 := mg3.fr F4 oM (by simp [Ne.symm htM])
  have hMlt := heap_lt mg3
  have oM4 : (if M = g then some tm else ow M) = some M := by
    have := F4.old M hMlt
    rw [this]; exact oM
  have F5 : Fr _ w3 _ (w3.setCell ⟨M, 8, none⟩ (.slice (some ⟨g, 0, none⟩) (n + 1) cap2)) [M] := (Fr.refl F4.fresh0 [M]).setCell (.inr ⟨M, oM4, by simp⟩) _ _
  have hgM : g ≠ M := by
    rintro rfl
    rw [if_pos rfl] at oM4
    injection oM4 with oM4
    exact htM oM4
  have hq2 : Tx ow (setT w2 t v1 v2) t [] [] v1 v2 := by
    refine ⟨setT_blk (hb1.trans x.blk), x.own, ?_, fun k e => ?_, ?_, fun k e => ?_, fun k e e2 => ?_⟩
    · exact ownsRow_same T.row1 (fun k e => setT_ne _ _ _ (by
        rcases T.same1 with h | h
        · rw [h] at e; cases e
        · rw [h] at e; exact x.ne_row (.inl e)))
    · rcases T.same1 with h | h
      · rw [h] at e; cases e
      · rw [h] at e; exact x.hown k e
    · exact ownsRow_same T.row2 (fun k e => setT_ne _ _ _ (by
        rcases T.same2 with h | h
        · rw [h] at e; cases e
        · rw [h] at e; exact x.ne_row (.inr e)))
    · rcases T.same2 with h | h
      · rw [h] at e; cases e
      · rw [h] at e; exact x.wown k e
    · rcases T.same1 with h | h
      · rw [h] at e; cases e
      · rcases T.same2 with h' | h'
        · rw [h'] at e2; cases e2
        · rw [h] at e; rw [h'] at e2; exact x.ne k e e2
  have q4 := ((hq2.fr ((Fr.refl F2.fresh0 []).alloc (.cells #[.pointer (some ⟨t, 0, none⟩)] 62)) (by simp)).fr F4 (by simp [Ne.symm htt])).fr F5 (by simp [hbM])
  refine ⟨⟨mg4.c.2.2.2.2.2.2.2.2.1, mg4.c.2.2.2.2.2.2.2.2.2 8, heap_lt mg4⟩, _, .slice (some ⟨g, 0, none⟩) (n + 1) cap2, st ++ [t], ((F1.trans F3).trans (F4.trans F5)).mono (by simp), ?_, ?_, ?_, by rw [List.length_append, hn]; simp; omega, ?_, .inr ⟨rfl, _, _, q4⟩⟩
  · unfold Mg at mg4 ⊢
    rw [hset_same mg4]
    simp
  · rw [List.length_append, hn, List.map_append]
    exact ownsRow_same h1 (fun k e => by simp [Value.ownBlock] at e; subst e; exact hset_other _ _ _ (Ne.symm hgM))
  · intro k e
    simp [Value.ownBlock] at e
    simp [e]
  · have F13 := F1.trans F3
    rw [hset_other _ _ _ (Ne.symm htM), h2.block tm (Nat.lt_of_lt_of_le htl F13.size) (fun e => hrt tm e.symm rfl), F13.keep tm htl (fun z ez hm => by rw [ot] at ez; cases ez; simp at hm; exact htt hm)]

set_option maxRecDepth 50000 in
set_option maxHeartbeats 4000000 in
theorem spareTxn {ow : Nat → Option Nat} {w : World} {M qm tm t : Nat} {lo wa : Int} {sqv stv : Value} {st : List Nat} {hd wt : List Nat} {hv wv : Value} (mg : Mg w M qm tm lo wa sqv stv) (oM : ow M = some M) (row : w.ownsRow 0 62 1 stv st.length (st.map qp)) (own : ∀ g, stv.ownBlock = some g → ow g = some tm)
    (hf : Fresh ow w) (x : Tx ow w t hd wt hv wv) (htt : tm ≠ t) (htM : tm ≠ M) (hlen : st.length ≤ 256) (ot : ow tm = some tm) (html : tm < w.heap.size) (hrt : ∀ g, stv.ownBlock = some g → g ≠ tm) :
    Calls Ybad.prog 24 #[.pointer (some ⟨M, 0, none⟩), .pointer (some ⟨t, 0, none⟩)] w fun e w' => e = .returned (.tuple #[]) ∧ SpT ow w M qm tm lo wa sqv st t w' := by
  obtain ⟨n, hn⟩ : ∃ n, st.length = n := ⟨_, rfl⟩
  obtain ⟨ao, cap, rfl⟩ : ∃ ao cap, stv = .slice ao n cap := by
    rcases row.2 with ⟨rfl, h0⟩ | ⟨g, cap, cur, rfl, _⟩
    · exact ⟨none, 0, by rw [← hn, h0]⟩
    · exact ⟨_, cap, by rw [← hn]⟩
  obtain ⟨m0, m1, m2, m3, m4, m5, m6, m7, m8, mz⟩ := mg.c
  have htl := heap_lt x.blk
  have hMl := heap_lt mg
  have hbM := x.ne_mg mg
  by_cases hn256 : n < 256
  · have hI : (n : Int) < 256 := by omega
    obtain ⟨ti, hi, hz0, hz1, hz2⟩ := info_parts Ybad.info62
    have HB : Aside (w.drew.heap[t]? = some (.cells #[hv, wv, .bool false, .int .u64 0] 73 (0, 0))) := x.blk
    have HN : Aside (hv.ownBlock ≠ some t ∧ wv.ownBlock ≠ some t) := ⟨fun e => x.ne_row (.inl e) rfl, fun e => x.ne_row (.inr e) rfl⟩
    have RH : Aside (w.drew.ownsRow 0 64 1 hv hd.length (hd.map qp)) := x.hrow
    have RW : Aside (w.drew.ownsRow 0 64 1 wv wt.length (wt.map qp)) := x.wrow
    have KW : Aside (∀ v' w1, Spl w.drew 64 1 hv v' w1 → w1.ownsRow 0 64 1 wv wt.length (wt.map qp)) := fun v' w1 s => ownsRow_same x.wrow (fun g e => s.block g (fun e2 => x.ne g e2 e))
    have KH : Aside (∀ v' w1, Spl w.drew 64 1 wv v' w1 → w1.ownsRow 0 64 1 hv hd.length (hd.map qp)) := fun v' w1 s => ownsRow_same x.hrow (fun g e => s.block g (fun e2 => x.ne g e e2))
    have NE : Aside (∀ g, hv.ownBlock = some g → wv.ownBlock ≠ some g) := x.ne
    have FIN : Aside (∀ v1 v2 w2, Two w hv wv v1 v2 w2 → SptEnd ow w M qm tm lo wa sqv st t ao n cap v1 v2 w2 ∧ w2.cell? ⟨M, 8, none⟩ = some (.slice ao n cap) ∧ w2.frozen? ⟨M, 8, none⟩ = false ∧ M < w2.heap.size) := fun v1 v2 w2 T => spt_end hn mg oM row own hf x htt htM ot html hrt hn256 T
    have t0 : w.cell? ⟨t, 0, none⟩ = some hv := by rw [cell_of_row _ _ _ _ _ _ x.blk]; rfl
    have t1 : w.cell? ⟨t, 1, none⟩ = some wv := by rw [cell_of_row _ _ _ _ _ _ x.blk]; rfl
    clear m0 m1 m2 m3 m4 m5 m6 m7 mz mg row own x hf hn
    go_enter Ybad.func24, Ybad.ntmps24
    go_wp2
    first | go_region_with (go_at_call 33; first
      | (with_reducible refine (spareListP RH.out).mono ?_
         rintro e w1 ⟨v1, rfl, s1⟩
         obtain ⟨B1, c10, c11, c12, c13, z10, z11, z12, z13, l1⟩ := spl_tx (w0 := w.drew) HB.out HN.out.1 s1
         have R1 := hide (KW.out _ _ s1)
         have N1 : Aside (wv.ownBlock ≠ some t) := HN.out.2
         obtain ⟨a1, k1, rfl⟩ := s1.form)
      | (with_reducible refine (spareListP RW.out).mono ?_
         rintro e w1 ⟨v1, rfl, s1⟩
         obtain ⟨B1, c10, c11, c12, c13, z10, z11, z12, z13, l1⟩ := spl_tx (w0 := w.drew) HB.out HN.out.2 s1
         have R1 := hide (KH.out _ _ s1)
         have N1 : Aside (hv.ownBlock ≠ some t) := HN.out.1
         obtain ⟨a1, k1, rfl⟩ := s1.form)
      | (with_reducible refine (spareListP R1.out).mono ?_
         rintro e w2 ⟨v2, rfl, s2⟩
         clear c10 c11 c12 c13 z10 z11 z12 z13
         obtain ⟨B2, c20, c21, c22, c23, z20, z21, z22, z23, l2⟩ := spl_tx (w0 := w1) B1.out N1.out s2
         obtain ⟨a2, k2, rfl⟩ := s2.form
         first
         | obtain ⟨E1, E2, E3, E4⟩ := FIN.out _ _ w2 (two_hw NE.out s1 s2)
         | obtain ⟨E1, E2, E3, E4⟩ := FIN.out _ _ w2 (two_wh NE.out s1 s2))) | fail
    all_goals
      have E : Aside (SptEnd ow w M qm tm lo wa sqv st t ao n cap _ _ w2) := E1
      clear E1 s1 s2 R1 N1 B1 B2 FIN KH KW RH RW HB HN NE
      go_wp2_with (at_builtin; refine wpList_append_lies _ rfl (.tmp 27) (.tmp 29) 59 rfl 0 62 ti _ 1 8 Ybad.underlying59 hi hz0 hz1 hz2 rfl (by decide) (.slice ao n cap) n (st.map qp) rfl ?h1 ⟨w2.heap.size, 0, none⟩ 1 1 [qp t] rfl rfl ?h2 ?h3 ?h4 ?h5 ?h6 ?h7 (w2.heap.size + 1) ?h8 ?h9)
      case h1 => exact (appP E.out.1 t (setT_size w2 t _ _).symm).1.out
      case h2 => exact (appP E.out.1 t (setT_size w2 t _ _).symm).2.1.out
      case h3 => exact (appP E.out.1 t (setT_size w2 t _ _).symm).2.2.out
      case h4 => omega
      case h5 => simp only [maxLen]; omega
      case h6 => omega
      case h7 => exact Nat.zero_le _
      case h8 => simp
      case h9 =>
        intro g cap2 w3 hown hgrow hat hlt
        obtain ⟨⟨k7, ky, ks⟩, hfin⟩ := E.out.2 g cap2 w3 hown hgrow hat hlt
        have E5 : Aside (SpT ow w M qm tm lo wa sqv st t (w3.setCell ⟨M, 8, none⟩ (.slice (some ⟨g, 0, none⟩) (n + 1) cap2))) := hfin
        clear hfin hown hgrow hat E
        go_wp2
        go_end0
        exact ⟨rfl, E5.out⟩
  · have hI : ¬ (n : Int) < 256 := by omega
    have E : Aside (SpT ow w M qm tm lo wa sqv st t w) := ⟨ow, _, st, Fr.refl hf _, mg, row, own, hlen, rfl, .inl rfl⟩
    clear mg row own x hf m0 m1 m2 m3 m4 m5 m6 m7 mz
    go_enter Ybad.func24, Ybad.ntmps24
    go_wp2
    go_end0
    exact ⟨rfl, E.out⟩

end Go.Proofs.YbulkbcpiDoor.rel
