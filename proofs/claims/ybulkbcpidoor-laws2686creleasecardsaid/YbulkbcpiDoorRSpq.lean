/-
  Seat b2686aD: a queue that no request is on any more is kept as a spare one.
-/
import Derived.Test.YbulkbcpiDoorRList
namespace Go.Proofs.YbulkbcpiDoor.rel
open Go.RowKit

def SpQ (ow : Nat → Option Nat) (w : World) (M qm tm : Nat) (lo wa : Int) (stv : Value) (sq : List Nat) (b : Nat) (w' : World) : Prop :=
  ∃ ow' sqv' sq', Fr ow w ow' w' [M, qm, b] ∧ Mg w' M qm tm lo wa sqv' stv ∧ w'.ownsRow 0 64 1 sqv' sq'.length (sq'.map qp) ∧ (∀ g, sqv'.ownBlock = some g → ow' g = some qm) ∧ sq'.length ≤ 256 ∧ w'.heap[qm]? = w.heap[qm]? ∧
    (sq' = sq ∨ (sq' = sq ++ [b] ∧ ∃ gv' wv', Qu ow' w' b emptyB [] [] (.pointer none) gv' wv'))

/-- The side facts of an append of one pointer that is laid in a new block. -/
theorem appP {w : World} {v : Value} {n : Nat} {xs : List Value} {T : TypeId} (h : w.ownsRow 0 T 1 v n xs) (b : Nat) {B : Nat} (hB : B = w.heap.size) :
    Hid ((w.alloc (.cells #[.pointer (some ⟨b, 0, none⟩)] T)).ownsRow 0 T 1 v n xs) ∧
    Hid (∀ j u, [qp b][j]? = some u → (w.alloc (.cells #[.pointer (some ⟨b, 0, none⟩)] T)).cell? ((⟨B, 0, none⟩ : Addr).add j) = some u) ∧ Hid (∀ u ∈ [qp b], u.oneCell' = true) := by
  subst hB
  refine ⟨h.alloc _, ?_, ?_⟩
  · exact World.news_of_block (w := w.alloc (.cells #[.pointer (some ⟨b, 0, none⟩)] T)) (B := w.heap.size) (cs := #[.pointer (some ⟨b, 0, none⟩)]) (t := T) (fr := (0, 0)) (heap_new w _)
  · intro u hu
    simp at hu
    subst hu
    rfl

/-- The emptied queue is stored. -/
def setQ (w : World) (b : Nat) (v : Value) : World :=
  (((((((w.setCell ⟨b, 0, none⟩ (.string ⟨#[]⟩)).setCell ⟨b, 1, none⟩ v).setCell ⟨b, 2, none⟩ (.slice none 0 0)).setCell ⟨b, 3, none⟩ (.int .i64 0)).setCell ⟨b, 4, none⟩ (.int .i64 0)).setCell ⟨b, 5, none⟩ (.int .i64 0)).setCell ⟨b, 6, none⟩ (.int .i64 0)).setCell ⟨b, 7, none⟩ (.pointer none)

theorem setQ_blk {w : World} {b : Nat} {v : Value} {x0 x1 x2 x3 x4 x5 x6 x7 : Value} (h : w.heap[b]? = some (.cells #[x0, x1, x2, x3, x4, x5, x6, x7] 88 (0, 0))) :
    (setQ w b v).heap[b]? = some (.cells #[.string ⟨#[]⟩, v, .slice none 0 0, .int .i64 0, .int .i64 0, .int .i64 0, .int .i64 0, .pointer none] 88 (0, 0)) := by
  unfold setQ
  rw [hset_same (hset_same (hset_same (hset_same (hset_same (hset_same (hset_same (hset_same h 0 _) 1 _) 2 _) 3 _) 4 _) 5 _) 6 _) 7 _]
  simp

theorem setQ_fr {ow : Nat → Option Nat} {w : World} {b : Nat} (v : Value) (hf : Fresh ow w) (ho : ow b = some b) : Fr ow w ow (setQ w b v) [b] := by
  have k : ∃ s, ow b = some s ∧ s ∈ [b] := ⟨b, ho, by simp⟩
  unfold setQ
  exact ((((((((Fr.refl hf [b]).setCell (.inr k) _ _).setCell (.inr k) _ _).setCell (.inr k) _ _).setCell (.inr k) _ _).setCell (.inr k) _ _).setCell (.inr k) _ _).setCell (.inr k) _ _).setCell (.inr k) _ _

theorem setQ_size (w : World) (b : Nat) (v : Value) : (setQ w b v).heap.size = w.heap.size := by simp [setQ]
theorem setQ_ne (w : World) {b k : Nat} (v : Value) (h : b ≠ k) : (setQ w b v).heap[k]? = w.heap[k]? := by
  unfold setQ
  rw [hset_other _ _ _ h, hset_other _ _ _ h, hset_other _ _ _ h, hset_other _ _ _ h, hset_other _ _ _ h, hset_other _ _ _ h, hset_other _ _ _ h, hset_other _ _ _ h]

set_option maxRecDepth 50000 in
set_option maxHeartbeats 4000000 in
theorem spareQueue {ow : Nat → Option Nat} {w : World} {M qm tm b : Nat} {lo wa : Int} {sqv stv : Value} {sq : List Nat} {nm : ByteArray} {gr wt : List Req} {tp gv wv : Value} (mg : Mg w M qm tm lo wa sqv stv) (oM : ow M = some M) (row : w.ownsRow 0 64 1 sqv sq.length (sq.map qp)) (own : ∀ g, sqv.ownBlock = some g → ow g = some qm)
    (hf : Fresh ow w) (q : Qu ow w b nm gr wt tp gv wv) (hqb : qm ≠ b) (hqM : qm ≠ M) (hlen : sq.length ≤ 256) (oq : ow qm = some qm) (hql : qm < w.heap.size) (hrq : ∀ g, sqv.ownBlock = some g → g ≠ qm) :
    Calls Ybad.prog 44 #[.pointer (some ⟨M, 0, none⟩), .pointer (some ⟨b, 0, none⟩)] w fun e w' => e = .returned (.tuple #[]) ∧ SpQ ow w M qm tm lo wa stv sq b w' := by
  obtain ⟨n, hn⟩ : ∃ n, sq.length = n := ⟨_, rfl⟩
  obtain ⟨ao, cap, rfl⟩ : ∃ ao cap, sqv = .slice ao n cap := by
    rcases row.2 with ⟨rfl, h0⟩ | ⟨g, cap, cur, rfl, _⟩
    · exact ⟨none, 0, by rw [← hn, h0]⟩
    · exact ⟨_, cap, by rw [← hn]⟩
  obtain ⟨m0, m1, m2, m3, m4, m5, m6, m7, m8, mz⟩ := mg.c
  have hbM := q.ne_mg mg
  have hMl := heap_lt mg
  have hbl := heap_lt q.blk
  by_cases hn256 : n < 256
  · have hI : (n : Int) < 256 := by omega
    obtain ⟨ti, hi, hz0, hz1, hz2⟩ := info_parts Ybad.info64
    have SPL : Aside (Calls Ybad.prog 59 #[gv] w fun e w' => ∃ v', e = .returned v' ∧ Spl w 83 4 gv v' w') := spareListR q.grow
    -- behind spareList and the store of the emptied queue
    have MID : Aside (∀ v' w1, Spl w 83 4 gv v' w1 → ∃ a c, v' = .slice a 0 c ∧ (∀ j, j < 8 → (w1.cell? ⟨b, j, none⟩).isSome = true) ∧ (∀ j, w1.frozen? ⟨b, j, none⟩ = false) ∧ b < w1.heap.size ∧ M < w1.heap.size ∧ w1.cell? ⟨M, 7, none⟩ = some (.slice ao n cap) ∧ w1.frozen? ⟨M, 7, none⟩ = false) := by
      intro v' w1 hs
      have F1 := hs.fr hf q.gown
      have hb1 : w1.heap[b]? = w.heap[b]? := hs.block b (fun e => q.ne_row e rfl)
      have mg1 := mg.fr F1 oM (by simp [Ne.symm hbM])
      have hblk := hb1.trans q.blk
      obtain ⟨a, c, rfl⟩ := hs.form
      refine ⟨a, c, rfl, fun j hj => ?_, fun j => frozen_of_row _ _ _ _ _ hblk, heap_lt hblk, heap_lt mg1, mg1.c.2.2.2.2.2.2.2.1, mg1.c.2.2.2.2.2.2.2.2.2 7⟩
      rw [cell_of_row _ _ _ _ _ _ hblk, Array.getElem?_eq_getElem (by simpa using hj)]
      rfl
    have c1 := q.c.2.1
    clear m0 m1 m2 m3 m4 m5 m6 m8
    have mz7 := mz 7
    clear mz
    go_enter Ybad.func44, Ybad.ntmps44
    go_wp2_with fail
    refine SPL.out.mono ?_
    rintro e w1 ⟨v', rfl, hs⟩
    obtain ⟨a, c, rfl, hcs, hfz, sb, sM, e7, y7⟩ := MID.out v' w1 hs
    obtain ⟨x0, b0⟩ := Option.isSome_iff_exists.1 (hcs 0 (by omega))
    obtain ⟨x1, b1⟩ := Option.isSome_iff_exists.1 (hcs 1 (by omega))
    obtain ⟨x2, b2⟩ := Option.isSome_iff_exists.1 (hcs 2 (by omega))
    obtain ⟨x3, b3⟩ := Option.isSome_iff_exists.1 (hcs 3 (by omega))
    obtain ⟨x4, b4⟩ := Option.isSome_iff_exists.1 (hcs 4 (by omega))
    obtain ⟨x5, b5⟩ := Option.isSome_iff_exists.1 (hcs 5 (by omega))
    obtain ⟨x6, b6⟩ := Option.isSome_iff_exists.1 (hcs 6 (by omega))
    obtain ⟨x7, b7⟩ := Option.isSome_iff_exists.1 (hcs 7 (by omega))
    have z0 := hfz 0
    have z1 := hfz 1
    have z2 := hfz 2
    have z3 := hfz 3
    have z4 := hfz 4
    have z5 := hfz 5
    have z6 := hfz 6
    have z7 := hfz 7
    clear hcs hfz
    have FIN : Aside ((setQ w1 b (.slice a 0 c)).ownsRow 0 64 1 (.slice ao n cap) n (sq.map qp) ∧ ∀ (g cap2 : Nat) (w3 : World), w3.ownsRow 0 64 1 (.slice (some ⟨g, 0, none⟩) (n + 1) cap2) (n + 1) (sq.map qp ++ [qp b]) → ((setQ w1 b (.slice a 0 c)).alloc (.cells #[.pointer (some ⟨b, 0, none⟩)] 64)).grownBy w3 (Value.slice ao n cap).ownBlock →
        ((Value.slice ao n cap).ownBlock = some g ∨ g = w1.heap.size + 1) → g < w3.heap.size → (w3.cell? ⟨M, 7, none⟩ = some (.slice ao n cap) ∧ w3.frozen? ⟨M, 7, none⟩ = false ∧ M < w3.heap.size) ∧ SpQ ow w M qm tm lo wa stv sq b (w3.setCell ⟨M, 7, none⟩ (.slice (some ⟨g, 0, none⟩) (n + 1) cap2))) := by
      have F1 := hs.fr hf q.gown
      have mg1 := mg.fr F1 oM (by simp [Ne.symm hbM])
      have hb1 : w1.heap[b]? = w.heap[b]? := hs.block b (fun e => q.ne_row e rfl)
      have F2 := setQ_fr (b := b) (.slice a 0 c) F1.fresh0 q.own
      have F12 := F1.trans F2
      have mg2 := mg1.fr F2 oM (by simp [Ne.symm hbM])
      have hrow : ∀ k, (Value.slice ao n cap).ownBlock = some k → (setQ w1 b (.slice a 0 c)).heap[k]? = w.heap[k]? := fun k e => F12.keep k (ownsRow_lt row e) (fun x ex hm => by rw [own k e] at ex; cases ex; simp at hm; exact hqb hm)
      have R2 : (setQ w1 b (.slice a 0 c)).ownsRow 0 64 1 (.slice ao n cap) n (sq.map qp) := by rw [hn] at row; exact ownsRow_same row hrow
      refine ⟨R2, fun g cap2 w3 h1 h2 h3 h4 => ?_⟩
      have F3 := F2.alloc (.cells #[.pointer (some ⟨b, 0, none⟩)] 64)
      have mg3 := mg1.fr F3 oM (by simp [Ne.symm hbM])
      have F4 := Fr.grown (s := qm) (g := g) F3.fresh0 h2 (fun k e => own k e) (by rcases h3 with h3 | h3; exact .inl h3; exact .inr (by rw [h3]; simp [setQ_size])) h4
      have mg4 := mg3.fr F4 oM (by simp [Ne.symm hqM])
      have hMlt := heap_lt mg3
      have oM4 : (if M = g then some qm else ow M) = some M := by
        have := F4.old M hMlt
        rw [this]; exact oM
      have F5 : Fr _ w3 _ (w3.setCell ⟨M, 7, none⟩ (.slice (some ⟨g, 0, none⟩) (n + 1) cap2)) [M] := (Fr.refl F4.fresh0 [M]).setCell (.inr ⟨M, oM4, by simp⟩) _ _
      have hgM : g ≠ M := by
        rintro rfl
        rw [if_pos rfl] at oM4
        injection oM4 with oM4
        exact hqM oM4
      have hq2 : Qu ow (setQ w1 b (.slice a 0 c)) b emptyB [] [] (.pointer none) (.slice a 0 c) (.slice none 0 0) := by
        refine ⟨setQ_blk (hb1.trans q.blk), q.own, ?_, fun k e => ?_, .inl ⟨rfl, rfl⟩, (fun k e => by cases e), (fun k _ e => by cases e)⟩
        · exact ownsRow_same hs.row (fun k e => setQ_ne _ _ (by
            rcases hs.same with h | h
            · rw [h] at e; cases e
            · rw [h] at e; exact q.ne_row e))
        · rcases hs.same with h | h
          · rw [h] at e; cases e
          · rw [h] at e; exact q.gown k e
      have q4 := ((hq2.fr ((Fr.refl F2.fresh0 []).alloc (.cells #[.pointer (some ⟨b, 0, none⟩)] 64)) (by simp)).fr F4 (by simp [Ne.symm hqb])).fr F5 (by simp [hbM])
      refine ⟨⟨mg4.c.2.2.2.2.2.2.2.1, mg4.c.2.2.2.2.2.2.2.2.2 7, heap_lt mg4⟩, _, .slice (some ⟨g, 0, none⟩) (n + 1) cap2, sq ++ [b], ((F1.trans F3).trans (F4.trans F5)).mono (by simp), ?_, ?_, ?_, by rw [List.length_append, hn]; simp; omega, ?_, .inr ⟨rfl, _, _, q4⟩⟩
      · unfold Mg at mg4 ⊢
        rw [hset_same mg4]
        simp
      · rw [List.length_append, hn, List.map_append]
        exact ownsRow_same h1 (fun k e => by simp [Value.ownBlock] at e; subst e; exact hset_other _ _ _ (Ne.symm hgM))
      · intro k e
        simp [Value.ownBlock] at e
        simp [e]
      · have F13 := F1.trans F3
        rw [hset_other _ _ _ (Ne.symm hqM), h2.block qm (Nat.lt_of_lt_of_le hql F13.size) (fun e => hrq qm e.symm rfl), F13.keep qm hql (fun z ez hm => by rw [oq] at ez; cases ez; simp at hm; exact hqb hm)]
    clear MID SPL
    go_wp2_with (at_builtin; refine wpList_append_lies _ rfl (.tmp 22) (.tmp 24) 58 rfl 0 64 ti _ 1 8 Ybad.underlying58 hi hz0 hz1 hz2 rfl (by decide) (.slice ao n cap) n (sq.map qp) rfl ?h1 ⟨w1.heap.size, 0, none⟩ 1 1 [qp b] rfl rfl ?h2 ?h3 ?h4 ?h5 ?h6 ?h7 (w1.heap.size + 1) ?h8 ?h9)
    case h1 => exact (appP FIN.out.1 b (setQ_size w1 b _).symm).1.out
    case h2 => exact (appP FIN.out.1 b (setQ_size w1 b _).symm).2.1.out
    case h3 => exact (appP FIN.out.1 b (setQ_size w1 b _).symm).2.2.out
    case h4 => omega
    case h5 => simp only [maxLen]; omega
    case h6 => omega
    case h7 => exact Nat.zero_le _
    case h8 => simp
    case h9 =>
      intro g cap2 w3 hown hgrow hat hlt
      obtain ⟨⟨k7, ky, ks⟩, hfin⟩ := FIN.out.2 g cap2 w3 hown hgrow hat hlt
      have E : Aside (SpQ ow w M qm tm lo wa stv sq b (w3.setCell ⟨M, 7, none⟩ (.slice (some ⟨g, 0, none⟩) (n + 1) cap2))) := hfin
      clear hfin hown hgrow hat FIN
      go_wp2
      go_end0
      exact ⟨rfl, E.out⟩
  · have hI : ¬ (n : Int) < 256 := by omega
    have E : Aside (SpQ ow w M qm tm lo wa stv sq b w) := ⟨ow, _, sq, Fr.refl hf _, mg, row, own, hlen, rfl, .inl rfl⟩
    clear mg row own q hf m0 m1 m2 m3 m4 m5 m6 m8 mz
    go_enter Ybad.func44, Ybad.ntmps44
    go_wp2
    go_end0
    exact ⟨rfl, E.out⟩

end Go.Proofs.YbulkbcpiDoor.rel
