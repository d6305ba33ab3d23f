/-
  Seat b2686aD: a request is laid among the waiting ones.
-/
import Derived.Test.YbulkbcpiDoorRIns2
namespace Go.Proofs.YbulkbcpiDoor.rel
open Go.RowKit

def insAt (l : List Req) (pos : Nat) (r : Req) : List Req := l.take pos ++ r :: l.drop pos

theorem insAt_end (l : List Req) (r : Req) : insAt l l.length r = l ++ [r] := by simp [insAt]
theorem insAt_front (l : List Req) (r : Req) : insAt l 0 r = r :: l := by simp [insAt]

theorem cnt_insAt (m : Nat) (l : List Req) (pos : Nat) (r : Req) : cnt m (insAt l pos r) = cnt m l + if r.m = m then 1 else 0 := by
  have h : cnt m l = cnt m (l.take pos ++ l.drop pos) := by rw [List.take_append_drop]
  rw [h]
  simp only [cnt, insAt, List.countP_append, List.countP_cons]
  by_cases e : r.m = m <;> simp [e] <;> omega

theorem len_insAt (l : List Req) (pos : Nat) (r : Req) : (insAt l pos r).length = l.length + 1 := by
  simp [insAt]; omega

theorem insert {w : World} {v : Value} {l : List Req} (hs : Seg w v l) (pos : Nat) (hpos : pos = l.length ∨ pos = 0) (r : Req) (B : Nat) (hB : w.heap[B]? = some (.cells #[.int .i64 r.y, .int .i64 r.m, .bool r.u, .bool false] 83 (0, 0))) (hne : v.ownBlock ≠ some B) (hl : l.length ≤ 8) :
    Calls Ybad.prog 56 #[v, .int .i64 (pos : Int), .slice (some ⟨B, 0, none⟩) 1 1] w fun e w' => ∃ v', e = .returned v' ∧ Insd w v.ownBlock (insAt l pos r) v' w' := by
  by_cases he : pos = l.length
  · subst he
    rw [insAt_end]
    exact insertEnd hs r B hB hl
  · obtain rfl : pos = 0 := by rcases hpos with h | h; exact absurd h he; exact h
    rw [insAt_front]
    rcases hs with ⟨rfl, rfl⟩ | ⟨g, off, cap, cur, rfl, hg, hle, hcap, hsz, hcur⟩
    · exact absurd rfl he
    · have h1 : 1 ≤ l.length := by omega
      have hBg : B ≠ g := fun e => hne (by rw [e]; rfl)
      by_cases hr : l.length + 1 ≤ cap
      · exact insertRoom hg rfl h1 hr hcap hsz hcur r B hB hBg hl
      · exact insertGrow hg rfl h1 (by omega) hcur r B hB hl

theorem Insd.form {w : World} {row : Option Nat} {l : List Req} {v' : Value} {w' : World} (h : Insd w row l v' w') : ∃ A n c, v' = .slice (some A) n c := by
  rcases h.1 with ⟨rfl, _⟩ | ⟨g, off, cap, cur, rfl, _⟩
  · obtain ⟨_, _, g, e, _⟩ := h
    cases e
  · exact ⟨_, _, _, rfl⟩

def Inwd (ow : Nat → Option Nat) (w : World) (b M qm tm : Nat) (nm : ByteArray) (gr wt : List Req) (gv : Value) (lo wa : Int) (sq st : Value) (w' : World) : Prop :=
  ∃ ow' wv', Fr ow w ow' w' [b, M] ∧ Qu ow' w' b nm gr wt (tal M) gv wv' ∧ Mg w' M qm tm lo (wa + 1) sq st

theorem Inwd.drew {ow : Nat → Option Nat} {w : World} {b M qm tm : Nat} {nm : ByteArray} {gr wt : List Req} {gv : Value} {lo wa : Int} {sq st : Value} {w' : World} (h : Inwd ow w b M qm tm nm gr wt gv lo wa sq st w') : Inwd ow w b M qm tm nm gr wt gv lo wa sq st w'.drew := by
  obtain ⟨ow', wv', F, q, m⟩ := h
  exact ⟨ow', wv', F.drew, ⟨q.blk, q.own, q.grow, q.gown, q.wrow, q.wown, q.ne⟩, m⟩

/-- Behind Insert and the two stores into the queue. -/
theorem Qu.inserted {ow : Nat → Option Nat} {W w2 : World} {b : Nat} {nm : ByteArray} {gr wt : List Req} {tp gv wv v' : Value} (q : Qu ow W b nm gr wt tp gv wv) (hf : Fresh ow W) {r : Req} {pos : Nat} (hi : Insd W wv.ownBlock (insAt wt pos r) v' w2) (hr : r.m < 2) :
    ∃ ow', Fr ow W ow' ((w2.setCell ⟨b, 2, none⟩ v').setCell ⟨b, 5 + r.m, none⟩ (.int .i64 ((cnt r.m wt : Nat) + 1))) [b] ∧
      Qu ow' ((w2.setCell ⟨b, 2, none⟩ v').setCell ⟨b, 5 + r.m, none⟩ (.int .i64 ((cnt r.m wt : Nat) + 1))) b nm gr (insAt wt pos r) tp gv v' := by
  obtain ⟨hseg, hgrow, g, hgv, hat, hlt⟩ := hi
  have hbl := heap_lt q.blk
  have hrow : some b ≠ wv.ownBlock := fun e => (q.ne_wrow e.symm) rfl
  have hb2 : w2.heap[b]? = W.heap[b]? := hgrow.block b hbl hrow
  have hgb : b ≠ g := by
    rintro rfl
    rcases hseg with ⟨rfl, _⟩ | ⟨g', off', cap', cur', rfl, h2, _⟩
    · cases hgv
    · simp [Value.ownBlock] at hgv
      subst hgv
      have := (hb2.trans q.blk).symm.trans h2
      simp at this
  refine ⟨fun k => if k = g then some b else ow k, ?_, ?_⟩
  · have F := Fr.grown (s := b) hf hgrow (fun k e => q.wown k e) hat hlt
    exact (F.setCell (.inr ⟨b, q.own, by simp⟩) _ _).setCell (.inr ⟨b, q.own, by simp⟩) _ _
  · have hk : ∀ k, k ≠ b → ((w2.setCell ⟨b, 2, none⟩ v').setCell ⟨b, 5 + r.m, none⟩ (.int .i64 ((cnt r.m wt : Nat) + 1))).heap[k]? = w2.heap[k]? := fun k hk => by
      rw [hset_other _ _ _ (Ne.symm hk), hset_other _ _ _ (Ne.symm hk)]
    refine ⟨?_, ?_, ?_, ?_, ?_, ?_, ?_⟩
    · have h1 := hset_same (hset_same (hb2.trans q.blk) 2 v') (5 + r.m) (.int .i64 ((cnt r.m wt : Nat) + 1))
      rw [h1, cnt_insAt, cnt_insAt]
      obtain ⟨ry, rm, ru⟩ := r
      simp only at hr
      rcases (by omega : rm = 0 ∨ rm = 1) with rfl | rfl <;> simp
    · simp only [if_neg hgb]; exact q.own
    · refine ownsRow_same q.grow (fun k e => ?_)
      rw [hk k (Ne.symm (q.ne_row e))]
      exact hgrow.block k (ownsRow_lt q.grow e) (fun e2 => q.ne k e e2.symm)
    · intro k e
      by_cases h : k = g
      · simp [h]
      · simp only [if_neg h]; exact q.gown k e
    · exact hseg.same (fun k e => hk k (by rw [hgv] at e; cases e; exact Ne.symm hgb))
    · intro k e
      rw [hgv] at e
      cases e
      simp
    · intro k e e2
      rw [hgv] at e2
      cases e2
      rcases hat with h | h
      · exact q.ne g e h
      · have := ownsRow_lt q.grow e
        omega

set_option maxRecDepth 50000 in
set_option maxHeartbeats 4000000 in
theorem insertWaiting {ow : Nat → Option Nat} {w : World} {b M qm tm : Nat} {nm : ByteArray} {gr wt : List Req} {gv wv : Value} {lo wa : Int} {sq st : Value} (q : Qu ow w b nm gr wt (tal M) gv wv) (mg : Mg w M qm tm lo wa sq st)
    (hoM : ow M = some M) (hf : Fresh ow w) (r : Req) (hrm : r.m < 2) (pos : Nat) (hpos : pos = wt.length ∨ pos = 0) (hlen : wt.length ≤ 8) (hwa : 0 ≤ wa) (hwa2 : wa ≤ 100) :
    Calls Ybad.prog 40 #[.pointer (some ⟨b, 0, none⟩), .int .i64 (pos : Int), rv r] w fun e w' => e = .returned (.tuple #[]) ∧ Inwd ow w b M qm tm nm gr (insAt wt pos r) gv lo wa sq st w' := by
  obtain ⟨c0, c1, c2, c3, c4, c5, c6, c7, fz⟩ := q.c
  have hbl := heap_lt q.blk
  have hMl := heap_lt mg
  have hne : b ≠ M := by
    rintro rfl
    have := q.blk.symm.trans mg
    simp at this
  obtain ⟨W1, hW1⟩ : ∃ W1, W1 = ((w.alloc (.cells #[.int .i64 r.y, .int .i64 r.m, .bool r.u, .bool false] 83)).alloc (.cells #[.int .i64 r.y, .int .i64 r.m, .bool r.u, .bool false] 83)).drew := ⟨_, rfl⟩
  have F1 : Fr ow w ow W1 [] := by rw [hW1]; exact (((Fr.refl hf []).alloc _).alloc _).drew
  have q1 := q.fr F1 (by simp)
  have mg1 := mg.fr F1 hoM (by simp)
  have hB1 : W1.heap[w.heap.size + 1]? = some (.cells #[.int .i64 r.y, .int .i64 r.m, .bool r.u, .bool false] 83 (0, 0)) := by
    rw [hW1]
    have := heap_new (w.alloc (.cells #[.int .i64 r.y, .int .i64 r.m, .bool r.u, .bool false] 83)) (.cells #[.int .i64 r.y, .int .i64 r.m, .bool r.u, .bool false] 83)
    rw [show (w.alloc (.cells #[.int .i64 r.y, .int .i64 r.m, .bool r.u, .bool false] 83)).heap.size = w.heap.size + 1 by simp] at this
    exact this
  have hB0 : W1.cell? ⟨w.heap.size, 1, none⟩ = some (.int .i64 r.m) := by
    rw [hW1]
    show ((w.alloc _).alloc _).cell? _ = _
    rw [World.cell?_alloc_lt _ _ _ (by simp), World.cell?_alloc_new]
    rfl
  have hwB : wv.ownBlock ≠ some (w.heap.size + 1) := fun e => by
    have := q.wrow.lt e
    omega
  have CALL : Aside (Calls Ybad.prog 56 #[wv, .int .i64 (pos : Int), .slice (some ⟨w.heap.size + 1, 0, none⟩) 1 1] W1 fun e w' => ∃ v', e = .returned v' ∧ Insd W1 wv.ownBlock (insAt wt pos r) v' w') := insert q1.wrow pos hpos r (w.heap.size + 1) hB1 hwB hlen
  have FIN : Aside (∀ v' w2, Insd W1 wv.ownBlock (insAt wt pos r) v' w2 → (w2.cell? ⟨b, 2, none⟩ = some wv ∧ w2.frozen? ⟨b, 2, none⟩ = false ∧ w2.cell? ⟨b, 5, none⟩ = some (.int .i64 (cnt 0 wt : Nat)) ∧ w2.cell? ⟨b, 6, none⟩ = some (.int .i64 (cnt 1 wt : Nat)) ∧ w2.frozen? ⟨b, 5, none⟩ = false ∧ w2.frozen? ⟨b, 6, none⟩ = false ∧ w2.cell? ⟨b, 7, none⟩ = some (.pointer (some ⟨M, 5, none⟩)) ∧ w2.cell? ⟨M, 6, none⟩ = some (.int .i64 wa) ∧ w2.frozen? ⟨M, 6, none⟩ = false ∧ w2.cell? ⟨w.heap.size, 1, none⟩ = some (.int .i64 r.m) ∧ b < w2.heap.size ∧ M < w2.heap.size) ∧
      Inwd ow w b M qm tm nm gr (insAt wt pos r) gv lo wa sq st (((w2.setCell ⟨b, 2, none⟩ v').setCell ⟨b, 5 + r.m, none⟩ (.int .i64 ((cnt r.m wt : Nat) + 1))).setCell ⟨M, 6, none⟩ (.int .i64 (wa + 1)))) := by
    intro v' w2 hi
    obtain ⟨ow', F2, q2⟩ := q1.inserted F1.fresh0 hi hrm
    have mg2 := mg1.fr F2 hoM (by simp [Ne.symm hne])
    have hgrow := hi.2.1
    have hb2 : w2.heap[b]? = W1.heap[b]? := hgrow.block b (heap_lt q1.blk) (fun e => (q1.ne_wrow e.symm) rfl)
    have hblk := hb2.trans q1.blk
    have hM2 : w2.heap[M]? = W1.heap[M]? := hgrow.block M (heap_lt mg1) (fun e => by
      have := q1.wown M e.symm
      rw [hoM] at this
      injection this with this
      exact hne this.symm)
    have hmblk : Mg w2 M qm tm lo wa sq st := hM2.trans mg1
    have hB2 : w2.heap[w.heap.size]? = W1.heap[w.heap.size]? := hgrow.block w.heap.size (cell_lt hB0) (fun e => by
      have := q.wrow.lt e.symm
      omega)
    obtain ⟨_, _, _, _, _, _, n6, _, _, nz⟩ := hmblk.c
    refine ⟨⟨?_, frozen_of_row _ _ _ _ _ hblk, ?_, ?_, frozen_of_row _ _ _ _ _ hblk, frozen_of_row _ _ _ _ _ hblk, ?_, n6, nz 6, ?_, heap_lt hblk, heap_lt hmblk⟩, ?_⟩
    · rw [cell_of_row _ _ _ _ _ _ hblk]; rfl
    · rw [cell_of_row _ _ _ _ _ _ hblk]; rfl
    · rw [cell_of_row _ _ _ _ _ _ hblk]; rfl
    · rw [cell_of_row _ _ _ _ _ _ hblk]; rfl
    · rw [World.cell?_of_block (a := ⟨w.heap.size, 1, none⟩) hB2]; exact hB0
    · have hoM' : ow' M = some M := by rw [F2.old M (heap_lt mg1)]; exact hoM
      have F3 : Fr ow' _ ow' (((w2.setCell ⟨b, 2, none⟩ v').setCell ⟨b, 5 + r.m, none⟩ (.int .i64 ((cnt r.m wt : Nat) + 1))).setCell ⟨M, 6, none⟩ (.int .i64 (wa + 1))) [M] := (Fr.refl F2.fresh0 [M]).setCell (.inr ⟨M, hoM', by simp⟩) _ _
      refine ⟨ow', v', ((F1.trans F2).trans F3).mono (by simp), q2.fr F3 (by simp [hne]), ?_⟩
      unfold Mg at mg2 ⊢
      rw [hset_same mg2]
      simp
  have hk0 := cnt_le 0 wt
  have hk1 := cnt_le 1 wt
  obtain ⟨ry, rm, ru⟩ := r
  unfold rv
  simp only at hrm CALL FIN hW1 ⊢
  clear q mg q1 mg1 F1 hB1 hB0 hf hoM c0 c1 c3 c4 fz c5 c6 c7
  subst hW1
  go_enter Ybad.func40, Ybad.ntmps40
  go_wp2
  first | go_region_with (go_at_call 56; refine CALL.out.mono ?_; rintro e w2 ⟨v', rfl, hi⟩; obtain ⟨A, n', c', rfl⟩ := hi.form; obtain ⟨⟨e2, y2, e5, e6, y5, y6, e7, e9, y9, eB, sb, sM⟩, hfin⟩ := FIN.out _ w2 hi) | fail
  all_goals
    have END : Aside (Inwd ow w b M qm tm nm gr (insAt wt pos ⟨ry, rm, ru⟩) gv lo wa sq st (((w2.setCell ⟨b, 2, none⟩ (.slice (some A) n' c')).setCell ⟨b, 5 + rm, none⟩ (.int .i64 ((cnt rm wt : Nat) + 1))).setCell ⟨M, 6, none⟩ (.int .i64 (wa + 1)))) := hfin
    clear hfin hi FIN CALL c2
    rcases (by omega : rm = 0 ∨ rm = 1) with rfl | rfl
    all_goals
      go_wp2
      go_region
      go_wp2
      go_end0
      exact ⟨rfl, END.out.drew⟩

end Go.Proofs.YbulkbcpiDoor.rel
