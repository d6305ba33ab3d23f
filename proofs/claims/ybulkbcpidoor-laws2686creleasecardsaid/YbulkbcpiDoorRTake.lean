/-
  Seat b2686aD: the first waiting request is taken off its queue.
-/
import Derived.Test.YbulkbcpiDoorRConv
namespace Go.Proofs.YbulkbcpiDoor.rel
open Go.RowKit

def Tkn (ow : Nat → Option Nat) (w : World) (b M qm tm : Nat) (nm : ByteArray) (gr wt : List Req) (gv : Value) (lo wa : Int) (sq st : Value) (w' : World) : Prop :=
  ∃ wv', Fr ow w ow w' [b, M] ∧ Qu ow w' b nm gr wt (tal M) gv wv' ∧ Mg w' M qm tm lo (wa - 1) sq st

theorem Tkn.drew {ow : Nat → Option Nat} {w : World} {b M qm tm : Nat} {nm : ByteArray} {gr wt : List Req} {gv : Value} {lo wa : Int} {sq st : Value} {w' : World} (h : Tkn ow w b M qm tm nm gr wt gv lo wa sq st w') : Tkn ow w b M qm tm nm gr wt gv lo wa sq st w'.drew := by
  obtain ⟨wv', F, q, m⟩ := h
  exact ⟨wv', F.drew, ⟨q.blk, q.own, q.grow, q.gown, q.wrow, q.wown, q.ne⟩, m⟩

theorem Tkn.alloc {ow : Nat → Option Nat} {w : World} {b M qm tm : Nat} {nm : ByteArray} {gr wt : List Req} {gv : Value} {lo wa : Int} {sq st : Value} {w' : World} (h : Tkn ow w b M qm tm nm gr wt gv lo wa sq st w') (o : Obj) (hoM : ow M = some M) : Tkn ow w b M qm tm nm gr wt gv lo wa sq st (w'.alloc o) := by
  obtain ⟨wv', F, q, m⟩ := h
  have F1 := (Fr.refl F.fresh0 []).alloc o
  exact ⟨wv', F.alloc o, q.fr F1 (by simp), m.fr F1 hoM (by simp)⟩

set_option maxRecDepth 50000 in
set_option maxHeartbeats 4000000 in
theorem takeWaiting {ow : Nat → Option Nat} {w : World} {b M qm tm : Nat} {nm : ByteArray} {gr wt : List Req} {gv wv : Value} {lo wa : Int} {sq st : Value} {r : Req} (q : Qu ow w b nm gr (r :: wt) (tal M) gv wv) (mg : Mg w M qm tm lo wa sq st)
    (hoM : ow M = some M) (hf : Fresh ow w) (hrm : r.m < 2) (hlen : wt.length ≤ 8) (hwa : 0 ≤ wa) (hwa2 : wa ≤ 100) :
    Calls Ybad.prog 43 #[.pointer (some ⟨b, 0, none⟩), .int .i64 0] w fun e w' => e = .returned (rv r) ∧ Tkn ow w b M qm tm nm gr wt gv lo wa sq st w' := by
  have hne : b ≠ M := by
    rintro rfl
    have := q.blk.symm.trans mg
    simp at this
  obtain ⟨g, off, cap, cur, rfl, hg, hle, hcm, hsz, hcur⟩ : ∃ g off cap cur, wv = .slice (some ⟨g, off, none⟩) (r :: wt).length cap ∧ w.heap[g]? = some (.cells cur 83 (0, 0)) ∧ (r :: wt).length ≤ cap ∧ cap ≤ maxLen ∧ off + cap * 4 ≤ cur.size ∧ ∀ j u, (rcs (r :: wt))[j]? = some u → cur[off + j]? = some u := by
    rcases q.wrow with ⟨_, h0⟩ | h
    · cases h0
    · exact h
  have hbl := heap_lt q.blk
  have hgl := heap_lt hg
  have hMl := heap_lt mg
  have hbg : b ≠ g := q.ne_wrow rfl
  obtain ⟨c0, c1, c2, c3, c4, c5, c6, c7, fz⟩ := q.c
  obtain ⟨m0, m1, m2, m3, m4, m5, m6, m7, m8, mz⟩ := mg.c
  obtain ⟨x0, x1, x2, x3⟩ := seg_cells (i := 0) (r := r) hg hcur rfl
  simp only [Nat.zero_mul, Nat.add_zero] at x0 x1 x2 x3
  have hMg : M ≠ g := by
    rintro rfl
    have := hg.symm.trans mg
    simp at this
  obtain ⟨k, hk⟩ : ∃ k, wt.length = k := ⟨_, rfl⟩
  have hl1 : (r :: wt).length = k + 1 := by rw [List.length_cons, hk]
  rw [hl1] at c2 hle
  have q' := q
  rw [hl1] at q'
  rw [hk] at hlen
  obtain ⟨A, hA, hseg⟩ : ∃ A : Addr, (if cap = 1 then some (⟨g, off, none⟩ : Addr) else some ⟨g, off + 4, none⟩) = some A ∧ Hid (A.block = g ∧ ∀ w', w'.heap[g]? = w.heap[g]? → Seg w' (.slice (some A) k (cap - 1)) wt) := by
    by_cases h : cap = 1
    · refine ⟨⟨g, off, none⟩, by simp [h], rfl, fun w' hw => .inr ⟨g, off, cap - 1, cur, by rw [hk], hw.trans hg, by omega, by omega, by omega, fun j u hu => ?_⟩⟩
      have : wt = [] := List.length_eq_zero_iff.1 (by omega)
      subst this
      simp [rcs] at hu
    · refine ⟨⟨g, off + 4, none⟩, by simp [h], rfl, fun w' hw => .inr ⟨g, off + 4, cap - 1, cur, by rw [hk], hw.trans hg, by omega, by omega, by omega, fun j u hu => ?_⟩⟩
      rw [show off + 4 + j = off + (4 + j) by omega]
      refine hcur _ _ ?_
      rw [rcs_cons, List.getElem?_append_right (by simp [rc])]
      simpa [rc] using hu
  have hp := cnt_pos (l := r :: wt) (i := 0) (r := r) rfl
  have hq0 := cnt_le 0 (r :: wt)
  have hq1 := cnt_le 1 (r :: wt)
  rw [hl1] at hq0 hq1
  have FIN : Aside (Tkn ow w b M qm tm nm gr wt gv lo wa sq st ((((w.setCell ⟨b, 5 + r.m, none⟩ (.int .i64 ((cnt r.m (r :: wt) : Nat) - 1))).setCell ⟨M, 6, none⟩ (.int .i64 (wa - 1))).setCell ⟨b, 2, none⟩ (.slice (some A) k (cap - 1))))) := by
    have hk2 : ∀ k', k' ≠ b → k' ≠ M → ((((w.setCell ⟨b, 5 + r.m, none⟩ (.int .i64 ((cnt r.m (r :: wt) : Nat) - 1))).setCell ⟨M, 6, none⟩ (.int .i64 (wa - 1))).setCell ⟨b, 2, none⟩ (.slice (some A) k (cap - 1)))).heap[k']? = w.heap[k']? := fun k' h1 h2 => by
      rw [hset_other _ _ _ (Ne.symm h1), hset_other _ _ _ (Ne.symm h2), hset_other _ _ _ (Ne.symm h1)]
    have hAb : (Value.slice (some A) k (cap - 1)).ownBlock = some g := by rw [← hseg.out.1]; rfl
    refine ⟨.slice (some A) k (cap - 1), (((Fr.refl hf [b, M]).setCell (.inr ⟨b, q.own, by simp⟩) _ _).setCell (.inr ⟨M, hoM, by simp⟩) _ _).setCell (.inr ⟨b, q.own, by simp⟩) _ _, ⟨?_, q.own, ?_, q.gown, ?_, ?_, ?_⟩, ?_⟩
    · have h0 := hset_same q.blk (5 + r.m) (.int .i64 ((cnt r.m (r :: wt) : Nat) - 1))
      have h1 := (hset_other (w.setCell ⟨b, 5 + r.m, none⟩ (.int .i64 ((cnt r.m (r :: wt) : Nat) - 1))) ⟨M, 6, none⟩ (.int .i64 (wa - 1)) (k := b) (Ne.symm hne)).trans h0
      have h2 := hset_same h1 2 (.slice (some A) k (cap - 1))
      rw [h2]
      have e0 := cnt_erase 0 (r :: wt) 0 r rfl
      have e1 := cnt_erase 1 (r :: wt) 0 r rfl
      have e0' := congrArg (Nat.cast (R := Int)) e0
      have e1' := congrArg (Nat.cast (R := Int)) e1
      obtain ⟨ry, rm, ru⟩ := r
      simp only at hrm e0' e1' ⊢
      rcases (by omega : rm = 0 ∨ rm = 1) with rfl | rfl
      · simp at e0' e1' ⊢; omega
      · simp at e0' e1' ⊢; omega
    · exact ownsRow_same q.grow (fun g' e => hk2 g' (Ne.symm (q.ne_row e)) (fun h => by
        have h1 := q.gown g' e
        rw [h, hoM] at h1
        injection h1 with h1
        exact hne h1.symm))
    · exact hseg.out.2 _ (hk2 g (Ne.symm hbg) (Ne.symm hMg))
    · intro g' e
      rw [hAb] at e
      cases e
      exact q.wown g rfl
    · intro g' e e2
      rw [hAb] at e2
      cases e2
      exact q.ne g e rfl
    · have h0 := (hset_other w ⟨b, 5 + r.m, none⟩ (.int .i64 ((cnt r.m (r :: wt) : Nat) - 1)) (k := M) hne).trans mg
      have h1 := hset_same h0 6 (.int .i64 (wa - 1))
      have h2 := (hset_other ((w.setCell ⟨b, 5 + r.m, none⟩ (.int .i64 ((cnt r.m (r :: wt) : Nat) - 1))).setCell ⟨M, 6, none⟩ (.int .i64 (wa - 1))) ⟨b, 2, none⟩ (.slice (some A) k (cap - 1)) (k := M) hne).trans h1
      unfold Mg
      rw [h2]
      simp
  have z2 := fz 2
  have z5 := fz 5
  have z6 := fz 6
  have n6 := mz 6
  unfold tal at c7
  have HO : Aside (ow M = some M) := hoM
  obtain ⟨ry, rm, ru⟩ := r
  unfold rv
  simp only at hrm x0 x1 x2 hp FIN ⊢
  have hcap1 : 1 ≤ cap := by omega
  clear q q' mg hf hoM hg hcur hsz hk hl1 m0 m1 m2 m3 m4 m5 m7 m8 c0 c1 c3 c4 fz mz hcm hseg
  rcases (by omega : rm = 0 ∨ rm = 1) with rfl | rfl
  all_goals
    go_enter Ybad.func43, Ybad.ntmps43
    go_wp2
    go_region
    go_wp2
    refine bodyPost_ret (by simp [results, Ybad.results43, go_sem]; rfl) rfl ⟨?_, ?_⟩
    · rfl
    · exact ((FIN.out.alloc _ HO.out).alloc _ HO.out).drew

end Go.Proofs.YbulkbcpiDoor.rel
