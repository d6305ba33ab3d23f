/-
  Seat b2686aD: a record of a transaction that holds nothing and waits for nothing is dropped.
-/
import Derived.Test.YbulkbcpiDoorRDrop
namespace Go.Proofs.YbulkbcpiDoor.rel
open Go.RowKit

def Fgt (ow : Nat → Option Nat) (w : World) (M qm tm : Nat) (s : St) (y : Nat) (w' : World) : Prop :=
  ∃ ow' tb' st', FrX ow w ow' w' M qm tm s { s with tb := tb', st := st' } ∧ Rep ow' w' M qm tm { s with tb := tb', st := st' } ∧ (tb' = s.tb ∨ (tb' = upd s.tb y none ∧ s.hl y = [] ∧ s.wl y = none))

theorem row_form {w : World} {T : TypeId} {v : Value} {n : Nat} {xs : List Value} (h : w.ownsRow 0 T 1 v n xs) : ∃ a c, v = .slice a n c := by
  rcases h.2 with ⟨rfl, rfl⟩ | ⟨g, cap, cur, rfl, _⟩
  · exact ⟨none, 0, rfl⟩
  · exact ⟨_, cap, rfl⟩

theorem row_ne_map {w : World} {T : TypeId} {v : Value} {n : Nat} {xs : List Value} (h : w.ownsRow 0 T 1 v n xs) {kt lit N b f} (p : PM w kt lit N b f) : ∀ g, v.ownBlock = some g → g ≠ b := by
  intro g hg
  rcases h.2 with ⟨rfl, rfl⟩ | ⟨g', cap, cur, rfl, _, h2, _⟩
  · cases hg
  · simp [Value.ownBlock] at hg
    subst hg
    exact p.blkne h2

/-- 'spareTxn' on the whole manager, of a record in no map. -/
theorem spareTxnR {ow : Nat → Option Nat} {w : World} {M qm tm : Nat} {s : St} (h : Rep ow w M qm tm s) {t : Nat} (hd : t ∉ dom M qm tm s) {hdl wt : List Nat} {hv wv : Value} (x : Tx ow w t hdl wt hv wv) :
    Calls Ybad.prog 24 #[.pointer (some ⟨M, 0, none⟩), .pointer (some ⟨t, 0, none⟩)] w fun e w' => e = .returned (.tuple #[]) ∧ ∃ ow' st', Rep ow' w' M qm tm { s with st := st' } ∧ Fr ow w ow' w' [M, tm, t] ∧ (∀ c ∈ st', c ∈ s.st ∨ c = t) := by
  obtain ⟨sqv, stv, mg, ⟨r1, o1⟩, ⟨r2, o2⟩⟩ := h.mg
  have htt : tm ≠ t := fun e => hd (mem_dom.2 (.inr (.inr (.inl e.symm))))
  refine (spareTxn mg h.oM r2 o2 h.fresh x htt (Ne.symm (h.pt.blkne mg)) h.stl h.ot h.pt.lt (row_ne_map r2 h.pt)).mono ?_
  rintro e w' ⟨rfl, sp⟩
  exact ⟨rfl, h.spT hd x mg sp⟩

/-- 'spareQueue' on the whole manager, of a queue in no map. -/
theorem spareQueueR {ow : Nat → Option Nat} {w : World} {M qm tm : Nat} {s : St} (h : Rep ow w M qm tm s) {b : Nat} (hd : b ∉ dom M qm tm s) {nm : ByteArray} {gr wt : List Req} {tp gv wv : Value} (q : Qu ow w b nm gr wt tp gv wv) :
    Calls Ybad.prog 44 #[.pointer (some ⟨M, 0, none⟩), .pointer (some ⟨b, 0, none⟩)] w fun e w' => e = .returned (.tuple #[]) ∧ ∃ ow' sq', Rep ow' w' M qm tm { s with sq := sq' } ∧ Fr ow w ow' w' [M, qm, b] ∧ (∀ c ∈ sq', c ∈ s.sq ∨ c = b) := by
  obtain ⟨sqv, stv, mg, ⟨r1, o1⟩, ⟨r2, o2⟩⟩ := h.mg
  have htt : qm ≠ b := fun e => hd (mem_dom.2 (.inr (.inl e.symm)))
  refine (spareQueue mg h.oM r1 o1 h.fresh q htt (Ne.symm (h.pq.blkne mg)) h.sql h.oq h.pq.lt (row_ne_map r1 h.pq)).mono ?_
  rintro e w' ⟨rfl, sp⟩
  exact ⟨rfl, h.spQ hd mg sp⟩

theorem dom_st {M qm tm : Nat} {s : St} {st' : List Nat} {x : Nat} (h : x ∈ dom M qm tm { s with st := st' }) : x ∈ dom M qm tm s ∨ x ∈ st' := by
  rcases mem_dom.1 h with e | e | e | e | e | e | e
  · exact .inl (mem_dom.2 (.inl e))
  · exact .inl (mem_dom.2 (.inr (.inl e)))
  · exact .inl (mem_dom.2 (.inr (.inr (.inl e))))
  · exact .inl (mem_dom.2 (.inr (.inr (.inr (.inl e)))))
  · exact .inl (mem_dom.2 (.inr (.inr (.inr (.inr (.inl e))))))
  · exact .inl (mem_dom.2 (.inr (.inr (.inr (.inr (.inr (.inl e)))))))
  · exact .inr e

theorem dom_sq {M qm tm : Nat} {s : St} {sq' : List Nat} {x : Nat} (h : x ∈ dom M qm tm { s with sq := sq' }) : x ∈ dom M qm tm s ∨ x ∈ sq' := by
  rcases mem_dom.1 h with e | e | e | e | e | e | e
  · exact .inl (mem_dom.2 (.inl e))
  · exact .inl (mem_dom.2 (.inr (.inl e)))
  · exact .inl (mem_dom.2 (.inr (.inr (.inl e))))
  · exact .inl (mem_dom.2 (.inr (.inr (.inr (.inl e)))))
  · exact .inl (mem_dom.2 (.inr (.inr (.inr (.inr (.inl e))))))
  · exact .inr e
  · exact .inl (mem_dom.2 (.inr (.inr (.inr (.inr (.inr (.inr e)))))))

theorem dom_tb {M qm tm : Nat} {s : St} {y : Nat} {hl' : Nat → List Nat} {wl' : Nat → Option Nat} {x : Nat} (h : x ∈ dom M qm tm { s with tb := upd s.tb y none, hl := hl', wl := wl' }) : x ∈ dom M qm tm s := by
  rcases mem_dom.1 h with e | e | e | e | ⟨z, hz, e⟩ | e | e
  · exact mem_dom.2 (.inl e)
  · exact mem_dom.2 (.inr (.inl e))
  · exact mem_dom.2 (.inr (.inr (.inl e)))
  · exact mem_dom.2 (.inr (.inr (.inr (.inl e))))
  · by_cases ez : z = y
    · subst ez; simp only [upd_same] at e; cases e
    · simp only [upd_ne _ _ ez] at e; exact mem_dom.2 (.inr (.inr (.inr (.inr (.inl ⟨z, hz, e⟩)))))
  · exact mem_dom.2 (.inr (.inr (.inr (.inr (.inr (.inl e))))))
  · exact mem_dom.2 (.inr (.inr (.inr (.inr (.inr (.inr e))))))

theorem dom_qb {M qm tm : Nat} {s : St} {i : Nat} {x : Nat} (h : x ∈ dom M qm tm { s with qb := upd s.qb i none }) : x ∈ dom M qm tm s := by
  rcases mem_dom.1 h with e | e | e | ⟨z, hz, e⟩ | e | e | e
  · exact mem_dom.2 (.inl e)
  · exact mem_dom.2 (.inr (.inl e))
  · exact mem_dom.2 (.inr (.inr (.inl e)))
  · by_cases ez : z = i
    · subst ez; simp only [upd_same] at e; cases e
    · simp only [upd_ne _ _ ez] at e; exact mem_dom.2 (.inr (.inr (.inr (.inl ⟨z, hz, e⟩))))
  · exact mem_dom.2 (.inr (.inr (.inr (.inr (.inl e)))))
  · exact mem_dom.2 (.inr (.inr (.inr (.inr (.inr (.inl e))))))
  · exact mem_dom.2 (.inr (.inr (.inr (.inr (.inr (.inr e))))))

set_option maxRecDepth 50000 in
set_option maxHeartbeats 4000000 in
theorem forgetIfIdle {ow : Nat → Option Nat} {w : World} {M qm tm : Nat} {s : St} (h : Rep ow w M qm tm s) {y t : Nat} (hy : y < 4) (ht : s.tb y = some t) :
    Calls Ybad.prog 22 #[.pointer (some ⟨M, 0, none⟩), .int .i64 (y : Int), .pointer (some ⟨t, 0, none⟩)] w fun e w' => e = .returned (.tuple #[]) ∧ Fgt ow w M qm tm s y w' := by
  obtain ⟨hv, wv, x⟩ := h.ts y hy t ht
  obtain ⟨sqv, stv, mg, _, _⟩ := h.mg
  have htl := heap_lt x.blk
  have hMl := heap_lt mg
  have m1 : w.cell? ⟨M, 1, none⟩ = some (.map (some tm)) := mg.c.2.1
  obtain ⟨ha, hc, rfl⟩ := row_form x.hrow
  obtain ⟨wa, wc, rfl⟩ := row_form x.wrow
  obtain ⟨nh, hnh⟩ : ∃ nh, ((s.hl y).map (blk s.qb)).length = nh := ⟨_, rfl⟩
  obtain ⟨nw, hnw⟩ : ∃ nw, ((s.wl y).toList.map (blk s.qb)).length = nw := ⟨_, rfl⟩
  have t0 : w.cell? ⟨t, 0, none⟩ = some (.slice ha nh hc) := by rw [cell_of_row _ _ _ _ _ _ x.blk, hnh]; rfl
  have t1 : w.cell? ⟨t, 1, none⟩ = some (.slice wa nw wc) := by rw [cell_of_row _ _ _ _ _ _ x.blk, hnw]; rfl
  have t2 : w.cell? ⟨t, 2, none⟩ = some (.bool false) := by rw [cell_of_row _ _ _ _ _ _ x.blk]; rfl
  have KEEP : Aside (Fgt ow w M qm tm s y w) := ⟨ow, s.tb, s.st, FrX.refl _ _ _ _ _ _, h, .inl rfl⟩
  by_cases h0 : nh = 0
  · subst h0
    by_cases h1 : nw = 0
    · subst h1
      have ehl : s.hl y = [] := by
        rw [List.length_map] at hnh
        exact List.length_eq_zero_iff.1 hnh
      have ewl : s.wl y = none := by
        rw [List.length_map] at hnw
        cases hw : s.wl y with
        | none => rfl
        | some j => rw [hw] at hnw; simp at hnw
      obtain ⟨w2, hput, pt2, hturn⟩ := h.pt.del keyedI Ybad.underlying55 hy (keyT hy) tlit_inj 0
      have HR : Aside (∀ ty, (Builtin.delete_ #[55, 3] ty #[.map (some tm), .int .i64 (y : Int)]).run Ybad.prog w = .ok (.tuple #[]) w2) := by
        intro ty
        obtain ⟨w2', hput', _⟩ := h.pt.del keyedI Ybad.underlying55 hy (keyT hy) tlit_inj ty
        have : (Builtin.delete_ #[55, 3] ty #[.map (some tm), .int .i64 (y : Int)]) = (Builtin.delete_ #[55, 3] 0 #[.map (some tm), .int .i64 (y : Int)]) := rfl
        rw [this]; exact hput
      obtain ⟨R2, F2, nd, e1, e2⟩ := h.dropT hy ht pt2 hturn (hl' := s.hl) (wl' := s.wl) (fun _ _ => rfl) (fun _ _ => rfl)
      have x2 := x.fr F2 (by simp [Ne.symm e1])
      have CALL : Aside (Calls Ybad.prog 24 #[.pointer (some ⟨M, 0, none⟩), .pointer (some ⟨t, 0, none⟩)] w2 fun e w' => e = .returned (.tuple #[]) ∧ Fgt ow w M qm tm s y w') := by
        refine (spareTxnR R2 nd x2).mono ?_
        rintro e w' ⟨rfl, ow', st', R3, F3, hs⟩
        refine ⟨rfl, ow', _, st', ?_, R3, .inr ⟨rfl, ehl, ewl⟩⟩
        refine FrX.of ((F2.trans F3).mono (T := [M, tm, t]) (by simp)) ?_ ?_
        · intro z hz
          simp at hz
          rcases hz with rfl | rfl | rfl
          · exact .inl (mem_dom.2 (.inl rfl))
          · exact .inl (mem_dom.2 (.inr (.inr (.inl rfl))))
          · exact .inl (mem_dom.2 (.inr (.inr (.inr (.inr (.inl ⟨y, hy, ht⟩))))))
        · intro z hz hn hm
          rcases dom_st (s := { s with tb := upd s.tb y none, hl := s.hl, wl := s.wl }) hm with e | e
          · exact hn (dom_tb e)
          · rcases hs z e with e | e
            · exact hn (mem_dom.2 (.inr (.inr (.inr (.inr (.inr (.inr e)))))))
            · exact hn (mem_dom.2 (.inr (.inr (.inr (.inr (.inl ⟨y, hy, by rw [e]; exact ht⟩))))))
      clear h x mg hnh hnw hput pt2 hturn R2 F2 nd e1 e2 x2 KEEP ehl ewl
      go_enter Ybad.func22, Ybad.ntmps22
      go_wp2_with fail
      refine (isWaiting_some t w wa 0 wc t1).mono ?_
      rintro e w1 ⟨rfl, rfl⟩
      go_wp2_with (refine wpList_delete_run _ rfl (.tmp 27) (.tmp 28) 55 3 rfl _ _ rfl rfl w2 HR.out ?_)
      refine CALL.out.mono ?_
      rintro e w3 ⟨rfl, hE⟩
      have E := hide hE
      clear hE
      go_wp2
      go_end0
      exact ⟨rfl, E.out⟩
    · have hb : (decide (nw ≠ 0)) = true := by simp [h1]
      clear h x mg hnh hnw
      go_enter Ybad.func22, Ybad.ntmps22
      go_wp2_with fail
      refine (isWaiting_some t w wa nw wc t1).mono ?_
      rintro e w1 ⟨rfl, rfl⟩
      rw [hb]
      go_wp2
      go_end0
      exact ⟨rfl, KEEP.out⟩
  · have hb : ¬ (nh : Int) = 0 := by omega
    clear h x mg hnh hnw
    go_enter Ybad.func22, Ybad.ntmps22
    go_wp2
    go_end0
    exact ⟨rfl, KEEP.out⟩

end Go.Proofs.YbulkbcpiDoor.rel
