/-
  Seat b2686aD: the waiting requests of one queue are granted as far as may be.
-/
import Derived.Test.YbulkbcpiDoorRGq
namespace Go.Proofs.YbulkbcpiDoor.rel
open Go.RowKit

theorem appG {w : World} {v : Value} {n : Nat} {xs : List Value} (h : w.ownsRow 0 50 2 v n xs) (y : Nat) (nm : ByteArray) :
    Hid ((w.alloc (.cells #[.int .i64 (y : Int), .string nm] 50)).drew.ownsRow 0 50 2 v n xs) ∧ Hid ([Value.int .i64 (y : Int), .string nm].length = 1 * 2) ∧
    Hid (∀ j u, [Value.int .i64 (y : Int), .string nm][j]? = some u → (w.alloc (.cells #[.int .i64 (y : Int), .string nm] 50)).drew.cell? ((⟨w.heap.size, 0, none⟩ : Addr).add j) = some u) ∧ Hid (∀ u ∈ [Value.int .i64 (y : Int), .string nm], u.oneCell' = true) := by
  refine ⟨h.alloc _, rfl, ?_, ?_⟩
  · exact World.news_of_block (w := (w.alloc (.cells #[.int .i64 (y : Int), .string nm] 50)).drew) (B := w.heap.size) (cs := #[.int .i64 (y : Int), .string nm]) (t := 50) (fr := (0, 0)) (heap_new w _)
  · intro u hu
    simp at hu
    rcases hu with rfl | rfl <;> rfl

section
variable {ow : Nat → Option Nat} {w : World} {M qm tm : Nat} {s : St} {i b : Nat} {E : Nat → Prop}

structure LoopI (ow : Nat → Option Nat) (W : World) (M qm tm : Nat) (E : Nat → Prop) (s : St) (gs0 : List (Nat × Nat)) (gv : Value) (ow' : Nat → Option Nat) (s' : St) (gs : List (Nat × Nat)) (v1 : Value) (wr : World) : Prop where
  fr : FrG ow W ow' wr M qm tm s s' gv v1
  rep : Rep ow' wr M qm tm s'
  inv : Inv E NoE s'
  run : Gs s s' gs
  row : GRow wr v1 (gs0 ++ gs)
  qb : s'.qb = s.qb

def GQ (ow : Nat → Option Nat) (w : World) (M qm tm : Nat) (E : Nat → Prop) (s : St) (i : Nat) (gs0 : List (Nat × Nat)) (gv v' : Value) (w' : World) : Prop :=
  ∃ ow' s' gs, FrG ow w ow' w' M qm tm s s' gv v' ∧ Rep ow' w' M qm tm s' ∧ Inv (fun j => E j ∧ j ≠ i) NoE s' ∧ Gs s s' gs ∧ GRow w' v' (gs0 ++ gs) ∧ ∀ j, j ≠ i → s'.qb j = s.qb j

set_option maxRecDepth 50000 in
set_option maxHeartbeats 4000000 in
theorem grantQueue (h : Rep ow w M qm tm s) (I : Inv E NoE s) (hE : E i) (hi : i < 3) (hb : s.qb i = some b) {gs0 : List (Nat × Nat)} {gv : Value} (hrow : GRow w gv gs0) (hgo : ∀ k, gv.ownBlock = some k → ow k = none) (hl0 : gs0.length + s.wa ≤ 100) :
    Calls Ybad.prog 31 #[.pointer (some ⟨M, 0, none⟩), gv, .slice none 0 0, .pointer (some ⟨b, 0, none⟩)] w fun e w' => ∃ v', e = .returned (.tuple #[v', .slice none 0 0]) ∧ GQ ow w M qm tm E s i gs0 gv v' w' := by
  obtain ⟨W, hW⟩ : ∃ W, W = w.alloc (.cells #[.int .i64 0, .int .i64 0] 85) := ⟨_, rfl⟩
  have F0 : Fr ow w ow W [] := by rw [hW]; exact (Fr.refl h.fresh []).alloc _
  have X0 : FrX ow w ow W M qm tm s s := FrX.of F0 (by simp) (fun _ _ hn => hn)
  have G0 : FrG ow w ow W M qm tm s s gv gv := (FrG.refl ow w M qm tm s hgo).frx (fun g e => hrow.lt e) X0
  have START : Aside (LoopI ow W M qm tm E s gs0 gv ow s [] gv W) := ⟨FrG.refl ow W M qm tm s hgo, h.still F0, I, Gs.refl s, by rw [List.append_nil]; exact hrow.same (fun g e => F0.keep g (hrow.lt e) (fun _ _ hm => by simp at hm)), rfl⟩
  have GG0 : Aside (FrG ow w ow W M qm tm s s gv gv) := G0
  have LEFT : Aside (∀ ow' s' gs v1 wr, LoopI ow W M qm tm E s gs0 gv ow' s' gs v1 wr → wr.cell? ⟨w.heap.size, 0, none⟩ = some (.int .i64 0) ∧ wr.cell? ⟨w.heap.size, 1, none⟩ = some (.int .i64 0) ∧ w.heap.size < wr.heap.size) := by
    intro ow' s' gs v1 wr L
    have hWb : W.heap[w.heap.size]? = some (.cells #[.int .i64 0, .int .i64 0] 85 (0, 0)) := by rw [hW]; exact heap_new w _
    have hk := L.fr.keep _ (heap_lt hWb) (fun e => by have := hrow.lt e; omega) (.inl (h.fresh _ (Nat.le_refl _)))
    rw [hWb] at hk
    refine ⟨?_, ?_, heap_lt hk⟩ <;> rw [cell_of_row _ _ _ _ _ _ hk] <;> rfl
  have HE : Aside (E i) := hE
  have HB : Aside (s.qb i = some b) := hb
  have HL0 : Aside (gs0.length + s.wa ≤ 100) := hl0
  obtain ⟨ga, gcp, hgv⟩ := hrow.form
  clear h I hE hb hrow hgo hl0 F0 X0 G0
  subst hgv
  obtain ⟨n0, hn0⟩ : ∃ n0, gs0.length = n0 := ⟨_, rfl⟩
  rw [hn0] at START GG0 LEFT ⊢
  clear hn0
  go_enter Ybad.func31, Ybad.ntmps31
  go_wp2
  rw [← hW]
  clear hW
  go_loopw [1, 2, 11] (fun v sv iv wr => ∃ ow' s' gs v1, v1 = v ∧ sv = .slice none 0 0 ∧ iv = .int .i64 0 ∧ LoopI ow W M qm tm E s gs0 (.slice ga n0 gcp) ow' s' gs v1 wr) (fun _ _ _ wr => lenOf ((wr.cell? ⟨b, 2, none⟩).getD undef))
  case atStart => exact ⟨ow, s, [], _, rfl, rfl, rfl, START.out⟩
  case round =>
    obtain ⟨ow', s', gs, v1, rfl, rfl, rfl, hL⟩ := hrel
    clear START
    have hqb : s'.qb i = some b := by rw [hL.qb]; exact HB.out
    obtain ⟨qg, qw, q⟩ := hL.rep.qs i hi b hqb
    obtain ⟨c0, c1, c2, -⟩ := q.c
    have bl := heap_lt q.blk
    obtain ⟨lf0, lf1, lfl⟩ := LEFT.out _ _ _ _ _ hL
    obtain ⟨va, vc, rfl⟩ := hL.row.form
    obtain ⟨n1, hn1⟩ : ∃ n1, (gs0 ++ gs).length = n1 := ⟨_, rfl⟩
    rw [hn1] at hL ⊢
    have LP : Aside (LoopI ow W M qm tm E s gs0 (.slice ga n0 gcp) ow' s' gs (.slice va n1 vc) wr) := hL
    have QQ : Aside (Qu ow' wr b (name i) (s'.gr i) (s'.wt i) (tal M) qg qw) := q
    -- the ways out that drop nothing
    have EXIT : Aside (∀ wx, Below wr.heap.size wr wx → (s'.gr i = [] → s'.wt i = []) → GQ ow w M qm tm E s i gs0 (.slice ga n0 gcp) (.slice va n1 vc) wx) := by
      intro wx bx hs
      have L := LP.out
      have f := fr_below bx L.rep.fresh
      have fx : FrX ow' wr ow' wx M qm tm s' s' := FrX.of f (by simp) (fun _ _ hn => hn)
      exact ⟨ow', s', gs, (GG0.out.trans L.fr).frx (fun g e => L.row.lt e) fx, L.rep.still f, inv_exit L.inv hi hs, L.run, L.row.same (fun g e => bx.block g (L.row.lt e)), fun j _ => by rw [L.qb]⟩
    obtain ⟨nm, hnm⟩ : ∃ nm, name i = nm := ⟨_, rfl⟩
    have NM : Aside (name i = nm) := hnm
    rw [hnm] at c0
    have HQB : Aside (s'.qb i = some b) := hqb
    have hn100 : n1 ≤ 100 := by
      have h1 := hL.run.cnt
      have h2 := HL0.out
      rw [← hn1, List.length_append]
      omega
    have HN1 : Aside ((gs0 ++ gs).length = n1) := hn1
    clear hL hn1 hnm hqb
    cases hwt : s'.wt i with
    | nil =>
      obtain ⟨wa, wc, rfl⟩ : ∃ a c, qw = .slice a 0 c := by
        rcases q.wrow with ⟨rfl, _⟩ | ⟨g, off, cap, cur, rfl, _⟩
        · exact ⟨_, _, rfl⟩
        · rw [hwt]; exact ⟨_, _, rfl⟩
      cases hgr : s'.gr i with
      | nil =>
        obtain ⟨ka, kc, rfl⟩ : ∃ a c, qg = .slice a 0 c := by
          rcases q.grow.2 with ⟨rfl, _⟩ | ⟨g, cap, cur, rfl, _⟩
          · exact ⟨_, _, rfl⟩
          · rw [hgr]; exact ⟨_, _, rfl⟩
        have L := LP.out
        have fd : Fr ow' wr ow' wr.drew [] := (Fr.refl L.rep.fresh []).drew
        have hD := L.rep.still fd
        obtain ⟨sqv, stv, mg, _, _⟩ := L.rep.mg
        have m0 : wr.cell? ⟨M, 0, none⟩ = some (.map (some qm)) := mg.c.1
        have Ml := heap_lt mg
        obtain ⟨w2, hdel0, pq2, hturn⟩ := hD.pq.del keyedS Ybad.underlying54 hi (keyQ hi) qlit_inj 0
        have hdel : ∀ ty, (Builtin.delete_ #[54, 9] ty #[.map (some qm), .string nm]).run Ybad.prog wr.drew = .ok (.tuple #[]) w2 := fun ty => by rw [← NM.out]; exact hdel0
        have hfree : ∀ y, y < 4 → ∀ t, s'.tb y = some t → i ∉ s'.hl y ∧ s'.wl y ≠ some i := by
          intro y hy t _
          constructor
          · intro hm
            have := (L.inv.hold i hi y hy).2 hm
            rw [hgr] at this; cases this
          · intro e
            have := (L.inv.wait i hi y hy).2 e
            rw [hwt] at this; cases this
        obtain ⟨R2, F2, nd, e1, e2⟩ := hD.dropQ hi HQB.out pq2 hturn hfree
        have q2 := (QQ.out.fr fd (by simp)).fr F2 (by simp [Ne.symm e1])
        have CALL : Aside (Calls Ybad.prog 44 #[.pointer (some ⟨M, 0, none⟩), .pointer (some ⟨b, 0, none⟩)] w2 fun e w' => e = .returned (.tuple #[]) ∧ GQ ow w M qm tm E s i gs0 (.slice ga n0 gcp) (.slice va n1 vc) w') := by
          refine (spareQueueR R2 nd q2).mono ?_
          rintro e w' ⟨rfl, ow3, sq', R3, F3, hs⟩
          have fx : FrX ow' wr ow3 w' M qm tm s' { s' with qb := upd s'.qb i none, sq := sq' } := by
            refine FrX.of (((fd.trans F2).trans F3).mono (T := [M, qm, b]) (by simp)) ?_ ?_
            · intro z hz
              simp at hz
              rcases hz with rfl | rfl | rfl
              · exact .inl (mem_dom.2 (.inl rfl))
              · exact .inl (mem_dom.2 (.inr (.inl rfl)))
              · exact .inl (mem_dom.2 (.inr (.inr (.inr (.inl ⟨i, hi, HQB.out⟩)))))
            · intro z hz hn hm
              rcases dom_sq (s := { s' with qb := upd s'.qb i none }) hm with e | e
              · exact hn (dom_qb e)
              · rcases hs z e with e | e
                · exact hn (mem_dom.2 (.inr (.inr (.inr (.inr (.inr (.inl e)))))))
                · exact hn (mem_dom.2 (.inr (.inr (.inr (.inl ⟨i, hi, by rw [e]; exact HQB.out⟩)))))
          refine ⟨rfl, ow3, _, gs, (GG0.out.trans L.fr).frx (fun g e => L.row.lt e) fx, R3, ?_, ⟨L.run.mono, L.run.new, L.run.each, L.run.nd, L.run.rest, L.run.cnt⟩, L.row.same (fun g e => fx.keep g (L.row.lt e) (.inl (L.fr.pos g e).2)), fun j hj => ?_⟩
          · refine (inv_exit L.inv hi (fun _ => hwt)).frame rfl rfl rfl rfl rfl rfl (inv_exit L.inv hi (fun _ => hwt)).emp (fun j hj e => ?_) L.inv.tn
            by_cases ej : j = i
            · subst ej; exact ⟨hgr, hwt⟩
            · simp only [upd_ne _ _ ej] at e; exact L.inv.qn j hj e
          · show upd s'.qb i none j = s.qb j
            rw [upd_ne _ _ hj, L.qb]
        clear LP QQ EXIT L fd hD mg hdel0 pq2 hturn hfree R2 F2 nd e1 e2 q2 GG0 LEFT q hwt hgr
        go_wp2
        go_region
        go_wp2_with fail
        refine CALL.out.mono ?_
        rintro e w3 ⟨rfl, hE⟩
        have E := hide hE
        clear hE
        go_wp2
        go_ret2
        exact ⟨_, rfl, E.out⟩
      | cons a l =>
        obtain ⟨ka, kn, kc, hk0, rfl⟩ : ∃ a n c, (n : Nat) ≠ 0 ∧ qg = .slice a n c := by
          rcases q.grow.2 with ⟨_, h0⟩ | ⟨g, cap, cur, rfl, _⟩
          · rw [hgr] at h0; simp at h0
          · rw [hgr]; exact ⟨_, _, _, by simp, rfl⟩
        have hkb : ((kn : Int) == 0) = false := by rw [beq_eq_false_iff_ne]; omega
        have E := hide (EXIT.out wr (Below.refl _ _) (fun _ => hwt))
        clear LP QQ EXIT GG0 LEFT q hwt hgr
        go_wp2
        go_ret2
        exact ⟨_, rfl, E.out⟩
    | cons r wt =>
      obtain ⟨g, off, cap, cur, rfl, hg, hle, hcm, hsz, hcur⟩ : ∃ g off cap cur, qw = .slice (some ⟨g, off, none⟩) (r :: wt).length cap ∧ wr.heap[g]? = some (.cells cur 83 (0, 0)) ∧ (r :: wt).length ≤ cap ∧ cap ≤ maxLen ∧ off + cap * 4 ≤ cur.size ∧ ∀ j u, (rcs (r :: wt))[j]? = some u → cur[off + j]? = some u := by
        rcases q.wrow with ⟨_, h0⟩ | h
        · rw [hwt] at h0; cases h0
        · rw [hwt] at h; exact h
      have ok := LP.out.inv.qok i hi
      rw [hwt] at ok
      have hlen := ok.len
      have GR : Aside (Calls Ybad.prog 42 #[.pointer (some ⟨b, 0, none⟩), .int .i64 0, .agg #[.int .i64 0, .int .i64 0]] wr fun e w' => e = .returned (.bool (may (s'.gr i) r)) ∧ Below wr.heap.size wr w') := by
        have := QQ.out
        rw [hwt] at this
        exact grantable this (by omega)
      obtain ⟨nw, hnw⟩ : ∃ nw, wt.length = nw := ⟨_, rfl⟩
      rw [List.length_cons, hnw] at c2 hle
      have hnwb : (0 : Int) < (nw : Int) + 1 := by omega
      have HWT : Aside (s'.wt i = r :: wt) := hwt
      have HNW : Aside (wt.length = nw) := hnw
      have CELLS : Aside (wr.cell? ⟨g, off, none⟩ = some (.int .i64 (r.y : Int)) ∧ wr.cell? ⟨g, off + 1, none⟩ = some (.int .i64 (r.m : Int)) ∧ wr.cell? ⟨g, off + 2, none⟩ = some (.bool r.u) ∧ wr.cell? ⟨g, off + 3, none⟩ = some (.bool false)) := by
        have := seg_cells hg hcur (r := r) (i := 0) rfl
        simp only [Nat.zero_mul, Nat.add_zero] at this
        exact this
      have gl := heap_lt hg
      have OK : Aside (QOK (s'.gr i) (r :: wt)) := ok
      clear hg hcur hcm hsz ok hlen q hnw
      go_wp2_with fail
      refine GR.out.mono ?_
      rintro e w1 ⟨rfl, hbel⟩
      cases hmay : may (s'.gr i) r with
      | false =>
        have hne := may_nil LP.out.inv hi hwt hmay
        obtain ⟨ka, kn, kc, hk0, rfl⟩ : ∃ a n c, (n : Nat) ≠ 0 ∧ qg = .slice a n c := by
          rcases QQ.out.grow.2 with ⟨_, h0⟩ | ⟨g, cap, cur, rfl, _⟩
          · exact absurd (List.length_eq_zero_iff.1 h0) hne
          · exact ⟨_, _, _, fun h0 => hne (List.length_eq_zero_iff.1 h0), rfl⟩
        have hkb : ((kn : Int) == 0) = false := by rw [beq_eq_false_iff_ne]; omega
        have E := hide (EXIT.out w1 hbel (fun h0 => absurd h0 hne))
        have d1 : w1.cell? ⟨b, 1, none⟩ = some (.slice ka kn kc) := by rw [hbel.cell (p := ⟨b, 1, none⟩) bl]; exact c1
        have bl1 := Nat.lt_of_lt_of_le bl hbel.size
        clear LP QQ EXIT GG0 LEFT hwt hbel GR CELLS OK c0 c1 c2 lf0 lf1
        go_wp2
        go_ret2
        exact ⟨_, rfl, E.out⟩
      | true =>
        obtain ⟨y, m, u⟩ := r
        have L := LP.out
        have F1 := fr_below hbel L.rep.fresh
        have hy4 : y < 4 := (OK.out.wlt ⟨y, m, u⟩ (by simp)).1
        have hm2 : m < 2 := (OK.out.wlt ⟨y, m, u⟩ (by simp)).2
        have hwl : s'.wl y = some i := (L.inv.wait i hi y hy4).1 (by rw [hwt]; exact (has_cons _ _ _).2 (.inl rfl))
        obtain ⟨t, ht⟩ : ∃ t, s'.tb y = some t := by
          cases hc : s'.tb y with
          | none => have := (L.inv.tn y hy4 (fun e => e) hc).2; rw [hwl] at this; cases this
          | some t => exact ⟨t, rfl⟩
        obtain ⟨s2, hs2⟩ : ∃ s2, s2 = s'.setQ i (s'.gr i) wt s'.lo (s'.wa - 1) := ⟨_, rfl⟩
        obtain ⟨r0, r1, r2, r3⟩ := CELLS.out
        rw [← hbel.cell (p := ⟨g, off, none⟩) gl] at r0
        rw [← hbel.cell (p := ⟨g, off + 1, none⟩) gl] at r1
        rw [← hbel.cell (p := ⟨g, off + 2, none⟩) gl] at r2
        rw [← hbel.cell (p := ⟨g, off + 3, none⟩) gl] at r3
        simp only at r0 r1 r2
        have d2 : w1.cell? ⟨b, 2, none⟩ = some (.slice (some ⟨g, off, none⟩) (nw + 1) cap) := by rw [hbel.cell (p := ⟨b, 2, none⟩) bl]; exact c2
        have bl1 := Nat.lt_of_lt_of_le bl hbel.size
        have gl1 := Nat.lt_of_lt_of_le gl hbel.size
        have FA : Fr ow' wr ow' (w1.alloc (.cells #[.int .i64 (y : Int), .int .i64 (m : Int), .bool u, .bool false] 83)) [] := F1.alloc _
        have TAKE : Aside (Calls Ybad.prog 43 #[.pointer (some ⟨b, 0, none⟩), .int .i64 0] (w1.alloc (.cells #[.int .i64 (y : Int), .int .i64 (m : Int), .bool u, .bool false] 83)) fun e w' => e = .returned (.agg #[.int .i64 (y : Int), .int .i64 (m : Int), .bool u, .bool false]) ∧ To ow' wr M qm tm s' s2 w') := by
          refine (takeR (L.rep.still FA) hi HQB.out hwt hm2 (by have := OK.out.len; simp at this; omega) (L.inv.wa1 hi (by rw [hwt]; simp)) (by have := L.inv.wa12; omega)).mono ?_
          rintro e w' ⟨rfl, to⟩
          rw [hs2]
          exact ⟨rfl, to_fr FA to⟩
        have HWL : Aside (s'.wl y = some i) := hwl
        have HT : Aside (s'.tb y = some t) := ht
        have S2 : Aside (s2 = s'.setQ i (s'.gr i) wt s'.lo (s'.wa - 1)) := hs2
        have MEAS : Aside (lenOf ((wr.cell? ⟨b, 2, none⟩).getD undef) = nw + 1) := by rw [c2]; rfl
        clear L F1 FA hwl ht hs2 hwt hbel CELLS GR EXIT LEFT c0 c1 c2 lf0 lf1
        go_wp2_with fail
        refine TAKE.out.mono ?_
        rintro e w2 ⟨rfl, ow2, f2, h2⟩
        have T2 : s2.tb = s'.tb ∧ s2.hl = s'.hl ∧ s2.wl = s'.wl ∧ s2.qb = s'.qb := by rw [S2.out]; exact ⟨rfl, rfl, rfl, rfl⟩
        have ht2 : s2.tb y = some t := by rw [T2.1]; exact HT.out
        obtain ⟨hv, wv, x⟩ := h2.ts y hy4 t ht2
        have ewl : s2.wl y = some i := by rw [T2.2.2.1]; exact HWL.out
        simp only [ewl, Option.toList_some, List.map_cons, List.map_nil] at x
        obtain ⟨xa, xc, rfl⟩ := row_form x.wrow
        simp only [List.length_singleton] at x
        have t1 := x.c.2.1
        have t1z : w2.frozen? ⟨t, 1, none⟩ = false := frozen_of_row _ _ _ _ _ x.blk
        have tl := heap_lt x.blk
        obtain ⟨sqv, stv, mg, _, _⟩ := h2.mg
        have m1 : w2.cell? ⟨M, 1, none⟩ = some (.map (some tm)) := mg.c.2.1
        have Ml := heap_lt mg
        have FB : Fr ow2 w2 ow2 (w2.alloc (.cells #[.int .i64 (y : Int), .int .i64 (m : Int), .bool u, .bool false] 83)).drew [] := ((Fr.refl h2.fresh []).alloc _).drew
        have hB := h2.still FB
        have hlk : (Instr.lookup 55 (.map (some tm)) (.int .i64 (y : Int)) false).run Ybad.prog (w2.alloc (.cells #[.int .i64 (y : Int), .int .i64 (m : Int), .bool u, .bool false] 83)).drew = .ok (.pointer (some ⟨t, 0, none⟩)) (w2.alloc (.cells #[.int .i64 (y : Int), .int .i64 (m : Int), .bool u, .bool false] 83)).drew := by
          have := lookT hB hy4
          rw [ht2] at this
          exact this
        obtain ⟨F3, x3⟩ := tx_zero (x.fr FB (by simp)) hB.fresh
        rw [World.setCell_drew, World.setCell_alloc_past _ _ _ _ tl] at F3 x3
        have h3 := hB.updT hy4 ht2 F3 (hl' := s2.hl y) (wl' := none) x3
        obtain ⟨W3, hW3⟩ : ∃ W3, W3 = ((w2.setCell ⟨t, 1, none⟩ (.slice xa 0 xc)).alloc (.cells #[.int .i64 (y : Int), .int .i64 (m : Int), .bool u, .bool false] 83)).drew := ⟨_, rfl⟩
        rw [← hW3] at h3 F3
        have I3 : Inv E NoE (s2.setT y (s2.hl y) none) := by
          have := inv_take (r := ⟨y, m, u⟩) LP.out.inv hi HWT.out HE.out
          rw [S2.out]
          exact this
        have FX3 : FrX ow' wr ow2 W3 M qm tm s' (s2.setT y (s2.hl y) none) := by
          refine FrX.trans (FrX.trans f2 (FrX.of FB (by simp) (fun _ _ hn => hn))) (FrX.of F3 ?_ (fun _ _ hn => hn))
          intro z hz
          simp at hz
          subst hz
          exact .inl (mem_dom.2 (.inr (.inr (.inr (.inr (.inl ⟨y, hy4, ht2⟩))))))
        have GRANT : Aside (Calls Ybad.prog 38 #[.pointer (some ⟨M, 0, none⟩), .pointer (some ⟨b, 0, none⟩), .pointer (some ⟨t, 0, none⟩), .agg #[.int .i64 (y : Int), .int .i64 (m : Int), .bool u, .bool false]] W3 fun e w' => e = .returned (.tuple #[]) ∧ GQ1 ow2 W3 M qm tm E (s2.setT y (s2.hl y) none) i y w') := by
          have hg2 : (s2.setT y (s2.hl y) none).gr i = s'.gr i := by
            rw [S2.out]
            show (if i = i then s'.gr i else s'.gr i) = s'.gr i
            simp
          refine grantQ (r := ⟨y, m, u⟩) h3 I3 hi ?_ hy4 hm2 ?_ ?_ ?_ ?_
          · show s2.qb i = some b
            rw [T2.2.2.2]; exact HQB.out
          · show u = true ↔ has ((s2.setT y (s2.hl y) none).gr i) y = true
            rw [hg2]
            exact (OK.out.upg ⟨y, m, u⟩ (by simp)).1
          · exact (OK.out.upg ⟨y, m, u⟩ (by simp)).2
          · show (if y = y then none else s2.wl y) = none
            simp
          · exact ht2
        have BX : Aside (W3.cell? ⟨w2.heap.size, 0, none⟩ = some (.int .i64 (y : Int)) ∧ w2.heap.size < W3.heap.size ∧ ow2 w2.heap.size = none) := by
          have hb3 : W3.heap[w2.heap.size]? = some (.cells #[.int .i64 (y : Int), .int .i64 (m : Int), .bool u, .bool false] 83 (0, 0)) := by
            have := heap_new (w2.setCell ⟨t, 1, none⟩ (.slice xa 0 xc)) (.cells #[.int .i64 (y : Int), .int .i64 (m : Int), .bool u, .bool false] 83)
            rw [hW3]
            have hsz : (w2.setCell ⟨t, 1, none⟩ (.slice xa 0 xc)).heap.size = w2.heap.size := by simp
            rw [hsz] at this
            exact this
          refine ⟨?_, heap_lt hb3, h2.fresh _ (Nat.le_refl _)⟩
          rw [cell_of_row _ _ _ _ _ _ hb3]; rfl
        have FXX : Aside (FrX ow' wr ow2 W3 M qm tm s' (s2.setT y (s2.hl y) none)) := FX3
        clear T2 f2 h2 x mg FB hB F3 x3 h3 I3 FX3 ewl TAKE
        go_wp2
        go_region
        go_wp2_with fail
        rw [← hW3]
        clear hW3 hlk
        refine GRANT.out.mono ?_
        rintro e w4 ⟨rfl, s4, ⟨ow4, f4, h4⟩, I4, gp⟩
        have FX := FXX.out.trans f4
        have L := LP.out
        obtain ⟨qg4, qw4, q4⟩ := h4.qs i hi b (by rw [gp.qb]; show s2.qb i = some b; rw [S2.out]; exact HQB.out)
        have e0 : w4.cell? ⟨b, 0, none⟩ = some (.string nm) := by rw [q4.c.1, NM.out]
        have bl4 := heap_lt q4.blk
        have eB : w4.cell? ⟨w2.heap.size, 0, none⟩ = some (.int .i64 (y : Int)) := by rw [f4.cell (a := ⟨w2.heap.size, 0, none⟩) BX.out.2.1 BX.out.2.2]; exact BX.out.1
        have lB4 := Nat.lt_of_lt_of_le BX.out.2.1 f4.size
        have hrow4 : GRow w4 (.slice va n1 vc) (gs0 ++ gs) := L.row.same (fun k e => FX.keep k (L.row.lt e) (.inl (L.fr.pos k e).2))
        have hrow4' := hrow4
        unfold GRow at hrow4'
        rw [HN1.out] at hrow4'
        obtain ⟨A1, A2, A3, A4⟩ := appG hrow4' y nm
        have GPs : Gs s' s4 [(y, i)] := gp_gs (r := ⟨y, m, u⟩) L.inv hi HWT.out (by rw [S2.out] at gp; exact gp)
        have LEN : Aside (∀ g5 cap5 w5, w5.ownsRow 0 50 2 (.slice (some ⟨g5, 0, none⟩) (n1 + 1) cap5) (n1 + 1) (gcs (gs0 ++ gs) ++ [.int .i64 (y : Int), .string nm]) → (w4.alloc (.cells #[.int .i64 (y : Int), .string nm] 50)).drew.grownBy w5 (Value.slice va n1 vc).ownBlock → ((Value.slice va n1 vc).ownBlock = some g5 ∨ g5 = w4.heap.size + 1) → g5 < w5.heap.size →
            LoopI ow W M qm tm E s gs0 (.slice ga n0 gcp) ow4 s4 (gs ++ [(y, i)]) (.slice (some ⟨g5, 0, none⟩) (n1 + 1) cap5) w5 ∧ lenOf ((w5.cell? ⟨b, 2, none⟩).getD undef) = nw) := by
          intro g5 cap5 w5 k1 k2 k3 k4
          have fC : Fr ow4 w4 ow4 (w4.alloc (.cells #[.int .i64 (y : Int), .string nm] 50)).drew [] := ((Fr.refl h4.fresh []).alloc _).drew
          have G1 : FrG ow W ow4 (w4.alloc (.cells #[.int .i64 (y : Int), .string nm] 50)).drew M qm tm s s4 (.slice ga n0 gcp) (.slice va n1 vc) := (L.fr.frx (fun k e => L.row.lt e) FX).frx (fun k e => hrow4.lt e) (FrX.of fC (by simp) (fun _ _ hn => hn))
          have G2 : FrG ow W ow4 w5 M qm tm s s4 (.slice ga n0 gcp) (.slice (some ⟨g5, 0, none⟩) (n1 + 1) cap5) := G1.grown fC.fresh0 k2 (fun k e => by
            simp [Value.ownBlock] at e
            subst e
            rcases k3 with k3 | k3
            · exact .inl k3
            · exact .inr (by rw [k3]; simp))
          have hkk : ∀ k z, k < w4.heap.size → ow4 k = some z → w5.heap[k]? = w4.heap[k]? := by
            intro k z hk e
            rw [k2.block k (by simp; omega) (fun e2 => ?_)]
            · exact Below.heap_alloc _ _ _ hk
            · have := (G1.pos k e2.symm).2
              rw [e] at this
              cases this
          have q5 := q4.on hkk
          refine ⟨⟨G2, h4.on (by have := k2.size; simp at this; omega) hkk, I4, L.run.trans GPs, ?_, ?_⟩, ?_⟩
          · unfold GRow
            have e1 : (gs0 ++ (gs ++ [(y, i)])).length = n1 + 1 := by rw [← List.append_assoc, List.length_append, HN1.out]; rfl
            have e2 : gcs (gs0 ++ (gs ++ [(y, i)])) = gcs (gs0 ++ gs) ++ gc (y, i) := by rw [← List.append_assoc, gcs_app, gcs_one]
            rw [e1, e2]
            show w5.ownsRow 0 50 2 _ (n1 + 1) (gcs (gs0 ++ gs) ++ [.int .i64 (y : Int), .string (name i)])
            rw [NM.out]
            exact k1
          · rw [gp.qb]
            show s2.qb = s.qb
            rw [S2.out]
            exact L.qb
          · have hw4 : s4.wt i = wt := by
              rw [gp.wt, S2.out]
              show (if i = i then wt else s'.wt i) = wt
              simp
            rw [q5.c.2.2.1]
            rcases q5.wrow with ⟨rfl, h0⟩ | ⟨g', off', cap', cur', rfl, _⟩
            · rw [hw4] at h0
              rw [← HNW.out, h0]; rfl
            · show (s4.wt i).length = nw
              rw [hw4]; exact HNW.out
        clear FX f4 h4 I4 gp q4 hrow4 hrow4' GPs L FXX GRANT BX t1 t1z m1 LP QQ
        obtain ⟨ti, hti, hz0, hz1, hz2⟩ := info_parts Ybad.info50
        go_wp2
        go_region_law (refine step_append_lies _ rfl (.tmp 73) (.tmp 81) 35 rfl 0 50 ti _ 2 24 Ybad.underlying35 hti hz0 hz1 hz2 rfl (by decide) (.slice va n1 vc) n1 (gcs (gs0 ++ gs)) (by simp [Act.eval]) A1.out ⟨w4.heap.size, 0, none⟩ 1 1 [.int .i64 (y : Int), .string nm] (by simp [Act.eval]) A2.out A3.out A4.out (by omega) (by simp only [maxLen]; omega) (by omega) (by omega) (w4.heap.size + 1) (by simp) ?_; intro g5 cap5 w5 hown5 hgrow5 hat5 hlt5; have L5 := hide (LEN.out g5 cap5 w5 hown5 hgrow5 hat5 hlt5); clear hown5 hgrow5 hat5 hlt5)
        all_goals
          clear A1 A2 A3 A4 LEN
          go_simp
          go_wp2
          go_roundw
          case rel =>
            exact ⟨_, _, _, _, rfl, rfl, rfl, L5.out.1⟩
          case measure => simp only [L5.out.2, MEAS.out]; omega

end

end Go.Proofs.YbulkbcpiDoor.rel
