/-
  Seat b2686aD: ReleaseAll.
-/
import Derived.Test.YbulkbcpiDoorRRel
namespace Go.Proofs.YbulkbcpiDoor.rel
open Go.RowKit

/-- What ReleaseAll(x) does, with no Go in sight. -/
structure RAP (s s' : St) (x : Nat) (gs : List (Nat × Nat)) : Prop where
  gone : ∀ i, i < 3 → has (s'.gr i) x = false
  stay : ∀ i, i < 3 → ∀ z, z < 4 → z ≠ x → has (s.gr i) z = true → has (s'.gr i) z = true
  each : ∀ p ∈ gs, p.1 < 4 ∧ p.2 < 3 ∧ p.1 ≠ x ∧ s.wl p.1 = some p.2 ∧ has (s'.gr p.2) p.1 = true ∧ s'.wl p.1 = none
  nd : (gs.map Prod.fst).Nodup
  rest : ∀ y, y < 4 → y ∉ gs.map Prod.fst → s'.wl y = s.wl y
  cnt : s'.wa + gs.length = s.wa

theorem rap_of {s s1 s' : St} {x : Nat} {gs : List (Nat × Nat)} (hx : x < 4) (hg : ∀ i, i < 3 → ∀ z, z < 4 → (has (s1.gr i) z = true ↔ has (s.gr i) z = true ∧ z ≠ x)) (hw : s1.wl = s.wl) (ha : s1.wa = s.wa) (hwl : s.wl x = none) (g : Gs s1 s' gs) : RAP s s' x gs := by
  have hne : ∀ p ∈ gs, p.1 ≠ x := fun p hp e => by
    have := (g.each p hp).2.2.1
    rw [hw, e, hwl] at this
    cases this
  refine ⟨fun i hi => ?_, fun i hi z hz hzx h => g.mono i hi z hz ((hg i hi z hz).2 ⟨h, hzx⟩), fun p hp => ?_, g.nd, fun y hy hn => by rw [g.rest y hy hn, hw], by rw [← ha]; exact g.cnt⟩
  · cases hc : has (s'.gr i) x with
    | false => rfl
    | true =>
      rcases g.new i hi x hx hc with h | h
      · exact absurd rfl ((hg i hi x hx).1 h).2
      · exact absurd rfl (hne _ h)
  · obtain ⟨h1, h2, h3, h4, h5⟩ := g.each p hp
    exact ⟨h1, h2, hne p hp, by rw [← hw]; exact h3, h4, h5⟩

section
variable {ow ow' : Nat → Option Nat} {w w' : World} {M qm tm : Nat} {s s' : St}

theorem Tx.frx {t : Nat} {hd wt : List Nat} {hv wv : Value} (x : Tx ow w t hd wt hv wv) (f : FrX ow w ow' w' M qm tm s s') (hd' : t ∉ dom M qm tm s) : Tx ow' w' t hd wt hv wv := by
  have hl := heap_lt x.blk
  have k : ∀ g, g < w.heap.size → ow g = some t → w'.heap[g]? = w.heap[g]? := fun g hg e => f.keep g hg (.inr ⟨t, e, hl, hd'⟩)
  exact ⟨by rw [k t hl x.own]; exact x.blk, by rw [f.old t hl]; exact x.own, ownsRow_same x.hrow (fun g hg => k g (ownsRow_lt x.hrow hg) (x.hown g hg)), fun g hg => by rw [f.old g (ownsRow_lt x.hrow hg)]; exact x.hown g hg,
    ownsRow_same x.wrow (fun g hg => k g (ownsRow_lt x.wrow hg) (x.wown g hg)), fun g hg => by rw [f.old g (ownsRow_lt x.wrow hg)]; exact x.wown g hg, x.ne⟩

/-- What is said of a transaction that has no record is nothing. -/
theorem Rep.ghost (h : Rep ow w M qm tm s) {y : Nat} (ht : s.tb y = none) (l : List Nat) (o : Option Nat) : Rep ow w M qm tm (s.setT y l o) := by
  refine ⟨h.fresh, h.oM, h.oq, h.ot, h.tq, h.mg, h.pq, h.pt, h.qs, fun z hz b hb => ?_, h.sqs, h.sts, h.qinj, h.tinj, h.sqn, h.stn, h.qsp, h.tsp, h.sql, h.stl⟩
  have hzy : z ≠ y := by
    rintro rfl
    have hb : s.tb z = some b := hb
    rw [ht] at hb; cases hb
  have e1 : (s.setT y l o).hl z = s.hl z := by show (if z = y then l else s.hl z) = s.hl z; rw [if_neg hzy]
  have e2 : (s.setT y l o).wl z = s.wl z := by show (if z = y then o else s.wl z) = s.wl z; rw [if_neg hzy]
  rw [e1, e2]
  exact h.ts z hz b hb

structure RLoop (ow : Nat → Option Nat) (w : World) (M qm tm : Nat) (s s1 : St) (x : Nat) (l : List Nat) (k : Nat) (ow' : Nat → Option Nat) (s' : St) (wr : World) : Prop where
  fr : FrX ow w ow' wr M qm tm s1 s'
  rep : Rep ow' wr M qm tm s'
  inv : Inv (fun j => j ∈ l.take k) (fun y => y = x) s'
  hlx : s'.hl x = l.drop k
  qb : s'.qb = s.qb
  tb : s'.tb x = none
  wl : s'.wl = s.wl
  wa : s'.wa = s.wa
  gr : ∀ i, i < 3 → ∀ z, z < 4 → (has (s'.gr i) z = true ↔ has (s.gr i) z = true ∧ ¬ (z = x ∧ i ∈ l.take k))

theorem rl_step {s1 : St} {x : Nat} {l : List Nat} {k j : Nat} {wr w2 : World} {ow2 : Nat → Option Nat} (hwl : s.wl x = none) (L : RLoop ow w M qm tm s s1 x l k ow' s' wr) (hj : l[k]? = some j) (hj3 : j < 3) {k' : Nat} {r : Req} (hk : (s'.gr j)[k']? = some r) (hr : r.y = x)
    (f : FrX ow' wr ow2 w2 M qm tm s' (s'.setQ j ((s'.gr j).eraseIdx k') (s'.wt j) (s'.lo - if (s'.gr j).length = 1 then 1 else 0) s'.wa)) (rep : Rep ow2 w2 M qm tm (s'.setQ j ((s'.gr j).eraseIdx k') (s'.wt j) (s'.lo - if (s'.gr j).length = 1 then 1 else 0) s'.wa)) :
    RLoop ow w M qm tm s s1 x l (k + 1) ow2 (St.setT (s'.setQ j ((s'.gr j).eraseIdx k') (s'.wt j) (s'.lo - if (s'.gr j).length = 1 then 1 else 0) s'.wa) x ((s'.hl x).erase j) (s'.wl x)) w2 := by
  have hkl := (List.getElem?_eq_some_iff.1 hj).1
  have hdk : l.drop k = j :: l.drop (k + 1) := by rw [List.drop_eq_getElem_cons hkl, (List.getElem?_eq_some_iff.1 hj).2]
  have htk : l.take (k + 1) = l.take k ++ [j] := by rw [List.take_add_one, hj]; rfl
  have ok := L.inv.qok j hj3
  refine ⟨L.fr.trans ⟨f.os, f.tape, f.output, f.size, f.old, f.keep, f.dm⟩, rep.ghost L.tb _ _, (inv_remove L.inv hj3 hk hr (by rw [L.wl]; exact hwl)).weaken (fun i e => ?_), ?_, L.qb, L.tb, ?_, L.wa, fun i hi z hz => ?_⟩
  · rw [htk, List.mem_append, List.mem_singleton]
    exact e
  · show (if x = x then (s'.hl x).erase j else s'.hl x) = _
    rw [if_pos rfl, L.hlx, hdk]
    simp
  · funext z
    show (if z = x then s'.wl x else s'.wl z) = s.wl z
    rw [← L.wl]
    split
    · next e => rw [e]
    · rfl
  · show has (if i = j then (s'.gr j).eraseIdx k' else s'.gr i) z = true ↔ _
    rw [htk]
    by_cases e : i = j
    · subst e
      rw [if_pos rfl, has_erase hk ok.gnd, hr, L.gr i hi z hz]
      constructor
      · rintro ⟨⟨a, b⟩, c⟩
        exact ⟨a, fun d => c d.1⟩
      · rintro ⟨a, b⟩
        have hzx : z ≠ x := fun e => b ⟨e, by simp⟩
        exact ⟨⟨a, fun d => hzx d.1⟩, hzx⟩
    · rw [if_neg e, L.gr i hi z hz]
      constructor
      · rintro ⟨a, b⟩
        refine ⟨a, fun d => ?_⟩
        rw [List.mem_append, List.mem_singleton] at d
        exact d.2.elim (fun h => b ⟨d.1, h⟩) e
      · rintro ⟨a, b⟩
        exact ⟨a, fun d => b ⟨d.1, by simp [d.2]⟩⟩

def RA (ow : Nat → Option Nat) (w : World) (M qm tm : Nat) (s : St) (x : Nat) (ev v er : Value) (w' : World) : Prop :=
  (∃ i, s.wl x = some i ∧ v = .slice none 0 0 ∧ er = ev ∧ Fr ow w ow w' []) ∨
  (s.wl x = none ∧ er = .nilIface ∧ ∃ ow' s' gs, FrX ow w ow' w' M qm tm s s' ∧ Rep ow' w' M qm tm s' ∧ Inv NoE NoE s' ∧ RAP s s' x gs ∧ GRow w' v gs ∧ ∀ k, v.ownBlock = some k → ow' k = none)

set_option maxRecDepth 50000 in
set_option maxHeartbeats 4000000 in
theorem releaseAll {ev : Nat → Value} (h : Rep ow w M qm tm s) (I : Inv NoE NoE s) (G : Glob ow w ev) (x : Nat) (hx : x < 4) :
    Calls Ybad.prog 9 #[.pointer (some ⟨M, 0, none⟩), .int .i64 (x : Int)] w fun e w' => ∃ v er, e = .returned (.tuple #[v, er]) ∧ RA ow w M qm tm s x (ev 0) v er w' := by
  obtain ⟨sqv, stv, mg, _, _⟩ := h.mg
  have m1 : w.cell? ⟨M, 1, none⟩ = some (.map (some tm)) := mg.c.2.1
  have Ml := heap_lt mg
  clear mg
  cases htb : s.tb x with
  | none =>
    obtain ⟨e1, e2⟩ := I.tn x hx (fun e => e) htb
    have LT : Aside ((Instr.lookup 55 (.map (some tm)) (.int .i64 (x : Int)) false).run Ybad.prog w = .ok (.pointer none) w) := by have := lookT h hx; rw [htb] at this; exact this
    have E : Aside (RA ow w M qm tm s x (ev 0) (.slice none 0 0) .nilIface w) := by
      refine .inr ⟨e2, rfl, ow, s, [], FrX.refl _ _ _ _ _ _, h, I, rap_of (s1 := s) hx (fun i hi z hz => ⟨fun a => ⟨a, ?_⟩, fun a => a.1⟩) rfl rfl e2 (Gs.refl s), ⟨by simp [gcs], .inl ⟨rfl, rfl⟩⟩, fun k e => by cases e⟩
      rintro rfl
      have := (I.hold i hi z hz).1 a
      rw [e1] at this
      cases this
    clear h I G
    go_enter Ybad.func9, Ybad.ntmps9
    go_wp2_with (refine wpList_lookup_run _ rfl (.tmp 13) (.tmp 14) 55 rfl _ _ _ rfl rfl LT.out ?_)
    go_ret2
    exact ⟨_, _, rfl, E.out⟩
  | some t =>
    have LT : Aside ((Instr.lookup 55 (.map (some tm)) (.int .i64 (x : Int)) false).run Ybad.prog w = .ok (.pointer (some ⟨t, 0, none⟩)) w) := by have := lookT h hx; rw [htb] at this; exact this
    have WT : Aside (Calls Ybad.prog 14 #[.pointer (some ⟨t, 0, none⟩)] w fun e w' => e = .returned (.bool (s.wl x).isSome) ∧ w' = w) := by
      have := isWaitR h hx (fun e => (I.tn x hx (fun e => e) e).2)
      rw [htb] at this
      exact this
    have g0 := G.c 0 (by omega)
    have l0 := cell_lt g0
    have REP : Aside (Rep ow w M qm tm s) := h
    have INV : Aside (Inv NoE NoE s) := I
    have HTB : Aside (s.tb x = some t) := htb
    clear h I G htb
    go_enter Ybad.func9, Ybad.ntmps9
    go_wp2_with (refine wpList_lookup_run _ rfl (.tmp 13) (.tmp 14) 55 rfl _ _ _ rfl rfl LT.out ?_)
    refine WT.out.mono ?_
    rintro e w1 ⟨rfl, rfl⟩
    cases hw : s.wl x with
    | some i =>
      have E : Aside (RA ow w1 M qm tm s x (ev 0) (.slice none 0 0) (ev 0) w1.drew) := .inl ⟨i, hw, rfl, rfl, (Fr.refl REP.out.fresh []).drew⟩
      clear LT WT hw
      go_wp2
      go_region
      all_goals
        go_wp2
        go_ret2
        exact ⟨_, _, rfl, E.out⟩
    | none =>
      have HWL : Aside (s.wl x = none) := hw
      clear WT hw
      obtain ⟨w2, hdel0, pt2, hturn⟩ := REP.out.pt.del keyedI Ybad.underlying55 hx (keyT hx) tlit_inj 0
      have HR : Aside (∀ ty, (Builtin.delete_ #[55, 3] ty #[.map (some tm), .int .i64 (x : Int)]).run Ybad.prog w1 = .ok (.tuple #[]) w2) := fun ty => hdel0
      obtain ⟨R2, F2, nd, n1, n2⟩ := REP.out.dropT hx HTB.out pt2 hturn (hl' := s.hl) (wl' := s.wl) (fun _ _ => rfl) (fun _ _ => rfl)
      obtain ⟨hv, wv, x0⟩ := REP.out.ts x hx t HTB.out
      have x2 := x0.fr F2 (by simp [Ne.symm n1])
      obtain ⟨s1, hs1⟩ : ∃ s1 : St, s1 = { s with tb := upd s.tb x none, hl := s.hl, wl := s.wl } := ⟨_, rfl⟩
      rw [← hs1] at R2 nd
      obtain ⟨l, hl⟩ : ∃ l, s.hl x = l := ⟨_, rfl⟩
      obtain ⟨n, hn⟩ : ∃ n, l.length = n := ⟨_, rfl⟩
      have hlen : ((s.hl x).map (blk s.qb)).length = n := by rw [List.length_map, hl, hn]
      have lnd : l.Nodup := by rw [← hl]; exact (INV.out.hnd x hx).1
      have l3 : ∀ j ∈ l, j < 3 := by rw [← hl]; exact (INV.out.hnd x hx).2
      have hn3 : n ≤ 3 := by rw [← hn]; exact nodup_len 3 l lnd l3
      obtain ⟨xa, xc, rfl⟩ := row_form x2.hrow
      simp only [hlen] at x2
      have t0 := x2.c.1
      have tl := heap_lt x2.blk
      obtain ⟨sqv2, stv2, mg2, _, _⟩ := R2.mg
      have START : Aside (RLoop ow w2 M qm tm s s1 x l 0 ow s1 w2) := by
        refine ⟨FrX.refl _ _ _ _ _ _, R2, ?_, by rw [hs1]; exact hl, by rw [hs1], by rw [hs1]; exact upd_same _ _ _, by rw [hs1], by rw [hs1], fun i hi z hz => ?_⟩
        · rw [hs1]
          refine INV.out.frame rfl rfl rfl rfl rfl rfl (fun j hj _ hg => INV.out.emp j hj (fun e => e) hg) INV.out.qn (fun z hz hX e => ?_)
          simp only [upd_ne _ _ hX] at e
          exact INV.out.tn z hz (fun e => e) e
        · rw [hs1]; simp
      have HQ : Aside (∀ ow' s' wr k j, RLoop ow w2 M qm tm s s1 x l k ow' s' wr → l[k]? = some j → ∃ g b, xa = some ⟨g, 0, none⟩ ∧ n ≤ xc ∧ g < wr.heap.size ∧ wr.cell? ⟨g, k, none⟩ = some (.pointer (some ⟨b, 0, none⟩)) ∧
          Calls Ybad.prog 19 #[.pointer (some ⟨b, 0, none⟩), .int .i64 (x : Int)] wr fun e w' => e = .returned (.tuple #[]) ∧ ∃ ow2 s2, RLoop ow w2 M qm tm s s1 x l (k + 1) ow2 s2 w') := by
        intro ow' s' wr k j L hj
        have hkl := (List.getElem?_eq_some_iff.1 hj).1
        have hjm := List.mem_of_getElem? hj
        have hj3 := l3 j hjm
        have hdk : l.drop k = j :: l.drop (k + 1) := by rw [List.drop_eq_getElem_cons hkl, (List.getElem?_eq_some_iff.1 hj).2]
        have hh : has (s'.gr j) x = true := (L.inv.hold j hj3 x hx).2 (by rw [L.hlx, hdk]; simp)
        obtain ⟨b, hb⟩ : ∃ b, s'.qb j = some b := by
          cases hc : s'.qb j with
          | none => rw [(L.inv.qn j hj3 hc).1] at hh; cases hh
          | some b => exact ⟨b, rfl⟩
        have x3 := x2.frx L.fr nd
        have hrw := x3.hrow
        rcases ptrs_form (l := (s.hl x).map (blk s.qb)) (by rw [hlen]; rw [hlen] at hrw; exact hrw) with ⟨_, h0⟩ | ⟨g, cap, e, h1, h2, h3, h4⟩
        · rw [hl] at h0
          cases l with
          | nil => simp at hj
          | cons a l => simp at h0
        · rw [hlen] at e h2
          cases e
          refine ⟨g, b, rfl, h2, h1, ?_, ?_⟩
          · refine h4 k b ?_
            rw [hl, List.getElem?_map, hj, ← L.qb]
            simp [blk, hb]
          · have hgne : s'.gr j ≠ [] := fun e => by rw [e] at hh; cases hh
            have ok := L.inv.qok j hj3
            refine (removeR L.rep hj3 hb x hh (fun r hr => (ok.glt r hr).2) (by have := ok.len; omega) (L.inv.lo1 hj3 hgne) (by have := L.inv.lo3; omega)).mono ?_
            rintro e w' ⟨rfl, k', r, hk, hr, ow2, f, rep⟩
            exact ⟨rfl, ow2, _, rl_step HWL.out L hj hj3 hk hr f rep⟩
      have AFTER : Aside (∀ ow' s' wr, RLoop ow w2 M qm tm s s1 x l n ow' s' wr → wr.cell? ⟨t, 0, none⟩ = some (.slice xa n xc) ∧ t < wr.heap.size ∧ Calls Ybad.prog 23 #[.pointer (some ⟨M, 0, none⟩), .slice xa n xc] wr fun e w' => ∃ v', e = .returned v' ∧
          Calls Ybad.prog 24 #[.pointer (some ⟨M, 0, none⟩), .pointer (some ⟨t, 0, none⟩)] w' fun e w'' => e = .returned (.tuple #[]) ∧ RA ow w1 M qm tm s x (ev 0) v' .nilIface w'') := by
        intro ow' s' wr L
        have x3 := x2.frx L.fr nd
        refine ⟨x3.c.1, heap_lt x3.blk, ?_⟩
        have ndn : t ∉ dom M qm tm s' := L.fr.dm t tl nd
        have htk : l.take n = l := List.take_of_length_le (by omega)
        have hdk : l.drop n = [] := List.drop_of_length_le (by omega)
        have In : Inv (fun j => j ∈ l) NoE s' := by
          refine L.inv.frame rfl rfl rfl rfl rfl rfl (fun j hj hE hg => L.inv.emp j hj (by rw [htk]; exact hE) hg) L.inv.qn (fun z hz _ e => ?_)
          by_cases ez : z = x
          · subst ez; exact ⟨by rw [L.hlx, hdk], by rw [L.wl]; exact HWL.out⟩
          · exact L.inv.tn z hz ez e
        have hrw := x3.hrow
        rw [hlen] at hrw
        refine (grantWaiting (js := l) (T := 64) L.rep In (fun j hj => ?_) lnd (by rw [hn, L.qb, ← hl]; exact hrw) (fun g e => ?_)).mono ?_
        · have hj3 := l3 j hj
          refine ⟨hj3, hj, ?_⟩
          rw [L.qb]
          cases hc : s.qb j with
          | none =>
            have h1 := (INV.out.hold j hj3 x hx).2 (by rw [hl]; exact hj)
            rw [(INV.out.qn j hj3 hc).1] at h1; cases h1
          | some b => exact ⟨b, rfl⟩
        · exact .inr ⟨t, x3.hown g e, heap_lt x3.blk, ndn⟩
        · rintro e w' ⟨v', rfl, ow4, s4, gs, f4, r4, I4, run, row, own⟩
          refine ⟨v', rfl, ?_⟩
          have nd4 : t ∉ dom M qm tm s4 := f4.dm t (heap_lt x3.blk) ndn
          have x4 := x3.frx f4 ndn
          refine (spareTxnR r4 nd4 x4).mono ?_
          rintro e w'' ⟨rfl, ow5, st', r5, f5, hst⟩
          refine ⟨rfl, .inr ⟨HWL.out, rfl, ow5, _, gs, ?_, r5, ?_, ?_, row.same (fun g e => f5.keep g (row.lt e) (fun z ez => by rw [own g e] at ez; cases ez)), fun k e => by rw [f5.old k (row.lt e)]; exact own k e⟩⟩
          · have fx0 : FrX ow w1 ow w2 M qm tm s s1 := by
              refine FrX.of F2 ?_ ?_
              · intro z hz
                simp at hz
                subst hz
                exact .inl (mem_dom.2 (.inr (.inr (.inl rfl))))
              · intro z _ hn' hm
                rw [hs1] at hm
                exact hn' (dom_tb hm)
            refine FrX.then ((fx0.trans L.fr).trans f4) f5 ?_ ?_
            · intro z hz
              simp at hz
              rcases hz with rfl | rfl | rfl
              · exact .inl (mem_dom.2 (.inl rfl))
              · exact .inl (mem_dom.2 (.inr (.inr (.inl rfl))))
              · exact .inl (mem_dom.2 (.inr (.inr (.inr (.inr (.inl ⟨x, hx, HTB.out⟩))))))
            · intro z hz hn' hm
              rcases dom_st hm with e | e
              · exact ((fx0.trans L.fr).trans f4).dm z hz hn' e
              · rcases hst z e with e | e
                · exact ((fx0.trans L.fr).trans f4).dm z hz hn' (mem_dom.2 (.inr (.inr (.inr (.inr (.inr (.inr e)))))))
                · exact hn' (mem_dom.2 (.inr (.inr (.inr (.inr (.inl ⟨x, hx, by rw [e]; exact HTB.out⟩))))))
          · exact (I4.weaken (E' := NoE) (fun j e => absurd e.1 e.2)).frame rfl rfl rfl rfl rfl rfl (I4.weaken (E' := NoE) (fun j e => absurd e.1 e.2)).emp I4.qn I4.tn
          · have := rap_of (s := s) hx (fun i hi z hz => by
              rw [L.gr i hi z hz, htk]
              constructor
              · rintro ⟨a, b⟩
                refine ⟨a, ?_⟩
                rintro rfl
                exact b ⟨rfl, by rw [← hl]; exact (INV.out.hold i hi z hz).1 a⟩
              · rintro ⟨a, b⟩
                exact ⟨a, fun d => b d.1⟩) L.wl L.wa HWL.out run
            exact ⟨this.gone, this.stay, this.each, this.nd, this.rest, this.cnt⟩
      have HN : Aside (l.length = n) := hn
      clear hdel0 pt2 hturn R2 F2 nd n1 n2 x0 x2 hs1 hl hn hlen lnd l3 mg2 REP INV HTB HWL
      go_wp2_with (refine wpList_delete_run _ rfl (.tmp 24) (.tmp 25) 55 3 rfl _ _ rfl rfl w2 HR.out ?_)
      go_loopw [31] (fun iv wr => ∃ (k : Nat) (ow' : Nat → Option Nat) (s' : St), k ≤ n ∧ iv = .int .i64 (k : Int) ∧ RLoop ow w2 M qm tm s s1 x l k ow' s' wr) (fun iv _ => n - (intOf iv).toNat)
      case atStart => exact ⟨0, ow, s1, Nat.zero_le _, rfl, START.out⟩
      case round =>
        obtain ⟨k, ow', s', hkn, rfl, hL⟩ := hrel
        clear START
        by_cases hlt : k < n
        · obtain ⟨j, hj⟩ : ∃ j, l[k]? = some j := ⟨_, List.getElem?_eq_getElem (by rw [HN.out]; exact hlt)⟩
          obtain ⟨g, b, rfl, hxc, gl, cg, hcall⟩ := HQ.out _ _ _ _ _ hL hj
          have CALL := hide hcall
          clear hcall hL hj AFTER HQ
          go_wp2_with fail
          refine CALL.out.mono ?_
          rintro e w3 ⟨rfl, ow2, s2, hL'⟩
          have L2 := hide hL'
          clear hL' CALL
          go_wp2
          go_roundw
          case rel => exact ⟨k + 1, _, _, by omega, by go_num, L2.out⟩
          case measure => simp [intOf]; omega
        · have hkn' : k = n := by omega
          subst hkn'
          obtain ⟨z0, zl, hcall⟩ := AFTER.out _ _ _ hL
          have CALL := hide hcall
          clear hcall hL AFTER HQ
          go_wp2_with fail
          refine CALL.out.mono ?_
          rintro e w3 ⟨v', rfl, hcall2⟩
          have CALL2 := hide hcall2
          clear hcall2
          go_wp2_with fail
          refine CALL2.out.mono ?_
          rintro e w4 ⟨rfl, hE⟩
          have E := hide hE
          clear hE
          go_wp2
          go_ret2
          exact ⟨_, _, rfl, E.out⟩

end

end Go.Proofs.YbulkbcpiDoor.rel
