/-
  Seat b2690a: LawS2690CModel: the walk of the model.
-/
import Derived.Test.YbulkbcrmModelQ3
namespace Go.Proofs.Ybulkbcrm.model
open Go.RowKit

theorem MW.drewN {B : Nat} {w : World} {bx : Nat} {r : Rec} {lsv : Value} {ls : List Nat} {lvv : Value} {lv : List Nat} {ev : Value} {es : List (Nat × Nat)} {wx : World} (h : MW B w bx r lsv ls lvv lv ev es wx) (q : Nat) : MW B w bx r lsv ls lvv lv ev es (wx.drewN q) :=
  ⟨h.box, h.rls, h.rlv, h.rent, ⟨h.bel.os, h.bel.tape, h.bel.output, h.bel.size, h.bel.block⟩, h.bs⟩

theorem own_mono {w : World} {base base' : Nat} {e : TypeId} {size : Nat} {v : Value} {n : Nat} {xs : List Value} (h : w.ownsRow base e size v n xs) (hb : base' ≤ base) : w.ownsRow base' e size v n xs := by
  refine ⟨h.1, ?_⟩
  rcases h.2 with hn | ⟨g, cap, cur, e1, h1, h2⟩
  · exact .inl hn
  · exact .inr ⟨g, cap, cur, e1, Nat.le_trans hb h1, h2⟩

/-- An entry's index is set. -/
theorem MW.setEnt {B : Nat} {w : World} {bx : Nat} {r : Rec} {lsv : Value} {ls : List Nat} {lvv : Value} {lv : List Nat} {es : List (Nat × Nat)} {wx : World} {g n cap : Nat} (h : MW B w bx r lsv ls lvv lv (.slice (some ⟨g, 0, none⟩) n cap) es wx) {j : Nat} {p : Nat × Nat} (hj : es[j]? = some p) (hn : n = es.length) (x : Nat) :
    MW B w bx r lsv ls lvv lv (.slice (some ⟨g, 0, none⟩) n cap) (es.set j (p.1, x)) (wx.setCell ⟨g, j * 2 + 1, none⟩ (.int .i64 (x : Int))) := by
  subst hn
  have hjl : j < es.length := (List.getElem?_eq_some_iff.1 hj).1
  have hg : (Value.slice (some ⟨g, 0, none⟩) es.length cap).ownBlock = some g := rfl
  have h1 := own_set h.rent (i := j * 2 + 1) (by rw [ecs_length]; omega) (.int .i64 (x : Int))
  have hgB : B ≤ g := by
    obtain ⟨_, e, _, _, hb⟩ := own_cell h.rent (ecs_at es j p hj).1
    cases e
    exact hb
  refine ⟨?_, own_same h.rls (fun g' hg' => hset_other _ _ _ (fun e => own_ne h.rls h.rent (by decide) hg' (by rw [hg]; exact congrArg some e))), own_same h.rlv (fun g' hg' => hset_other _ _ _ (fun e => own_ne h.rlv h.rent (by decide) hg' (by rw [hg]; exact congrArg some e))), ?_, h.bel.setCell hgB _, by have := h.bs; simp; exact this⟩
  · rw [hset_other _ _ _ (fun e => own_box h.rent h.box (by decide) (by rw [hg]; exact congrArg some e))]
    exact h.box
  · rw [List.length_set, ← ecs_set2 es j p x hj]
    exact h1

theorem lowP_facts (st : PSt) (r : Rec) : (lowP st r).kept = st.kept ∧ (lowP st r).rel = st.rel ∧ (lowP st r).g = st.g := by
  unfold lowP
  split <;> exact ⟨rfl, rfl, rfl⟩

theorem keptP_facts (st : PSt) : (keptP st).low = st.low ∧ (keptP st).rel = st.rel ∧ (keptP st).g = st.g ∧ (keptP st).kept = (if st.kept < kMin st.low st.g then kMin st.low st.g else st.kept) := by
  unfold keptP
  by_cases h : st.kept < kMin st.low st.g
  · rw [if_pos h, if_pos h]; exact ⟨rfl, rfl, rfl, rfl⟩
  · rw [if_neg h, if_neg h]; exact ⟨rfl, rfl, rfl, rfl⟩

theorem putP_facts (st : PSt) (r : Rec) : (putP st r).low = st.low ∧ (putP st r).rel = st.rel ∧ (putP st r).g = st.g ∧ (putP st r).kept = st.kept := by
  unfold putP
  split <;> exact ⟨rfl, rfl, rfl, rfl⟩

theorem compP_inv2 (ps : List SM) (h : ∀ p ∈ ps, p.1.slot < 16 ∧ p.1.low < 16) : Inv2 (compP ps) := by
  have key : ∀ (l : List SM) (st : PSt), Inv2 st → (∀ p ∈ l, p.1.slot < 16 ∧ p.1.low < 16) → Inv2 (l.foldl (fun st p => addP st p.1 p.2) st) := by
    intro l
    induction l with
    | nil => intro st h0 _; exact h0
    | cons a r ih =>
      intro st h0 hh
      have h1 := hh a (by simp)
      have h2 := h0.lowP h1.2
      have h3 : Inv2 (regP (lowP st a.1) a.1 a.2) := ⟨h2.inv.regP _ _, h2.kl, h2.hk⟩
      exact ih _ (h3.keptP.putP h1.1) (fun p hp => hh p (by simp [hp]))
  exact key ps st0 ⟨inv0, by simp [st0], fun r hr => by simp [st0] at hr⟩ h

/-- The row of entries, alone. -/
structure RowE (w : World) (ev : Value) (n : Nat) (c : List (Nat × Nat)) (wx : World) : Prop where
  len : c.length = n
  row : wx.ownsRow w.heap.size 64 2 ev n (c.flatMap ecl)
  bel : Below w.heap.size w wx
  bs : w.heap.size ≤ wx.heap.size

theorem RowE.drewN {w : World} {ev : Value} {n : Nat} {c : List (Nat × Nat)} {wx : World} (h : RowE w ev n c wx) (q : Nat) : RowE w ev n c (wx.drewN q) := ⟨h.len, h.row, ⟨h.bel.os, h.bel.tape, h.bel.output, h.bel.size, h.bel.block⟩, h.bs⟩

theorem RowE.alloc {w : World} {ev : Value} {n : Nat} {c : List (Nat × Nat)} {wx : World} (h : RowE w ev n c wx) (o : Obj) : RowE w ev n c (wx.alloc o) := ⟨h.len, h.row.alloc o, h.bel.alloc h.bs o, by have := h.bs; simp; omega⟩

theorem RowE.swap {w : World} {g n cap : Nat} {c : List (Nat × Nat)} {wx : World} (h : RowE w (.slice (some ⟨g, 0, none⟩) n cap) n c wx) {b : Nat} {x y : Nat × Nat} (hx : c[b]? = some x) (hy : c[b + 1]? = some y) :
    RowE w (.slice (some ⟨g, 0, none⟩) n cap) n ((c.set (b + 1) x).set b y) ((((wx.setCell ⟨g, (b + 1) * 2, none⟩ (.int .u64 (x.1 : Int))).setCell ⟨g, (b + 1) * 2 + 1, none⟩ (.int .i64 (x.2 : Int))).setCell ⟨g, b * 2, none⟩ (.int .u64 (y.1 : Int))).setCell ⟨g, b * 2 + 1, none⟩ (.int .i64 (y.2 : Int))) := by
  have hbl : b + 1 < c.length := (List.getElem?_eq_some_iff.1 hy).1
  have hgB : w.heap.size ≤ g := by
    obtain ⟨_, e, _, _, hb⟩ := own_cell h.row (ecs_at c b _ hx).1
    cases e
    exact hb
  have hlen := ecs_length c
  have h1 := own_set (own_set h.row (i := (b + 1) * 2) (by omega) (.int .u64 (x.1 : Int))) (i := (b + 1) * 2 + 1) (by rw [List.length_set]; omega) (.int .i64 (x.2 : Int))
  rw [ecs_set c (b + 1) y x hy] at h1
  have hlen2 := ecs_length (c.set (b + 1) x)
  rw [List.length_set] at hlen2
  have h2 := own_set (own_set h1 (i := b * 2) (by omega) (.int .u64 (y.1 : Int))) (i := b * 2 + 1) (by rw [List.length_set]; omega) (.int .i64 (y.2 : Int))
  rw [ecs_set (c.set (b + 1) x) b x y (by rw [List.getElem?_set_ne (by omega)]; exact hx)] at h2
  exact ⟨by rw [List.length_set, List.length_set]; exact h.len, h2, (((h.bel.setCell hgB _).setCell hgB _).setCell hgB _).setCell hgB _, by have := h.bs; simp; exact this⟩

/-- The insertion under way: all but the entry at b are in order, and it lies below those behind it. -/
structure SI (a b : Nat) (c : List (Nat × Nat)) : Prop where
  oth : ∀ (p q : Nat) (x y : Nat × Nat), p < q → q ≤ a → p ≠ b → q ≠ b → c[p]? = some x → c[q]? = some y → x.1 ≤ y.1
  up : ∀ (q : Nat) (x y : Nat × Nat), b < q → q ≤ a → c[b]? = some x → c[q]? = some y → x.1 ≤ y.1

theorem SI.start {a : Nat} {c : List (Nat × Nat)} (h : ∀ (p q : Nat) (x y : Nat × Nat), p < q → q < a → c[p]? = some x → c[q]? = some y → x.1 ≤ y.1) : SI a a c :=
  ⟨fun p q x y h1 h2 h3 h4 h5 h6 => h p q x y h1 (by omega) h5 h6, fun q x y h1 h2 => by omega⟩

theorem SI.stop {a b : Nat} {c : List (Nat × Nat)} (h : SI a b c) (hb : b = 0 ∨ ∃ b' x y, b = b' + 1 ∧ c[b']? = some x ∧ c[b]? = some y ∧ x.1 ≤ y.1) : ∀ (p q : Nat) (x y : Nat × Nat), p < q → q < a + 1 → c[p]? = some x → c[q]? = some y → x.1 ≤ y.1 := by
  intro p q x y h1 h2 h3 h4
  by_cases e1 : p = b
  · subst e1
    exact h.up q x y h1 (by omega) h3 h4
  · by_cases e2 : q = b
    · subst e2
      rcases hb with rfl | ⟨b', u, v, rfl, h5, h6, h7⟩
      · omega
      · rw [h4] at h6
        cases h6
        by_cases e3 : p = b'
        · subst e3
          rw [h3] at h5
          cases h5
          exact h7
        · have := h.oth p b' x u (by omega) (by omega) (by omega) (by omega) h3 h5
          omega
    · exact h.oth p q x y h1 (by omega) e1 e2 h3 h4

theorem SI.swap {a b : Nat} {c : List (Nat × Nat)} (h : SI a (b + 1) c) {x y : Nat × Nat} (hx : c[b]? = some x) (hy : c[b + 1]? = some y) (hlt : y.1 < x.1) : SI a b ((c.set (b + 1) x).set b y) := by
  have hbl : b + 1 < c.length := (List.getElem?_eq_some_iff.1 hy).1
  have g1 : ((c.set (b + 1) x).set b y)[b]? = some y := by rw [List.getElem?_set_self (by simp; omega)]
  have g2 : ((c.set (b + 1) x).set b y)[b + 1]? = some x := by rw [List.getElem?_set_ne (by omega), List.getElem?_set_self hbl]
  have g3 : ∀ q, q ≠ b → q ≠ b + 1 → ((c.set (b + 1) x).set b y)[q]? = c[q]? := fun q h1 h2 => by rw [List.getElem?_set_ne (by omega), List.getElem?_set_ne (by omega)]
  refine ⟨fun p q u v h1 h2 h3 h4 h5 h6 => ?_, fun q u v h1 h2 h5 h6 => ?_⟩
  · by_cases e1 : q = b + 1
    · subst e1
      rw [g2] at h6
      cases h6
      rw [g3 p h3 (by omega)] at h5
      exact h.oth p b u x (by omega) (by omega) (by omega) (by omega) h5 hx
    · rw [g3 q h4 e1] at h6
      by_cases e2 : p = b + 1
      · subst e2
        rw [g2] at h5
        cases h5
        exact h.oth b q x v (by omega) h2 (by omega) e1 hx h6
      · rw [g3 p h3 e2] at h5
        exact h.oth p q u v h1 h2 e2 e1 h5 h6
  · rw [g1] at h5
    cases h5
    by_cases e1 : q = b + 1
    · subst e1
      rw [g2] at h6
      cases h6
      omega
    · rw [g3 q (by omega) e1] at h6
      exact h.up q y v (by omega) h2 hy h6

theorem perm_swap {c : List (Nat × Nat)} {b : Nat} {x y : Nat × Nat} (hx : c[b]? = some x) (hy : c[b + 1]? = some y) : ((c.set (b + 1) x).set b y).Perm c := by
  obtain ⟨h1, h2⟩ := List.getElem?_eq_some_iff.1 hx
  obtain ⟨h3, h4⟩ := List.getElem?_eq_some_iff.1 hy
  have e : c = c.take b ++ x :: y :: c.drop (b + 2) := by
    conv => lhs; rw [← List.take_append_drop b c, List.drop_eq_getElem_cons h1, List.drop_eq_getElem_cons h3, h2, h4]
  have e2 : (c.set (b + 1) x).set b y = c.take b ++ y :: x :: c.drop (b + 2) := by
    apply List.ext_getElem?
    intro q
    have hl : (c.take b).length = b := by rw [List.length_take]; omega
    by_cases q1 : q < b
    · rw [List.getElem?_set_ne (by omega), List.getElem?_set_ne (by omega), List.getElem?_append_left (by omega), List.getElem?_take_of_lt q1]
    · rw [List.getElem?_append_right (by omega), hl]
      by_cases q2 : q = b
      · subst q2
        rw [List.getElem?_set_self (by simp; omega), Nat.sub_self]
        rfl
      · by_cases q3 : q = b + 1
        · subst q3
          rw [List.getElem?_set_ne (by omega), List.getElem?_set_self h3, show b + 1 - b = 1 by omega]
          rfl
        · rw [List.getElem?_set_ne (by omega), List.getElem?_set_ne (by omega), show q - b = (q - b - 2) + 2 by omega]
          show _ = (c.drop (b + 2))[q - b - 2]?
          rw [List.getElem?_drop, show b + 2 + (q - b - 2) = q by omega]
  rw [e2]
  conv => rhs; rw [e]
  exact (List.Perm.swap _ _ _).append_left _

/-- The rows between two rounds. -/
structure MR (B : Nat) (w : World) (lsv : Value) (ls : List Nat) (lvv : Value) (lv : List Nat) (ev : Value) (es : List (Nat × Nat)) (wx : World) : Prop where
  rls : wx.ownsRow B 46 1 lsv ls.length (ls.map e32)
  rlv : wx.ownsRow B 30 1 lvv lv.length (lv.map e64)
  rent : wx.ownsRow B 64 2 ev es.length (es.flatMap ecl)
  bel : Below B w wx
  bs : B ≤ wx.heap.size

theorem MR.box {B : Nat} {w : World} {lsv : Value} {ls : List Nat} {lvv : Value} {lv : List Nat} {ev : Value} {es : List (Nat × Nat)} {wx : World} (h : MR B w lsv ls lvv lv ev es wx) (r : Rec) : MW B w wx.heap.size r lsv ls lvv lv ev es (wx.alloc (.cells (rcl r).toArray 52)) :=
  ⟨alloc_new _ _, h.rls.alloc _, h.rlv.alloc _, h.rent.alloc _, h.bel.alloc h.bs _, by have := h.bs; simp; omega⟩

/-- The model between two rounds. -/
def MS (w : World) (ps : List SM) (i : Nat) (s3 s4 s5 s6 s7 s8 : Value) (wx : World) : Prop :=
  ∃ lsa lsc lva lvc ea ec ls lv es, s3 = .int .u64 ((compP (ps.take i)).low : Int) ∧ s4 = .int .u64 ((compP (ps.take i)).kept : Int) ∧ s5 = .int .u64 ((compP (ps.take i)).rel : Int) ∧ s6 = .slice lsa ls.length lsc ∧ s7 = .slice lva lv.length lvc ∧ s8 = .slice ea es.length ec ∧
    Enc ls lv (compP (ps.take i)).g ∧ EntOK es (outP (compP (ps.take i))) ∧ MR w.heap.size w (.slice lsa ls.length lsc) ls (.slice lva lv.length lvc) lv (.slice ea es.length ec) es wx

set_option maxRecDepth 100000 in
set_option maxHeartbeats 8000000 in
theorem modelW {w : World} {v : Value} {ps : List SM} (hrow : SvRow w v ps) (hn : ps.length ≤ 300) (hlog : ∀ (j : Nat) (p : SM), ps[j]? = some p → p.1.log = j) :
    Calls Yba.prog 9 #[v] w fun e w' => ∃ a cap, e = .returned (.slice a (outP (compP ps)).length cap) ∧ (∀ (j : Nat) (r : Rec), (outP (compP ps))[j]? = some r → ∃ g, a = some ⟨g, 0, none⟩ ∧ w'.cell? ⟨g, j, none⟩ = some (.int .i64 (r.log : Int))) ∧ Below w.heap.size w w' := by
  obtain ⟨va, vcap, rfl, hcells⟩ := hrow
  have HC := hide hcells
  have HLOG := hide hlog
  clear hcells hlog
  go_enter Yba.func9, Yba.ntmps9
  go_wp2_with fail
  go_loopw [3, 4, 5, 6, 7, 8, 31] (fun s3 s4 s5 s6 s7 s8 s31 wx => ∃ i : Nat, s31 = .int .i64 (i : Int) ∧ i ≤ ps.length ∧ MS w ps i s3 s4 s5 s6 s7 s8 wx) (fun _ _ _ _ _ _ s31 _ => ps.length - (intOf s31).toNat)
  case atStart =>
    exact ⟨0, rfl, Nat.zero_le _, none, 0, none, 0, none, 0, [], [], [], rfl, rfl, rfl, rfl, rfl, rfl, enc_none, entOK_nil, ⟨World.ownsRow_nil _ _ _ _, World.ownsRow_nil _ _ _ _, World.ownsRow_nil _ _ _ _, Below.refl _ _, Nat.le_refl _⟩⟩
  case round =>
    obtain ⟨i, rfl, hin, hms⟩ := hrel
    by_cases hi : i < ps.length
    · have hiI : (i : Int) < (ps.length : Int) := by omega
      obtain ⟨p, hp⟩ : ∃ p, ps[i]? = some p := ⟨_, List.getElem?_eq_getElem hi⟩
      obtain ⟨lsa, lsc, lva, lvc, ea, ec, ls, lv, es, rfl, rfl, rfl, rfl, rfl, rfl, henc, hent, hmr⟩ := hms
      have hnext := compP_take ps i p hp
      have hinv2 : Inv2 (compP (ps.take i)) := compP_inv2 _ (fun q hq => by
        obtain ⟨j, hj⟩ := List.mem_iff_getElem?.1 (List.mem_of_mem_take hq)
        exact (HC.out j q hj).1)
      obtain ⟨st, hst⟩ : ∃ st, compP (ps.take i) = st := ⟨_, rfl⟩
      obtain ⟨⟨hp1, hp2⟩, hmk, b, off, rfl, hcl⟩ := HC.out i p hp
      have hplog := HLOG.out i p hp
      have hcw : ∀ (t : Nat) (u : Value), (rcl p.1)[t]? = some u → wr.cell? ⟨b, off + i * 12 + t, none⟩ = some u := fun t u hu => by
        have e := hcl t u hu
        rw [hmr.bel.cell (p := ⟨b, off + i * 12 + t, none⟩) (cell_lt e)]
        exact e
      obtain ⟨x0, x1, x2, x3, x4, x5, x6, x7, x8, x9, x10, x11⟩ := rc12_at hcw
      have m0 := hmr.box p.1
      obtain ⟨r, ms⟩ := p
      simp only at hp1 hp2 hmk hplog hnext m0 x0 x1 x2 x3 x4 x5 x6 x7 x8 x9 x10 x11
      have NEXT := hide hnext
      have M0 := hide m0
      have HENC := hide henc
      have HENT := hide hent
      have HMK := hide hmk
      have INV2 := hide hinv2
      have HST := hide hst
      rw [hst] at HENC HENT INV2 NEXT ⊢
      obtain ⟨bx, hbx⟩ : ∃ bx, wr.heap.size = bx := ⟨_, rfl⟩
      rw [hbx] at M0
      obtain ⟨slot, rlow, rrel, log, ra, rl, rc⟩ := r
      simp only at hp1 hp2 hplog x0 x1 x2 x3 x4 x5 x6 x7 x8 x9 x10 x11
      have hplog' := hplog.symm
      subst hplog'
      clear hplog
      unfold rcl at M0
      simp only at M0
      clear hcw hcl hmr hnext m0 henc hent hmk hinv2 hst hp
      obtain ⟨bl1, hbl1⟩ : ∃ bl : Bool, decide (st.low < rlow) = bl := ⟨_, rfl⟩
      go_upto_if 39 with fail
      go_cut [3, 39] from 40 to 161 (fun s3 _ wx => s3 = .int .u64 ((lowP st ⟨slot, rlow, rrel, i, ra, rl, rc⟩).low : Int) ∧ MW w.heap.size w bx ⟨slot, rlow, rrel, i, ra, rl, rc⟩ (.slice lsa ls.length lsc) ls (.slice lva lv.length lvc) lv (.slice ea es.length ec) es wx)
      case first =>
        cases bl1 with
        | true =>
          have hlt : st.low < rlow := by simpa using hbl1
          have e : (lowP st ⟨slot, rlow, rrel, i, ra, rl, rc⟩).low = rlow := by unfold lowP; rw [if_pos hlt]
          go_wp2_with fail
          go_meet
          case rel => exact ⟨by rw [e], M0.out⟩
        | false =>
          have hlt : ¬ st.low < rlow := by simpa using hbl1
          have e : (lowP st ⟨slot, rlow, rrel, i, ra, rl, rc⟩).low = st.low := by unfold lowP; rw [if_neg hlt]
          go_wp2_with fail
          go_meet
          case rel => exact ⟨by rw [e], M0.out⟩
      case rest =>
        obtain ⟨rfl, m1⟩ := hcut
        have M1 := hide m1
        have y5 : wc.cell? ⟨bx, 5, none⟩ = some (.int .u64 (rrel : Int)) := cell_of m1.box rfl
        clear m1 M0 hbl1 x0 x1 x2 x3 x4 x5 x6 x7 x8 x9 x10 x11
        obtain ⟨bl2, hbl2⟩ : ∃ bl : Bool, decide (st.rel < rrel) = bl := ⟨_, rfl⟩
        go_upto_if 45 with fail
        go_cut [5, 6, 7, 45] from 46 to 161 (fun s5 s6 s7 _ wx => ∃ la lc va vc ls lv, s5 = .int .u64 (regR st.rel rrel : Int) ∧ s6 = .slice la (ls : List Nat).length lc ∧ s7 = .slice va (lv : List Nat).length vc ∧ Enc ls lv (if st.rel < rrel then fun _ => none else st.g) ∧ MW w.heap.size w bx ⟨slot, rlow, rrel, i, ra, rl, rc⟩ (.slice la ls.length lc) ls (.slice va lv.length vc) lv (.slice ea es.length ec) es wx)
        case first =>
          cases bl2 with
          | true =>
            have hlt : st.rel < rrel := by simpa using hbl2
            have e : regR st.rel rrel = rrel := if_pos hlt
            go_wp2_with fail
            go_meet
            case rel => exact ⟨none, 0, none, 0, [], [], by rw [e], rfl, rfl, by rw [if_pos hlt]; exact enc_none, ⟨M1.out.box, World.ownsRow_nil _ _ _ _, World.ownsRow_nil _ _ _ _, M1.out.rent, M1.out.bel, M1.out.bs⟩⟩
          | false =>
            have hlt : ¬ st.rel < rrel := by simpa using hbl2
            have e : regR st.rel rrel = st.rel := if_neg hlt
            go_wp2_with fail
            go_meet
            case rel => exact ⟨lsa, lsc, lva, lvc, ls, lv, by rw [e], rfl, rfl, by rw [if_neg hlt]; exact HENC.out, M1.out⟩
        case rest =>
          obtain ⟨la, lc, va, vc, ls1, lv1, rfl, rfl, rfl, henc1, m2⟩ := hcut
          have M2 := hide m2
          have HENC1 := hide henc1
          have y5' : wc.cell? ⟨bx, 5, none⟩ = some (.int .u64 (rrel : Int)) := cell_of m2.box rfl
          have y4 : wc.cell? ⟨bx, 4, none⟩ = some (.slice ra rl rc) := cell_of m2.box rfl
          clear m2 henc1 M1 y5 hbl2 HENC
          obtain ⟨R1, hR1⟩ : ∃ R1, regR st.rel rrel = R1 := ⟨_, rfl⟩
          rw [hR1]
          have HR1 := hide hR1
          clear hR1
          go_upto_if 51 with fail
          go_cut [6, 7, 12, 13, 14, 51] from 52 to 161 (fun s6 s7 _ _ _ _ wx => ∃ la lc va vc ls lv, s6 = .slice la (ls : List Nat).length lc ∧ s7 = .slice va (lv : List Nat).length vc ∧ Enc ls lv (regG st.rel st.g rrel ms) ∧ MW w.heap.size w bx ⟨slot, rlow, rrel, i, ra, rl, rc⟩ (.slice la ls.length lc) ls (.slice va lv.length vc) lv (.slice ea es.length ec) es wx)
          case first =>
            by_cases hne : rrel = R1
            rotate_left
            · have hlt : rrel < st.rel := by
                rw [← HR1.out] at hne
                unfold regR at hne
                split at hne
                · exact absurd rfl hne
                · omega
              have hneI : ¬ (rrel : Int) = (R1 : Int) := by omega
              have e1 : regG st.rel st.g rrel ms = st.g := if_pos hlt
              have e2 : (if st.rel < rrel then fun _ => none else st.g) = st.g := if_neg (by omega)
              go_wp2_with fail
              go_meet
              case rel => exact ⟨la, lc, va, vc, ls1, lv1, rfl, rfl, by rw [e1, ← e2]; exact HENC1.out, M2.out⟩
            · have hge : ¬ rrel < st.rel := by
                have h := HR1.out
                rw [← hne] at h
                unfold regR at h
                split at h
                · omega
                · omega
              subst hne
              have e1 : regG st.rel st.g rrel ms = raiseAll (if st.rel < rrel then fun _ => none else st.g) ms := if_neg hge
              obtain ⟨g0, hg0⟩ : ∃ g0 : Nat → Option Nat, (if st.rel < rrel then fun _ => none else st.g) = g0 := ⟨_, rfl⟩
              rw [hg0] at HENC1 e1
              obtain ⟨ma, mcap, hmv, hm300, hmr⟩ := HMK.out
              cases hmv
              have HMR := hide hmr
              have E1 := hide e1
              obtain ⟨i1, hi1, hz0, hz1, hz2⟩ := info_parts Yba.info46
              obtain ⟨i2, hi2, hy0, hy1, hy2⟩ := info_parts Yba.info30
              clear hmr e1 hg0 HMK
              go_wp2_with fail
              go_loopw [6, 7, 12, 13, 14, 55] (fun s6 s7 _ _ _ s55 wx => ∃ (j : Nat) (la : Option Addr) (lc : Nat) (va : Option Addr) (vc : Nat) (ls lv : List Nat), s55 = .int .i64 (j : Int) ∧ j ≤ ms.length ∧ s6 = .slice la ls.length lc ∧ s7 = .slice va lv.length vc ∧ Enc ls lv (raiseAll g0 (ms.take j)) ∧ MW w.heap.size w bx ⟨slot, rlow, rrel, i, ra, ms.length, rc⟩ (.slice la ls.length lc) ls (.slice va lv.length vc) lv (.slice ea es.length ec) es wx) (fun _ _ _ _ _ s55 _ => ms.length - (intOf s55).toNat)
              case atStart => exact ⟨0, la, lc, va, vc, ls1, lv1, rfl, Nat.zero_le _, rfl, rfl, HENC1.out, M2.out⟩
              case round =>
                obtain ⟨j, la2, lc2, va2, vc2, ls2, lv2, rfl, hjm, rfl, rfl, henc2, m3⟩ := hrel
                clear M2 HENC1
                by_cases hj : j < ms.length
                · have hjI : (j : Int) < (ms.length : Int) := by omega
                  obtain ⟨⟨l, sl⟩, hls⟩ : ∃ x, ms[j]? = some x := ⟨_, List.getElem?_eq_getElem hj⟩
                  obtain ⟨hl4, mb, cur, rfl, hmb, hc0, hc1⟩ := HMR.out j l sl hls
                  have hmbw := (m3.bel.block mb (heap_lt hmb)).trans hmb
                  have xc0 := cell_of hmbw hc0
                  have xc1 := cell_of hmbw hc1
                  obtain ⟨by12, hby⟩ : ∃ b12, wr.heap.size = b12 := ⟨_, rfl⟩
                  obtain ⟨X, hX⟩ : ∃ X, X = wr.alloc (.cells #[.int .u32 (l : Int), .int .u64 (sl : Int)] 59) := ⟨_, rfl⟩
                  have m4 : MW w.heap.size w bx ⟨slot, rlow, rrel, i, some ⟨mb, 0, none⟩, ms.length, rc⟩ (.slice la2 ls2.length lc2) ls2 (.slice va2 lv2.length vc2) lv2 (.slice ea es.length ec) es X := by rw [hX]; exact m3.alloc _
                  have b12 : X.heap[by12]? = some (.cells #[.int .u32 (l : Int), .int .u64 (sl : Int)] 59 (0, 0)) := by rw [hX, ← hby]; exact alloc_new _ _
                  have M4 := hide m4
                  have B12 := hide b12
                  have HX := hide hX
                  have HLS := hide hls
                  have HENC2 := hide henc2
                  have hl4n := henc2.size
                  have hlen2 := henc2.len
                  clear hmb hmbw hc0 hc1 m4 b12 hX hls m3 henc2
                  go_wp2_with fail
                  go_loopw [13, 14] (fun s13 s14 wx => ∃ (t : Nat) (found : Bool) (lvx : List Nat), s14 = .int .i64 (t : Int) ∧ s13 = .bool found ∧ t ≤ ls2.length ∧ lvx.length = lv2.length ∧ MW w.heap.size w bx ⟨slot, rlow, rrel, i, some ⟨mb, 0, none⟩, ms.length, rc⟩ (.slice la2 ls2.length lc2) ls2 (.slice va2 lv2.length vc2) lvx (.slice ea es.length ec) es wx ∧ wx.heap[by12]? = some (.cells #[.int .u32 (l : Int), .int .u64 (sl : Int)] 59 (0, 0)) ∧ ((found = false ∧ lvx = lv2 ∧ l ∉ ls2.take t) ∨ (found = true ∧ ∃ j0 v0 : Nat, ls2[j0]? = some l ∧ lv2[j0]? = some v0 ∧ lvx = (if v0 < sl then lv2.set j0 sl else lv2) ∧ j0 < t))) (fun _ s14 _ => ls2.length - (intOf s14).toNat)
                  case atStart =>
                    rw [← HX.out]
                    exact ⟨0, false, lv2, rfl, rfl, Nat.zero_le _, rfl, M4.out, B12.out, .inl ⟨rfl, rfl, by simp⟩⟩
                  case round =>
                    obtain ⟨t, found, lvx, rfl, rfl, htn, hlx, m5, b12', hcond⟩ := hrel
                    clear M4 B12 HX xc0 xc1
                    have k0 : wr.cell? ⟨by12, 0, none⟩ = some (.int .u32 (l : Int)) := cell_of b12' rfl
                    have k1 : wr.cell? ⟨by12, 1, none⟩ = some (.int .u64 (sl : Int)) := cell_of b12' rfl
                    by_cases ht : t < ls2.length
                    · have htI : (t : Int) < (ls2.length : Int) := by omega
                      obtain ⟨l', hl'⟩ : ∃ l', ls2[t]? = some l' := ⟨_, List.getElem?_eq_getElem ht⟩
                      obtain ⟨v', hv'⟩ : ∃ v', lvx[t]? = some v' := ⟨_, List.getElem?_eq_getElem (by omega)⟩
                      obtain ⟨gl, rfl, cl0, _, _⟩ := own_cell m5.rls (i := t) (u := .int .u32 (l' : Int)) (by rw [List.getElem?_map, hl']; rfl)
                      obtain ⟨gv, rfl, cv0, fv0, _⟩ := own_cell (n := lv2.length) (by rw [← hlx] at m5 ⊢; exact m5.rlv) (i := t) (u := .int .u64 (v' : Int)) (by rw [List.getElem?_map, hv']; rfl)
                      have hcond' : l' = l → found = false ∧ lvx = lv2 ∧ l ∉ ls2.take t := fun e => by
                        rcases hcond with h | ⟨_, j0, v0, h1, _, _, h4⟩
                        · exact h
                        · rw [e] at hl'
                          have := nodup_idx HENC2.out.nd h1 hl'
                          omega
                      have hnot : l' ≠ l → l ∉ ls2.take t → l ∉ ls2.take (t + 1) := fun h1 h2 => by
                        rw [List.take_add_one, hl', List.mem_append]
                        simp
                        exact ⟨h2, fun e => h1 e.symm⟩
                      have HC1 := hide hcond
                      have HC2 := hide hcond'
                      have HNOT := hide hnot
                      have M5 := hide m5
                      have B12' := hide b12'
                      have HL' := hide hl'
                      have HV' := hide hv'
                      have htl : t < lvx.length := by omega
                      clear hcond hcond' hnot m5 b12' hl' hv'
                      by_cases hll : l' = l
                      · have hllI : (l' : Int) = (l : Int) := by omega
                        have hfin := HC2.out hll
                        have HFIN := hide hfin
                        have HLL := hide hll
                        clear hfin hll
                        by_cases hvs : v' < sl
                        · have hvsI : decide ((v' : Int) < (sl : Int)) = true := decide_eq_true (by omega)
                          have hsetM : ∀ q1 : Nat, MW w.heap.size w bx ⟨slot, rlow, rrel, i, some ⟨mb, 0, none⟩, ms.length, rc⟩ (.slice (some ⟨gl, 0, none⟩) ls2.length lc2) ls2 (.slice (some ⟨gv, 0, none⟩) lv2.length vc2) (lvx.set t sl) (.slice ea es.length ec) es ((wr.drewN q1).setCell ⟨gv, t, none⟩ (.int .u64 (sl : Int))) := fun q1 => (M5.out.drewN q1).setLv htl hlx.symm sl
                          have hset12 : ∀ q1 : Nat, ((wr.drewN q1).setCell ⟨gv, t, none⟩ (.int .u64 (sl : Int))).heap[by12]? = some (.cells #[.int .u32 (l : Int), .int .u64 (sl : Int)] 59 (0, 0)) := fun q1 => by
                            rw [hset_other _ _ _ (fun e => own_box M5.out.rlv B12'.out (by decide) (by rw [show (Value.slice (some ⟨gv, 0, none⟩) lv2.length vc2).ownBlock = some gv from rfl]; exact congrArg some e))]
                            exact B12'.out
                          have E := hide hsetM
                          have E12 := hide hset12
                          clear hsetM hset12
                          go_wp2_with fail
                          go_quiet (fail)
                          go_wp2_with fail
                          go_quiet (fail)
                          go_wp2_with fail
                          go_roundw
                          case rel =>
                            obtain ⟨_, h2, h3⟩ := HFIN.out
                            exact ⟨t + 1, true, lvx.set t sl, by go_num, rfl, by omega, by rw [List.length_set]; exact hlx, E.out _, E12.out _, .inr ⟨rfl, t, v', by rw [HL'.out, HLL.out], by rw [← h2]; exact HV'.out, by rw [if_pos hvs, h2], by omega⟩⟩
                          case measure => simp [intOf]; omega
                        · have hvsI : decide ((v' : Int) < (sl : Int)) = false := decide_eq_false (by omega)
                          go_wp2_with fail
                          go_quiet (fail)
                          go_wp2_with fail
                          go_quiet (fail)
                          go_wp2_with fail
                          go_roundw
                          case rel =>
                            obtain ⟨_, h2, h3⟩ := HFIN.out
                            exact ⟨t + 1, true, lvx, by go_num, rfl, by omega, hlx, M5.out.drewN _, B12'.out, .inr ⟨rfl, t, v', by rw [HL'.out, HLL.out], by rw [← h2]; exact HV'.out, by rw [if_neg hvs, h2], by omega⟩⟩
                          case measure => simp [intOf]; omega
                      · have hllI : ¬ (l' : Int) = (l : Int) := by omega
                        go_wp2_with fail
                        go_quiet (fail)
                        go_wp2_with fail
                        go_roundw
                        case rel =>
                          refine ⟨t + 1, found, lvx, by go_num, rfl, by omega, hlx, M5.out.drewN _, B12'.out, ?_⟩
                          rcases HC1.out with ⟨h1, h2, h3⟩ | ⟨h1, j0, v0, h2, h3, h4, h5⟩
                          · exact .inl ⟨h1, h2, HNOT.out hll h3⟩
                          · exact .inr ⟨h1, j0, v0, h2, h3, h4, by omega⟩
                        case measure => simp [intOf]; omega
                    · have htE : ¬ (t : Int) < (ls2.length : Int) := by omega
                      have htl : ls2.take t = ls2 := List.take_of_length_le (by omega)
                      rcases hcond with ⟨rfl, rfl, hnin⟩ | ⟨rfl, j0, v0, hj0, hv0, hlvx, _⟩
                      · rw [htl] at hnin
                        have HNEW := hide (HENC2.out.add hnin hl4 (s := sl))
                        have hnew1 := news_of wr [.int .u32 (l : Int)] 46
                        have hrowA : (wr.alloc (.cells [.int .u32 (l : Int)].toArray 46)).ownsRow w.heap.size 46 1 (.slice la2 ls2.length lc2) ls2.length (ls2.map e32) := m5.rls.alloc _
                        have bsz := m5.bs
                        have MID := hide (show ∀ (w2 : World) (g' cap' : Nat), w2.ownsRow w.heap.size 46 1 (.slice (some ⟨g', 0, none⟩) (ls2.length + 1) cap') (ls2.length + 1) (ls2.map e32 ++ [.int .u32 (l : Int)]) → (wr.alloc (.cells [.int .u32 (l : Int)].toArray 46)).grownBy w2 (Value.slice la2 ls2.length lc2).ownBlock →
                            MW w.heap.size w bx ⟨slot, rlow, rrel, i, some ⟨mb, 0, none⟩, ms.length, rc⟩ (.slice (some ⟨g', 0, none⟩) (ls2.length + 1) cap') (ls2 ++ [l]) (.slice va2 lvx.length vc2) lvx (.slice ea es.length ec) es w2 ∧ w2.heap[by12]? = some (.cells #[.int .u32 (l : Int), .int .u64 (sl : Int)] 59 (0, 0)) from fun w2 g' cap' h1 h2 => by
                          obtain ⟨a1, _, a3, a4, a5, a6⟩ := m5.app m5.rls h2
                          refine ⟨⟨a1 (by decide), by simpa [e32] using h1, a3 (by decide), a4 (by decide), a5, a6⟩, ?_⟩
                          rw [h2.block by12 (by have := heap_lt b12'; simp; omega) (fun e => own_box m5.rls b12' (by decide) e.symm), Below.heap_alloc _ _ _ (heap_lt b12')]
                          exact b12')
                        have M5 := hide m5
                        have FIN := hide (show ∀ (w2 w3 : World) (g1 c1 g2 c2 : Nat), MW w.heap.size w bx ⟨slot, rlow, rrel, i, some ⟨mb, 0, none⟩, ms.length, rc⟩ (.slice (some ⟨g1, 0, none⟩) (ls2.length + 1) c1) (ls2 ++ [l]) (.slice va2 lvx.length vc2) lvx (.slice ea es.length ec) es w2 → w3.ownsRow w.heap.size 30 1 (.slice (some ⟨g2, 0, none⟩) (lvx.length + 1) c2) (lvx.length + 1) (lvx.map e64 ++ [.int .u64 (sl : Int)]) → (w2.alloc (.cells [.int .u64 (sl : Int)].toArray 30)).grownBy w3 (Value.slice va2 lvx.length vc2).ownBlock →
                            MW w.heap.size w bx ⟨slot, rlow, rrel, i, some ⟨mb, 0, none⟩, ms.length, rc⟩ (.slice (some ⟨g1, 0, none⟩) (ls2.length + 1) c1) (ls2 ++ [l]) (.slice (some ⟨g2, 0, none⟩) (lvx.length + 1) c2) (lvx ++ [sl]) (.slice ea es.length ec) es w3 from fun w2 w3 g1 c1 g2 c2 hm h1 h2 => by
                          obtain ⟨a1, a2, _, a4, a5, a6⟩ := hm.app hm.rlv h2
                          exact ⟨a1 (by decide), a2 (by decide), by simpa [e64] using h1, a4 (by decide), a5, a6⟩)
                        clear m5 b12'
                        go_wp2_with (first
                          | (at_builtin; refine wpList_append_own _ rfl _ _ 60 rfl w.heap.size 46 i1 _ 1 4 Yba.underlying60 hi1 hz0 hz1 hz2 rfl (by decide) _ _ _ rfl hrowA ⟨wr.heap.size, 0, none⟩ 1 1 _ rfl rfl hnew1 (by simp [Value.oneCell']) (by simp only [maxLen]; omega) (by omega) (by simp; omega) ?_; intro v1 w2 hown1 hgrow1 _; obtain ⟨g1, cap1, rfl⟩ := ownsRow_succ hown1; obtain ⟨m6, b12a⟩ := MID.out w2 g1 cap1 hown1 hgrow1; have k0' : w2.cell? ⟨by12, 0, none⟩ = some (.int .u32 (l : Int)) := cell_of b12a rfl; have k1' : w2.cell? ⟨by12, 1, none⟩ = some (.int .u64 (sl : Int)) := cell_of b12a rfl; have hrowB : (w2.alloc (.cells [.int .u64 (sl : Int)].toArray 30)).ownsRow w.heap.size 30 1 (.slice va2 lvx.length vc2) lvx.length (lvx.map e64) := m6.rlv.alloc _; have hnew2 := news_of w2 [.int .u64 (sl : Int)] 30; have bsz2 := m6.bs; have M6 := hide m6; clear hown1 hgrow1 b12a m6)
                          | (at_builtin; refine wpList_append_own _ rfl _ _ 61 rfl w.heap.size 30 i2 _ 1 8 Yba.underlying61 hi2 hy0 hy1 hy2 rfl (by decide) _ _ _ rfl hrowB ⟨w2.heap.size, 0, none⟩ 1 1 _ rfl rfl hnew2 (by simp [Value.oneCell']) (by simp only [maxLen]; omega) (by omega) (by simp; omega) ?_; intro v2 w3 hown2 hgrow2 _; obtain ⟨g2, cap2, rfl⟩ := ownsRow_succ hown2; have M7 := hide (FIN.out w2 w3 g1 cap1 g2 cap2 M6.out hown2 hgrow2); clear hown2 hgrow2))
                        go_roundw
                        case rel =>
                          refine ⟨j + 1, some ⟨g1, 0, none⟩, cap1, some ⟨g2, 0, none⟩, cap2, ls2 ++ [l], lvx ++ [sl], by go_num, by omega, by simp [hlen2], by simp, by rw [raiseAll_take _ _ _ _ _ HLS.out]; exact HNEW.out, ?_⟩
                          rw [List.length_append, List.length_append]
                          exact M7.out
                        case measure => simp [intOf]; omega
                      · have HNEW := hide (HENC2.out.rise hj0 hv0 (s := sl))
                        have M5 := hide m5
                        clear m5 b12'
                        go_wp2_with fail
                        go_roundw
                        case rel =>
                          refine ⟨j + 1, _, _, _, _, ls2, lvx, by go_num, by omega, rfl, by rw [hlx], by rw [raiseAll_take _ _ _ _ _ HLS.out, hlvx]; exact HNEW.out, ?_⟩
                          rw [hlx]
                          exact M5.out
                        case measure => simp [intOf]; omega
                · have hjE : ¬ (j : Int) < (ms.length : Int) := by omega
                  have HENC2 := hide henc2
                  have M3 := hide m3
                  clear henc2 m3
                  go_wp2_with fail
                  go_meet
                  case rel =>
                    have e := HENC2.out
                    rw [List.take_of_length_le (by omega)] at e
                    exact ⟨la2, lc2, va2, vc2, ls2, lv2, rfl, rfl, by rw [E1.out]; exact e, M3.out⟩
          case rest =>
            obtain ⟨la3, lc3, va3, vc3, ls3, lv3, rfl, rfl, henc3, m3⟩ := hcut
            obtain ⟨W3, hW3⟩ : ∃ W3, W3 = wc := ⟨_, rfl⟩
            subst hW3
            obtain ⟨low1, hlow1⟩ : ∃ x, (lowP st ⟨slot, rlow, rrel, i, ra, rl, rc⟩).low = x := ⟨_, rfl⟩
            obtain ⟨k, hk⟩ : ∃ x, kMin low1 (regG st.rel st.g rrel ms) = x := ⟨_, rfl⟩
            have hl3n : lv3.length ≤ 4 := by rw [← henc3.len]; exact henc3.size
            have M3 := hide m3
            have HENC3 := hide henc3
            have HLOW1 := hide hlow1
            have HK := hide hk
            rw [hlow1]
            clear M2 HENC1 y5' y4 m3 henc3 hlow1 hk
            go_upto_block 6 with fail
            go_cut [15, 17, 100] from 101 to 161 (fun s15 _ _ wx => s15 = .int .u64 (k : Int) ∧ wx = W3)
            case first =>
              go_wp2_with fail
              go_loopw [15, 17, 100] (fun s15 _ s100 wx => ∃ (j x : Nat), s100 = .int .i64 (j : Int) ∧ j ≤ lv3.length ∧ s15 = .int .u64 (x : Int) ∧ x ≤ low1 ∧ (∀ v ∈ lv3.take j, x ≤ v) ∧ (x = low1 ∨ x ∈ lv3.take j) ∧ wx = W3) (fun _ _ s100 _ => lv3.length - (intOf s100).toNat)
              case atStart => exact ⟨0, low1, rfl, Nat.zero_le _, rfl, Nat.le_refl _, fun v hv => by simp at hv, .inl rfl, rfl⟩
              case round =>
                obtain ⟨j, x, rfl, hjn, rfl, hx1, hx2, hx3, hw⟩ := hrel
                have hw' := hw.symm
                subst hw'
                by_cases hj : j < lv3.length
                · have hjI : (j : Int) < (lv3.length : Int) := by omega
                  obtain ⟨v', hv'⟩ : ∃ v', lv3[j]? = some v' := ⟨_, List.getElem?_eq_getElem hj⟩
                  obtain ⟨gv, rfl, cv0, _, _⟩ := own_cell M3.out.rlv (i := j) (u := .int .u64 (v' : Int)) (by rw [List.getElem?_map, hv']; rfl)
                  have htk : lv3.take (j + 1) = lv3.take j ++ [v'] := by rw [List.take_add_one, hv']; rfl
                  have HTK := hide htk
                  have HX2 := hide hx2
                  have HX3 := hide hx3
                  clear htk hx2 hx3 hv'
                  by_cases hlt : v' < x
                  · have hltI : (v' : Int) < (x : Int) := by omega
                    go_wp2_with fail
                    go_roundw
                    case rel =>
                      refine ⟨j + 1, v', by go_num, by omega, rfl, by omega, fun u hu => ?_, .inr (by rw [HTK.out]; simp), by first | rfl | trivial⟩
                      rw [HTK.out] at hu
                      rcases List.mem_append.1 hu with h | h
                      · have := HX2.out u h; omega
                      · simp at h; omega
                    case measure => simp [intOf]; omega
                  · have hltI : ¬ (v' : Int) < (x : Int) := by omega
                    go_wp2_with fail
                    go_roundw
                    case rel =>
                      refine ⟨j + 1, x, by go_num, by omega, rfl, hx1, fun u hu => ?_, ?_, by first | rfl | trivial⟩
                      · rw [HTK.out] at hu
                        rcases List.mem_append.1 hu with h | h
                        · exact HX2.out u h
                        · simp at h; omega
                      · rcases HX3.out with h | h
                        · exact .inl h
                        · exact .inr (by rw [HTK.out]; simp [h])
                    case measure => simp [intOf]; omega
                · have hjE : ¬ (j : Int) < (lv3.length : Int) := by omega
                  have hE : lv3.take j = lv3 := List.take_of_length_le (by omega)
                  rw [hE] at hx2 hx3
                  have e : x = k := by rw [← HK.out]; exact HENC3.out.isMin hx1 hx2 hx3
                  go_wp2_with fail
                  go_meet
                  case rel => exact ⟨by first | rfl | rw [e], by first | rfl | trivial⟩
            case rest =>
              obtain ⟨rfl, hw⟩ := hcut
              have hw' := hw.symm
              subst hw'
              obtain ⟨bl4, hbl4⟩ : ∃ bl : Bool, decide (st.kept < k) = bl := ⟨_, rfl⟩
              go_upto_if 111 with fail
              go_cut [4, 111] from 112 to 161 (fun s4 _ wx => s4 = .int .u64 ((if st.kept < k then k else st.kept : Nat) : Int) ∧ wx = W3)
              case first =>
                cases bl4 with
                | true =>
                  have hlt : st.kept < k := by simpa using hbl4
                  go_wp2_with fail
                  go_meet
                  case rel => exact ⟨by rw [if_pos hlt], by first | rfl | trivial⟩
                | false =>
                  have hlt : ¬ st.kept < k := by simpa using hbl4
                  go_wp2_with fail
                  go_meet
                  case rel => exact ⟨by rw [if_neg hlt], by first | rfl | trivial⟩
              case rest =>
                obtain ⟨rfl, hw⟩ := hcut
                have hw' := hw.symm
                subst hw'
                obtain ⟨kp, hkp⟩ : ∃ kp : Nat, (if st.kept < k then k else st.kept) = kp := ⟨_, rfl⟩
                rw [hkp]
                have HKP := hide hkp
                obtain ⟨i3, hi3, hz0, hz1, hz2⟩ := info_parts Yba.info64
                have hes16 : es.length ≤ 16 := HENT.out.len INV2.out.inv
                clear hkp hbl4
                go_upto_block 8 with fail
                go_cut [18, 20, 115] from 116 to 161 (fun s18 _ _ wx => ∃ na nc, s18 = .slice na (es.filter (fun p => decide (kp ≤ p.1))).length nc ∧ wx.ownsRow w.heap.size 64 2 (.slice na (es.filter (fun p => decide (kp ≤ p.1))).length nc) (es.filter (fun p => decide (kp ≤ p.1))).length ((es.filter (fun p => decide (kp ≤ p.1))).flatMap ecl) ∧ Below W3.heap.size W3 wx)
                case first =>
                  go_wp2_with fail
                  go_loopw [18, 20, 115] (fun s18 _ s115 wx => ∃ (j : Nat) (na : Option Addr) (nc : Nat), s115 = .int .i64 (j : Int) ∧ j ≤ es.length ∧ s18 = .slice na ((es.take j).filter (fun p => decide (kp ≤ p.1))).length nc ∧ wx.ownsRow W3.heap.size 64 2 (.slice na ((es.take j).filter (fun p => decide (kp ≤ p.1))).length nc) ((es.take j).filter (fun p => decide (kp ≤ p.1))).length (((es.take j).filter (fun p => decide (kp ≤ p.1))).flatMap ecl) ∧ Below W3.heap.size W3 wx) (fun _ _ s115 _ => es.length - (intOf s115).toNat)
                  case atStart => exact ⟨0, none, 0, rfl, Nat.zero_le _, rfl, World.ownsRow_nil _ _ _ _, Below.refl _ _⟩
                  case round =>
                    obtain ⟨j, na, nc, rfl, hjn, rfl, hnrow, hnbel⟩ := hrel
                    have hsz : W3.heap.size ≤ wr.heap.size := hnbel.size
                    by_cases hj : j < es.length
                    · have hjI : (j : Int) < (es.length : Int) := by omega
                      obtain ⟨⟨es1, es2⟩, hp⟩ : ∃ p, es[j]? = some p := ⟨_, List.getElem?_eq_getElem hj⟩
                      obtain ⟨q1, q2⟩ := ecs_at es j (es1, es2) hp
                      obtain ⟨ge, rfl, ce0, _, _⟩ := own_cell M3.out.rent q1
                      obtain ⟨ge', e9, ce1, _, _⟩ := own_cell M3.out.rent q2
                      cases e9
                      have de0 : wr.cell? ⟨ge, j * 2, none⟩ = some (.int .u64 (es1 : Int)) := by rw [hnbel.cell (p := ⟨ge, j * 2, none⟩) (cell_lt ce0)]; exact ce0
                      have de1 : wr.cell? ⟨ge, j * 2 + 1, none⟩ = some (.int .i64 (es2 : Int)) := by rw [hnbel.cell (p := ⟨ge, j * 2 + 1, none⟩) (cell_lt ce1)]; exact ce1
                      obtain ⟨nn, hnn⟩ : ∃ nn, ((es.take j).filter (fun p => decide (kp ≤ p.1))).length = nn := ⟨_, rfl⟩
                      have hnn16 : nn ≤ 16 := by
                        rw [← hnn]
                        have := List.length_filter_le (fun p : Nat × Nat => decide (kp ≤ p.1)) (es.take j)
                        rw [List.length_take] at this
                        omega
                      have htk : es.take (j + 1) = es.take j ++ [(es1, es2)] := by rw [List.take_add_one, hp]; rfl
                      rw [hnn] at hnrow ⊢
                      have HTK := hide htk
                      have HNN := hide hnn
                      clear hp q1 q2 ce0 ce1 htk hnn
                      by_cases hkeep : kp ≤ es1
                      · have hkI : (kp : Int) ≤ (es1 : Int) := by omega
                        have hrowA : ((wr.alloc (.cells #[.int .u64 (es1 : Int), .int .i64 (es2 : Int)] 64)).alloc (.cells [.int .u64 (es1 : Int), .int .i64 (es2 : Int)].toArray 64)).ownsRow W3.heap.size 64 2 (.slice na nn nc) nn (((es.take j).filter (fun p => decide (kp ≤ p.1))).flatMap ecl) := (hnrow.alloc _).alloc _
                        have hnews : ∀ (jj : Nat) (u : Value), [Value.int .u64 (es1 : Int), Value.int .i64 (es2 : Int)][jj]? = some u → ((wr.alloc (.cells #[.int .u64 (es1 : Int), .int .i64 (es2 : Int)] 64)).alloc (.cells [.int .u64 (es1 : Int), .int .i64 (es2 : Int)].toArray 64)).cell? ((⟨wr.heap.size + 1, 0, none⟩ : Addr).add jj) = some u := by
                          have := news_of (wr.alloc (.cells #[.int .u64 (es1 : Int), .int .i64 (es2 : Int)] 64)) [.int .u64 (es1 : Int), .int .i64 (es2 : Int)] 64
                          simp only [World.size_alloc] at this
                          exact this
                        have FIN := hide (show ∀ (w2 : World) (g' cap' : Nat), w2.ownsRow W3.heap.size 64 2 (.slice (some ⟨g', 0, none⟩) (nn + 1) cap') (nn + 1) (((es.take j).filter (fun p => decide (kp ≤ p.1))).flatMap ecl ++ [.int .u64 (es1 : Int), .int .i64 (es2 : Int)]) → ((wr.alloc (.cells #[.int .u64 (es1 : Int), .int .i64 (es2 : Int)] 64)).alloc (.cells [.int .u64 (es1 : Int), .int .i64 (es2 : Int)].toArray 64)).grownBy w2 (Value.slice na nn nc).ownBlock →
                            ((es.take (j + 1)).filter (fun p => decide (kp ≤ p.1))).length = nn + 1 ∧ w2.ownsRow W3.heap.size 64 2 (.slice (some ⟨g', 0, none⟩) (nn + 1) cap') (nn + 1) (((es.take (j + 1)).filter (fun p => decide (kp ≤ p.1))).flatMap ecl) ∧ Below W3.heap.size W3 w2 from fun w2 g' cap' h1 h2 => by
                          have e : (es.take (j + 1)).filter (fun p => decide (kp ≤ p.1)) = (es.take j).filter (fun p => decide (kp ≤ p.1)) ++ [(es1, es2)] := by
                            rw [HTK.out, List.filter_append]
                            simp [hkeep]
                          refine ⟨by rw [e, List.length_append, HNN.out]; rfl, ?_, below_row (hnbel.alloc hsz _) (by simp; omega) (hnrow.alloc _) h2 rfl⟩
                          rw [e, List.flatMap_append]
                          exact h1)
                        clear hnrow hnbel
                        go_wp2_with (at_builtin; refine wpList_append_own _ rfl _ _ 62 rfl W3.heap.size 64 i3 _ 2 16 Yba.underlying62 hi3 hz0 hz1 hz2 rfl (by decide) _ _ _ rfl hrowA ⟨wr.heap.size + 1, 0, none⟩ 1 1 _ rfl rfl hnews (by simp [Value.oneCell']) (by simp only [maxLen]; omega) (by omega) (by simp; omega) ?_; intro v1 w2 hown1 hgrow1 _; obtain ⟨g1, cap1, rfl⟩ := ownsRow_succ hown1; obtain ⟨e1, e2, e3⟩ := FIN.out w2 g1 cap1 hown1 hgrow1; have E1 := hide e1; have E2 := hide e2; have E3 := hide e3; clear hown1 hgrow1 e1 e2 e3)
                        go_roundw
                        case rel => exact ⟨j + 1, some ⟨g1, 0, none⟩, cap1, by go_num, by omega, by rw [E1.out], by rw [E1.out]; exact E2.out, E3.out⟩
                        case measure => simp [intOf]; omega
                      · have hkI : ¬ (kp : Int) ≤ (es1 : Int) := by omega
                        have e : (es.take (j + 1)).filter (fun p => decide (kp ≤ p.1)) = (es.take j).filter (fun p => decide (kp ≤ p.1)) := by
                          rw [HTK.out, List.filter_append]
                          simp [hkeep]
                        have EE := hide e
                        have NR := hide hnrow
                        have NB := hide hnbel
                        clear hnrow hnbel e
                        go_wp2_with fail
                        go_roundw
                        case rel => exact ⟨j + 1, na, nc, by go_num, by omega, by rw [EE.out, HNN.out], by rw [EE.out, HNN.out]; exact NR.out.alloc _, NB.out.alloc hsz _⟩
                        case measure => simp [intOf]; omega
                    · have hjE : ¬ (j : Int) < (es.length : Int) := by omega
                      rw [List.take_of_length_le (by omega)] at hnrow ⊢
                      have NR := hide hnrow
                      have NB := hide hnbel
                      clear hnrow hnbel
                      go_wp2_with fail
                      go_meet
                      case rel => exact ⟨na, nc, rfl, own_mono NR.out M3.out.bs, NB.out⟩
                case rest =>
                  obtain ⟨na, nc, rfl, hnrow, hnbel⟩ := hcut
                  obtain ⟨es1, hes1⟩ : ∃ es1, es.filter (fun p => decide (kp ≤ p.1)) = es1 := ⟨_, rfl⟩
                  rw [hes1] at hnrow ⊢
                  have m4 := M3.out.fr hnbel (Nat.le_refl _)
                  have m5 : MW w.heap.size w bx ⟨slot, rlow, rrel, i, ra, rl, rc⟩ (.slice la3 ls3.length lc3) ls3 (.slice va3 lv3.length vc3) lv3 (.slice na es1.length nc) es1 wc := ⟨m4.box, m4.rls, m4.rlv, hnrow, m4.bel, m4.bs⟩
                  have hst4 : compP (ps.take (i + 1)) = putP (keptP (regP (lowP st ⟨slot, rlow, rrel, i, ra, rl, rc⟩) ⟨slot, rlow, rrel, i, ra, rl, rc⟩ ms)) ⟨slot, rlow, rrel, i, ra, rl, rc⟩ := NEXT.out
                  obtain ⟨st4, hst4E⟩ : ∃ st4, keptP (regP (lowP st ⟨slot, rlow, rrel, i, ra, rl, rc⟩) ⟨slot, rlow, rrel, i, ra, rl, rc⟩ ms) = st4 := ⟨_, rfl⟩
                  rw [hst4E] at hst4
                  have hlf := lowP_facts st ⟨slot, rlow, rrel, i, ra, rl, rc⟩
                  have inv3 : Inv2 (regP (lowP st ⟨slot, rlow, rrel, i, ra, rl, rc⟩) ⟨slot, rlow, rrel, i, ra, rl, rc⟩ ms) := by
                    have h2 := INV2.out.lowP (r := ⟨slot, rlow, rrel, i, ra, rl, rc⟩) hp2
                    exact ⟨h2.inv.regP _ _, h2.kl, h2.hk⟩
                  have hkf := keptP_facts (regP (lowP st ⟨slot, rlow, rrel, i, ra, rl, rc⟩) ⟨slot, rlow, rrel, i, ra, rl, rc⟩ ms)
                  have f1 : st4.low = low1 := by rw [← hst4E, hkf.1]; exact HLOW1.out
                  have f2 : st4.kept = kp := by
                    rw [← hst4E, hkf.2.2.2, ← HKP.out]
                    have e1 : kMin (regP (lowP st ⟨slot, rlow, rrel, i, ra, rl, rc⟩) ⟨slot, rlow, rrel, i, ra, rl, rc⟩ ms).low (regP (lowP st ⟨slot, rlow, rrel, i, ra, rl, rc⟩) ⟨slot, rlow, rrel, i, ra, rl, rc⟩ ms).g = k := by
                      rw [← HK.out, ← HLOW1.out]
                      show kMin _ (regG (lowP st ⟨slot, rlow, rrel, i, ra, rl, rc⟩).rel (lowP st ⟨slot, rlow, rrel, i, ra, rl, rc⟩).g rrel ms) = _
                      rw [hlf.2.1, hlf.2.2]
                      rfl
                    have e2 : (regP (lowP st ⟨slot, rlow, rrel, i, ra, rl, rc⟩) ⟨slot, rlow, rrel, i, ra, rl, rc⟩ ms).kept = st.kept := hlf.1
                    rw [e1, e2]
                  have f3 : st4.rel = R1 := by
                    rw [← hst4E, hkf.2.1, ← HR1.out]
                    show regR (lowP st ⟨slot, rlow, rrel, i, ra, rl, rc⟩).rel rrel = _
                    rw [hlf.2.1]
                  have f4 : st4.g = regG st.rel st.g rrel ms := by
                    rw [← hst4E, hkf.2.2.1]
                    show regG (lowP st ⟨slot, rlow, rrel, i, ra, rl, rc⟩).rel (lowP st ⟨slot, rlow, rrel, i, ra, rl, rc⟩).g rrel ms = _
                    rw [hlf.2.1, hlf.2.2]
                  have inv4 : Inv2 st4 := by rw [← hst4E]; exact inv3.keptP
                  have hent4 : EntOK es1 (outP st4) := by
                    have e0 := out_keptP inv3
                    rw [hst4E] at e0
                    rw [e0, ← hes1, f2]
                    refine EntOK.filter ?_ kp
                    have e1 : outP (regP (lowP st ⟨slot, rlow, rrel, i, ra, rl, rc⟩) ⟨slot, rlow, rrel, i, ra, rl, rc⟩ ms) = outP st := out_lowP st ⟨slot, rlow, rrel, i, ra, rl, rc⟩ hp2
                    rw [e1]
                    exact HENT.out
                  have M5 := hide m5
                  have HENT4 := hide hent4
                  have HST4 := hide hst4
                  have INV4 := hide inv4
                  have F1 := hide f1
                  have F2 := hide f2
                  have F3 := hide f3
                  have F4 := hide f4
                  have he16 : es1.length ≤ 16 := hent4.len inv4.inv
                  have y0 : wc.cell? ⟨bx, 0, none⟩ = some (.int .u64 (slot : Int)) := cell_of m5.box rfl
                  clear hlf inv3 hkf f1 f2 f3 f4 inv4 hent4 m4 m5 hnrow hnbel hes1 hst4 hst4E M3 HENT NEXT INV2 HKP HK HLOW1
                  obtain ⟨W5, hW5⟩ : ∃ W5, W5 = wc := ⟨_, rfl⟩
                  subst hW5
                  have REL := hide (show ∀ (ea2 : Option Addr) (ec2 : Nat) (es2 : List (Nat × Nat)) (wx : World), EntOK es2 (outP (putP st4 ⟨slot, rlow, rrel, i, ra, rl, rc⟩)) → MR w.heap.size w (.slice la3 ls3.length lc3) ls3 (.slice va3 lv3.length vc3) lv3 (.slice ea2 es2.length ec2) es2 wx → MS w ps (i + 1) (.int .u64 (low1 : Int)) (.int .u64 (kp : Int)) (.int .u64 (R1 : Int)) (.slice la3 ls3.length lc3) (.slice va3 lv3.length vc3) (.slice ea2 es2.length ec2) wx from fun ea2 ec2 es2 wx h1 h2 => by
                    have hpf := putP_facts st4 ⟨slot, rlow, rrel, i, ra, rl, rc⟩
                    refine ⟨la3, lc3, va3, vc3, ea2, ec2, ls3, lv3, es2, ?_, ?_, ?_, rfl, rfl, rfl, ?_, ?_, h2⟩
                    · rw [HST4.out, hpf.1, F1.out]
                    · rw [HST4.out, hpf.2.2.2, F2.out]
                    · rw [HST4.out, hpf.2.1, F3.out]
                    · rw [HST4.out, hpf.2.2.1, F4.out]; exact HENC3.out
                    · rw [HST4.out]; exact h1)
                  by_cases hsl : slot < low1
                  · have hslI : ¬ (low1 : Int) ≤ (slot : Int) := by omega
                    have e : putP st4 ⟨slot, rlow, rrel, i, ra, rl, rc⟩ = st4 := if_pos (by rw [F1.out]; exact hsl)
                    have E := hide (REL.out na nc es1 W5 (by rw [e]; exact HENT4.out) ⟨M5.out.rls, M5.out.rlv, M5.out.rent, M5.out.bel, M5.out.bs⟩)
                    go_wp2_with fail
                    go_roundw
                    case rel => exact ⟨i + 1, by go_num, by omega, E.out⟩
                    case measure => simp [intOf]; omega
                  · have hslI : (low1 : Int) ≤ (slot : Int) := by omega
                    have hsl4 : ¬ slot < st4.low := by rw [F1.out]; exact hsl
                    go_wp2_with fail
                    go_loopw [21, 22] (fun s21 s22 wx => ∃ (t : Nat) (found : Bool) (c : List (Nat × Nat)), s22 = .int .i64 (t : Int) ∧ s21 = .bool found ∧ t ≤ es1.length ∧ c.length = es1.length ∧ (∀ (q : Nat) (p : Nat × Nat), es1[q]? = some p → c[q]? = some (if q < t then putF slot i p else p)) ∧ (found = true ↔ ∃ (q : Nat) (p : Nat × Nat), q < t ∧ es1[q]? = some p ∧ p.1 = slot) ∧ MW w.heap.size w bx ⟨slot, rlow, rrel, i, ra, rl, rc⟩ (.slice la3 ls3.length lc3) ls3 (.slice va3 lv3.length vc3) lv3 (.slice na es1.length nc) c wx) (fun _ s22 _ => es1.length - (intOf s22).toNat)
                    case atStart => exact ⟨0, false, es1, rfl, rfl, Nat.zero_le _, rfl, fun q p hq => by simpa using hq, ⟨fun h => (by cases h), fun ⟨q, p, h, _⟩ => (by omega)⟩, M5.out⟩
                    case round =>
                      obtain ⟨t, found, c, rfl, rfl, htn, hcl, hc, hf, m6⟩ := hrel
                      have z0 : wr.cell? ⟨bx, 0, none⟩ = some (.int .u64 (slot : Int)) := cell_of m6.box rfl
                      by_cases ht : t < es1.length
                      · have htI : (t : Int) < (es1.length : Int) := by omega
                        obtain ⟨⟨p1, p2⟩, hp⟩ : ∃ p, es1[t]? = some p := ⟨_, List.getElem?_eq_getElem ht⟩
                        have hct : c[t]? = some (p1, p2) := by have := hc t _ hp; rw [if_neg (by omega)] at this; exact this
                        obtain ⟨ge, rfl, ce0, _, _⟩ := own_cell (n := es1.length) (by rw [← hcl] at m6 ⊢; exact m6.rent) (ecs_at c t _ hct).1
                        obtain ⟨_, e9, ce1, fe1, _⟩ := own_cell (n := es1.length) (by rw [← hcl] at m6 ⊢; exact m6.rent) (ecs_at c t _ hct).2
                        cases e9
                        simp only at ce0 ce1
                        have M6 := hide m6
                        have HCC := hide hc
                        have HFF := hide hf
                        have HP := hide hp
                        have HCT := hide hct
                        clear m6 hc hf hp hct
                        by_cases hps : p1 = slot
                        · have hpsI : (p1 : Int) = (slot : Int) := by omega
                          have HPS := hide hps
                          have E := hide (fun q1 : Nat => (M6.out.drewN q1).setEnt HCT.out hcl.symm i)
                          clear hps
                          go_wp2_with fail
                          go_quiet (fail)
                          go_wp2_with fail
                          go_roundw
                          case rel =>
                            refine ⟨t + 1, true, c.set t (p1, i), by go_num, rfl, by omega, by rw [List.length_set]; exact hcl, fun q p hq => ?_, ⟨fun _ => ⟨t, (p1, p2), by omega, HP.out, HPS.out⟩, fun _ => rfl⟩, E.out _⟩
                            by_cases e : q = t
                            · subst e
                              rw [HP.out] at hq
                              cases hq
                              rw [List.getElem?_set_self (by omega), if_pos (by omega)]
                              simp [putF, HPS.out]
                            · rw [List.getElem?_set_ne (Ne.symm e), HCC.out q p hq]
                              by_cases h : q < t
                              · rw [if_pos h, if_pos (by omega)]
                              · rw [if_neg h, if_neg (by omega)]
                          case measure => simp [intOf]; omega
                        · have hpsI : ¬ (p1 : Int) = (slot : Int) := by omega
                          go_wp2_with fail
                          go_quiet (fail)
                          go_wp2_with fail
                          go_roundw
                          case rel =>
                            refine ⟨t + 1, found, c, by go_num, rfl, by omega, hcl, fun q p hq => ?_, ?_, M6.out.drewN _⟩
                            · rw [HCC.out q p hq]
                              by_cases e : q = t
                              · subst e
                                rw [HP.out] at hq
                                cases hq
                                rw [if_neg (by omega), if_pos (by omega)]
                                simp [putF, hps]
                              · by_cases h : q < t
                                · rw [if_pos h, if_pos (by omega)]
                                · rw [if_neg h, if_neg (by omega)]
                            · rw [HFF.out]
                              constructor
                              · rintro ⟨q, p, h1, h2⟩; exact ⟨q, p, by omega, h2⟩
                              · rintro ⟨q, p, h1, h2, h3⟩
                                refine ⟨q, p, ?_, h2, h3⟩
                                rcases Nat.lt_or_ge q t with h | h
                                · exact h
                                · have : q = t := by omega
                                  subst this
                                  rw [HP.out] at h2
                                  cases h2
                                  exact absurd h3 hps
                          case measure => simp [intOf]; omega
                      · have htE : ¬ (t : Int) < (es1.length : Int) := by omega
                        have hcE : c = es1.map (putF slot i) := by
                          apply List.ext_getElem?
                          intro q
                          rw [List.getElem?_map]
                          cases hq : es1[q]? with
                          | none =>
                            have : es1.length ≤ q := List.getElem?_eq_none_iff.1 hq
                            exact List.getElem?_eq_none_iff.2 (by omega)
                          | some p =>
                            rw [hc q p hq, if_pos (by have := (List.getElem?_eq_some_iff.1 hq).1; omega)]
                            rfl
                        have HCE := hide hcE
                        cases found with
                        | true =>
                          obtain ⟨q, p, _, hq, hps⟩ := hf.1 rfl
                          have hnew := HENT4.out.putIn INV4.out.inv (r := ⟨slot, rlow, rrel, i, ra, rl, rc⟩) hp1 hsl4 ⟨p, List.mem_of_getElem? hq, hps⟩
                          rw [← hcE] at hnew
                          have E := hide (REL.out na nc c wr hnew (by rw [hcl]; exact ⟨m6.rls, m6.rlv, m6.rent, m6.bel, m6.bs⟩))
                          rw [hcl] at E
                          clear hc hf m6 hcE hnew
                          go_wp2_with fail
                          go_roundw
                          case rel => exact ⟨i + 1, by go_num, by omega, E.out⟩
                          case measure => simp [intOf]; omega
                        | false =>
                          have hno : ∀ p ∈ es1, p.1 ≠ slot := fun p hp h => by
                            obtain ⟨q, hq⟩ := List.mem_iff_getElem?.1 hp
                            have := hf.2 ⟨q, p, by have := (List.getElem?_eq_some_iff.1 hq).1; omega, hq, h⟩
                            cases this
                          have hnew := HENT4.out.putNew INV4.out.inv (r := ⟨slot, rlow, rrel, i, ra, rl, rc⟩) hp1 hsl4 hno
                          have hc1 : c = es1 := by rw [hcE]; exact putF_none hno
                          subst hc1
                          have hnews := news_of wr [.int .u64 (slot : Int), .int .i64 (i : Int)] 64
                          have hrowA : (wr.alloc (.cells [.int .u64 (slot : Int), .int .i64 (i : Int)].toArray 64)).ownsRow w.heap.size 64 2 (.slice na c.length nc) c.length (c.flatMap ecl) := m6.rent.alloc _
                          have bsz := m6.bs
                          have FIN := hide (show ∀ (w2 : World) (g' cap' : Nat), w2.ownsRow w.heap.size 64 2 (.slice (some ⟨g', 0, none⟩) (c.length + 1) cap') (c.length + 1) (c.flatMap ecl ++ [.int .u64 (slot : Int), .int .i64 (i : Int)]) → (wr.alloc (.cells [.int .u64 (slot : Int), .int .i64 (i : Int)].toArray 64)).grownBy w2 (Value.slice na c.length nc).ownBlock → MS w ps (i + 1) (.int .u64 (low1 : Int)) (.int .u64 (kp : Int)) (.int .u64 (R1 : Int)) (.slice la3 ls3.length lc3) (.slice va3 lv3.length vc3) (.slice (some ⟨g', 0, none⟩) (c.length + 1) cap') w2 from fun w2 g' cap' h1 h2 => by
                            obtain ⟨_, a2, a3, _, a5, a6⟩ := m6.app m6.rent h2
                            have := REL.out (some ⟨g', 0, none⟩) cap' (c ++ [(slot, i)]) w2 hnew ⟨a2 (by decide), a3 (by decide), by rw [List.length_append, List.flatMap_append]; exact h1, a5, a6⟩
                            rw [List.length_append] at this
                            exact this)
                          clear hc hf m6 hcE hnew HCE
                          go_wp2_with (at_builtin; refine wpList_append_own _ rfl _ _ 62 rfl w.heap.size 64 i3 _ 2 16 Yba.underlying62 hi3 hz0 hz1 hz2 rfl (by decide) _ _ _ rfl hrowA ⟨wr.heap.size, 0, none⟩ 1 1 _ rfl rfl hnews (by simp [Value.oneCell']) (by simp only [maxLen]; omega) (by omega) (by simp; omega) ?_; intro v1 w2 hown1 hgrow1 _; obtain ⟨g1, cap1, rfl⟩ := ownsRow_succ hown1; have E := hide (FIN.out w2 g1 cap1 hown1 hgrow1); clear hown1 hgrow1)
                          go_roundw
                          case rel => exact ⟨i + 1, by go_num, by omega, E.out⟩
                          case measure => simp [intOf]; omega
    · have hiE : ¬ (i : Int) < (ps.length : Int) := by omega
      obtain ⟨lsa, lsc, lva, lvc, ea, ec, ls, lv, es, rfl, rfl, rfl, rfl, rfl, rfl, _, hent, hmr⟩ := hms
      rw [List.take_of_length_le (by omega)] at hent ⊢
      have inv : Inv2 (compP ps) := compP_inv2 _ (fun q hq => by
        obtain ⟨j, hj⟩ := List.mem_iff_getElem?.1 hq
        exact (HC.out j q hj).1)
      have hes16 : es.length ≤ 16 := hent.len inv.inv
      have HENT := hide hent
      have INV := hide inv
      have RW0 := hide (show RowE w (.slice ea es.length ec) es.length es wr from ⟨rfl, hmr.rent, hmr.bel, hmr.bs⟩)
      obtain ⟨st, hst⟩ : ∃ st, compP ps = st := ⟨_, rfl⟩
      obtain ⟨n, hnE⟩ : ∃ n, es.length = n := ⟨_, rfl⟩
      have HNE := hide hnE
      rw [hnE] at hes16 RW0 ⊢
      have HST := hide hst
      clear hent hmr inv hst hnE HC HLOG
      go_upto_block 12 with fail
      go_cut [23, 24, 25] from 162 (fun _ _ _ wx => ∃ c : List (Nat × Nat), c.Perm es ∧ c.Pairwise (fun a b => a.1 ≤ b.1) ∧ RowE w (.slice ea n ec) n c wx)
      case first =>
        go_wp2_with fail
        go_loopw [23, 24, 25] (fun s23 _ _ wx => ∃ (a : Nat) (c : List (Nat × Nat)), s23 = .int .i64 (a : Int) ∧ 1 ≤ a ∧ a ≤ n + 1 ∧ c.Perm es ∧ (∀ (p q : Nat) (x y : Nat × Nat), p < q → q < a → c[p]? = some x → c[q]? = some y → x.1 ≤ y.1) ∧ RowE w (.slice ea n ec) n c wx) (fun s23 _ _ _ => n + 1 - (intOf s23).toNat)
        case atStart => exact ⟨1, es, rfl, Nat.le_refl _, by omega, List.Perm.refl _, fun p q x y h1 h2 => by omega, RW0.out⟩
        case round =>
          obtain ⟨a, c, rfl, ha1, han, hperm, hsort, hrw⟩ := hrel
          have hcl : c.length = n := hrw.len
          by_cases ha : a < n
          · have haI : (a : Int) < (n : Int) := by omega
            have RW1 := hide hrw
            have HPERM := hide hperm
            have HSORT := hide hsort
            clear hrw hperm hsort RW0
            go_wp2_with fail
            go_loopw [24, 25] (fun s24 _ wx => ∃ (b : Nat) (c' : List (Nat × Nat)), s24 = .int .i64 (b : Int) ∧ b ≤ a ∧ c'.Perm es ∧ SI a b c' ∧ RowE w (.slice ea n ec) n c' wx) (fun s24 _ _ => (intOf s24).toNat)
            case atStart => exact ⟨a, c, rfl, Nat.le_refl _, HPERM.out, SI.start HSORT.out, RW1.out⟩
            case round =>
              obtain ⟨b, c', rfl, hba, hperm', hsi, hrw'⟩ := hrel
              have hcl' : c'.length = n := hrw'.len
              cases b with
              | zero =>
                have hb0 : decide ((0 : Int) < ((0 : Nat) : Int)) = false := by decide
                have RW2 := hide hrw'
                have SO := hide (hsi.stop (.inl rfl))
                have HP2 := hide hperm'
                clear hrw' hsi hperm'
                go_wp2_with fail
                go_quiet (fail)
                go_wp2_with fail
                go_roundw
                case rel => exact ⟨a + 1, c', by go_num, by omega, by omega, HP2.out, SO.out, RW2.out.drewN _⟩
                case measure => simp [intOf]; omega
              | succ b' =>
                obtain ⟨⟨x1, x2⟩, hx⟩ : ∃ x, c'[b']? = some x := ⟨_, List.getElem?_eq_getElem (by omega)⟩
                obtain ⟨⟨y1, y2⟩, hy⟩ : ∃ y, c'[b' + 1]? = some y := ⟨_, List.getElem?_eq_getElem (by omega)⟩
                obtain ⟨ge, rfl, cx0, fx0, _⟩ := own_cell hrw'.row (ecs_at c' b' _ hx).1
                obtain ⟨_, e9, cx1, fx1, _⟩ := own_cell hrw'.row (ecs_at c' b' _ hx).2
                cases e9
                obtain ⟨_, e9, cy0, fy0, _⟩ := own_cell hrw'.row (ecs_at c' (b' + 1) _ hy).1
                cases e9
                obtain ⟨_, e9, cy1, fy1, _⟩ := own_cell hrw'.row (ecs_at c' (b' + 1) _ hy).2
                cases e9
                simp only at cx0 cx1 cy0 cy1
                have hb0 : decide ((0 : Int) < ((b' + 1 : Nat) : Int)) = true := decide_eq_true (by omega)
                have hbm : ((b' + 1 : Nat) : Int) - 1 = (b' : Int) := by omega
                by_cases hgt : y1 < x1
                · have hgtI : decide ((y1 : Int) < (x1 : Int)) = true := decide_eq_true (by omega)
                  have RW2 := hide hrw'
                  have SW := hide (hsi.swap hx hy hgt)
                  have PW := hide ((perm_swap hx hy).trans hperm')
                  have HX := hide hx
                  have HY := hide hy
                  clear hrw' hsi hperm' hx hy
                  go_wp2_with fail
                  go_quiet (fail)
                  obtain ⟨wq, hwq⟩ : ∃ wq, wq = wr.drewN nq := ⟨_, rfl⟩
                  rw [← hwq]
                  have RW3 := hide (show RowE w (.slice (some ⟨ge, 0, none⟩) n ec) n c' wq from by rw [hwq]; exact RW2.out.drewN nq)
                  have dx0 : wq.cell? ⟨ge, b' * 2, none⟩ = some (.int .u64 (x1 : Int)) := by rw [hwq]; exact cx0
                  have dx1 : wq.cell? ⟨ge, b' * 2 + 1, none⟩ = some (.int .i64 (x2 : Int)) := by rw [hwq]; exact cx1
                  have dy0 : wq.cell? ⟨ge, (b' + 1) * 2, none⟩ = some (.int .u64 (y1 : Int)) := by rw [hwq]; exact cy0
                  have dy1 : wq.cell? ⟨ge, (b' + 1) * 2 + 1, none⟩ = some (.int .i64 (y2 : Int)) := by rw [hwq]; exact cy1
                  have gx0 : wq.frozen? ⟨ge, b' * 2, none⟩ = false := by rw [hwq]; exact fx0
                  have gx1 : wq.frozen? ⟨ge, b' * 2 + 1, none⟩ = false := by rw [hwq]; exact fx1
                  have gy0 : wq.frozen? ⟨ge, (b' + 1) * 2, none⟩ = false := by rw [hwq]; exact fy0
                  have gy1 : wq.frozen? ⟨ge, (b' + 1) * 2 + 1, none⟩ = false := by rw [hwq]; exact fy1
                  have glt : ge < wq.heap.size := cell_lt dx0
                  clear hwq cx0 cx1 cy0 cy1 fx0 fx1 fy0 fy1 RW2
                  have FF := hide ((RW3.out.swap HX.out HY.out).alloc (.cells #[.int .u64 (y1 : Int), .int .i64 (y2 : Int)] 64))
                  go_wp2_with fail
                  go_roundw
                  case rel => exact ⟨b', _, rfl, by omega, PW.out, SW.out, FF.out⟩
                  case measure => simp [intOf]
                · have hgtI : decide ((y1 : Int) < (x1 : Int)) = false := decide_eq_false (by omega)
                  have RW2 := hide hrw'
                  have SO := hide (hsi.stop (.inr ⟨b', (x1, x2), (y1, y2), rfl, hx, hy, by show x1 ≤ y1; omega⟩))
                  have HP2 := hide hperm'
                  clear hrw' hsi hperm' hx hy
                  go_wp2_with fail
                  go_quiet (fail)
                  go_wp2_with fail
                  go_roundw
                  case rel => exact ⟨a + 1, c', by go_num, by omega, by omega, HP2.out, SO.out, RW2.out.drewN _⟩
                  case measure => simp [intOf]; omega
          · have haI : ¬ (a : Int) < (n : Int) := by omega
            have hfin : c.Pairwise (fun a b => a.1 ≤ b.1) := by
              rw [List.pairwise_iff_getElem]
              intro p q hp hq hpq
              exact hsort p q _ _ hpq (by omega) (List.getElem?_eq_getElem hp) (List.getElem?_eq_getElem hq)
            have F := hide hfin
            have RW1 := hide hrw
            have HPERM := hide hperm
            clear hfin hrw hperm hsort
            go_wp2_with fail
            go_meet
            case rel => exact ⟨c, HPERM.out, F.out, RW1.out⟩
      case rest =>
        obtain ⟨c, hperm, hpw, hrw⟩ := hcut
        have hcE := ent_sorted HENT.out INV.out.inv hperm hpw
        have hcl : c.length = n := hrw.len
        obtain ⟨i4, hi4, hz0, hz1, hz2⟩ := info_parts Yba.info3
        have HCE := hide hcE
        have RW1 := hide hrw
        clear hperm hpw hcE hrw RW0
        go_wp2_with fail
        go_loopw [26, 28, 206] (fun s26 _ s206 wx => ∃ (j : Nat) (qa : Option Addr) (qc : Nat), s206 = .int .i64 (j : Int) ∧ j ≤ n ∧ s26 = .slice qa j qc ∧ wx.ownsRow wc.heap.size 3 1 (.slice qa j qc) j ((c.take j).map (fun p => Value.int .i64 (p.2 : Int))) ∧ Below wc.heap.size wc wx) (fun _ _ s206 _ => n - (intOf s206).toNat)
        case atStart => exact ⟨0, none, 0, rfl, Nat.zero_le _, rfl, World.ownsRow_nil _ _ _ _, Below.refl _ _⟩
        case round =>
          obtain ⟨j, qa, qc, rfl, hjn, rfl, hqrow, hqbel⟩ := hrel
          have hsz : wc.heap.size ≤ wr.heap.size := hqbel.size
          by_cases hj : j < n
          · have hjI : (j : Int) < (n : Int) := by omega
            obtain ⟨⟨p1, p2⟩, hp⟩ : ∃ p, c[j]? = some p := ⟨_, List.getElem?_eq_getElem (by omega)⟩
            obtain ⟨ge, rfl, ce0, _, _⟩ := own_cell RW1.out.row (ecs_at c j _ hp).1
            obtain ⟨_, e9, ce1, _, _⟩ := own_cell RW1.out.row (ecs_at c j _ hp).2
            cases e9
            have de0 : wr.cell? ⟨ge, j * 2, none⟩ = some (.int .u64 (p1 : Int)) := by rw [hqbel.cell (p := ⟨ge, j * 2, none⟩) (cell_lt ce0)]; exact ce0
            have de1 : wr.cell? ⟨ge, j * 2 + 1, none⟩ = some (.int .i64 (p2 : Int)) := by rw [hqbel.cell (p := ⟨ge, j * 2 + 1, none⟩) (cell_lt ce1)]; exact ce1
            have hrowA : ((wr.alloc (.cells #[.int .u64 (p1 : Int), .int .i64 (p2 : Int)] 64)).alloc (.cells [.int .i64 (p2 : Int)].toArray 3)).ownsRow wc.heap.size 3 1 (.slice qa j qc) j ((c.take j).map (fun p => Value.int .i64 (p.2 : Int))) := (hqrow.alloc _).alloc _
            have hnews : ∀ (jj : Nat) (u : Value), [Value.int .i64 (p2 : Int)][jj]? = some u → ((wr.alloc (.cells #[.int .u64 (p1 : Int), .int .i64 (p2 : Int)] 64)).alloc (.cells [.int .i64 (p2 : Int)].toArray 3)).cell? ((⟨wr.heap.size + 1, 0, none⟩ : Addr).add jj) = some u := by
              have := news_of (wr.alloc (.cells #[.int .u64 (p1 : Int), .int .i64 (p2 : Int)] 64)) [.int .i64 (p2 : Int)] 3
              simp only [World.size_alloc] at this
              exact this
            have FIN := hide (show ∀ (w2 : World) (g' cap' : Nat), w2.ownsRow wc.heap.size 3 1 (.slice (some ⟨g', 0, none⟩) (j + 1) cap') (j + 1) ((c.take j).map (fun p => Value.int .i64 (p.2 : Int)) ++ [.int .i64 (p2 : Int)]) → ((wr.alloc (.cells #[.int .u64 (p1 : Int), .int .i64 (p2 : Int)] 64)).alloc (.cells [.int .i64 (p2 : Int)].toArray 3)).grownBy w2 (Value.slice qa j qc).ownBlock →
                w2.ownsRow wc.heap.size 3 1 (.slice (some ⟨g', 0, none⟩) (j + 1) cap') (j + 1) ((c.take (j + 1)).map (fun p => Value.int .i64 (p.2 : Int))) ∧ Below wc.heap.size wc w2 from fun w2 g' cap' h1 h2 => by
              refine ⟨?_, below_row (hqbel.alloc hsz _) (by simp; omega) (hqrow.alloc _) h2 rfl⟩
              rw [List.take_add_one, hp, List.map_append]
              exact h1)
            clear hqrow hqbel hp ce0 ce1
            go_wp2_with (at_builtin; refine wpList_append_own _ rfl _ _ 43 rfl wc.heap.size 3 i4 _ 1 8 Yba.underlying43 hi4 hz0 hz1 hz2 rfl (by decide) _ _ _ rfl hrowA ⟨wr.heap.size + 1, 0, none⟩ 1 1 _ rfl rfl hnews (by simp [Value.oneCell']) (by simp only [maxLen]; omega) (by omega) (by simp; omega) ?_; intro v1 w2 hown1 hgrow1 _; obtain ⟨g1, cap1, rfl⟩ := ownsRow_succ hown1; obtain ⟨e1, e2⟩ := FIN.out w2 g1 cap1 hown1 hgrow1; have E1 := hide e1; have E2 := hide e2; clear hown1 hgrow1 e1 e2)
            go_roundw
            case rel => exact ⟨j + 1, some ⟨g1, 0, none⟩, cap1, by go_num, by omega, rfl, E1.out, E2.out⟩
            case measure => simp [intOf]; omega
          · have hjI : ¬ (j : Int) < (n : Int) := by omega
            have hjn' : j = n := by omega
            have Q := hide hqrow
            have QB := hide hqbel
            clear hqrow hqbel
            go_wp2_with fail
            go_ret
            subst hjn'
            have hlen : (outP (compP ps)).length = j := by
              rw [HST.out, ← hcl, HCE.out, HST.out, List.length_map]
            rw [hlen]
            refine ⟨qa, ⟨qc, rfl⟩, fun q r hq => ?_, RW1.out.bel.trans (QB.out.mono RW1.out.bs)⟩
            have hcq : c[q]? = some (ekey r) := by rw [HCE.out, List.getElem?_map, hq]; rfl
            have e1 := Q.out
            rw [List.take_of_length_le (by omega)] at e1
            obtain ⟨g, rfl, hcell, _, _⟩ := own_cell e1 (i := q) (u := .int .i64 (r.log : Int)) (by rw [List.getElem?_map, hcq]; rfl)
            exact ⟨g, rfl, hcell⟩

end Go.Proofs.Ybulkbcrm.model
