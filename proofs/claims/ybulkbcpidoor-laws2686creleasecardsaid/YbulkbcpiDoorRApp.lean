/-
  Seat b2686aD: a request is granted: appended to the granted ones.
-/
import Derived.Test.YbulkbcpiDoorRRead
namespace Go.Proofs.YbulkbcpiDoor.rel
open Go.RowKit

def tal (M : Nat) : Value := .pointer (some ⟨M, 5, none⟩)

theorem cnt_snoc (m : Nat) (l : List Req) (r : Req) : cnt m (l ++ [r]) = cnt m l + if r.m = m then 1 else 0 := by
  simp only [cnt, List.countP_append, List.countP_cons, List.countP_nil]
  by_cases h : r.m = m <;> simp [h]

theorem ownsRow_elem {w : World} {base : Nat} {e : TypeId} {size : Nat} {g n cap : Nat} {xs : List Value} (h : w.ownsRow base e size (.slice (some ⟨g, 0, none⟩) n cap) n xs) : ∃ cur, w.heap[g]? = some (.cells cur e (0, 0)) := by
  rcases h.2 with ⟨h1, _⟩ | ⟨g', cap', cur, h1, _, h2, _⟩
  · cases h1
  · injection h1 with h1 _ _
    injection h1 with h1
    injection h1 with h1 _ _
    subst h1
    exact ⟨cur, h2⟩

/-- Behind the append onto the granted row and the two stores. -/
theorem Qu.appended {ow : Nat → Option Nat} {W w2 : World} {b : Nat} {nm : ByteArray} {gr wt : List Req} {tp gv wv : Value} (q : Qu ow W b nm gr wt tp gv wv) (hf : Fresh ow W) {r : Req} {g cap : Nat}
    (hown : w2.ownsRow 0 83 4 (.slice (some ⟨g, 0, none⟩) (gr.length + 1) cap) (gr.length + 1) (rcs gr ++ rc r)) (hgrow : W.grownBy w2 gv.ownBlock) (hat : gv.ownBlock = some g ∨ g = W.heap.size) (hlt : g < w2.heap.size) (hr : r.m < 2) :
    ∃ ow', Fr ow W ow' ((w2.setCell ⟨b, 1, none⟩ (.slice (some ⟨g, 0, none⟩) (gr.length + 1) cap)).setCell ⟨b, 3 + r.m, none⟩ (.int .i64 ((cnt r.m gr : Nat) + 1))) [b] ∧
      Qu ow' ((w2.setCell ⟨b, 1, none⟩ (.slice (some ⟨g, 0, none⟩) (gr.length + 1) cap)).setCell ⟨b, 3 + r.m, none⟩ (.int .i64 ((cnt r.m gr : Nat) + 1))) b nm (gr ++ [r]) wt tp (.slice (some ⟨g, 0, none⟩) (gr.length + 1) cap) wv := by
  have hbl := heap_lt q.blk
  have hrow : some b ≠ gv.ownBlock := by
    intro e
    rcases q.grow.2 with ⟨rfl, _⟩ | ⟨g', cap', cur, rfl, _, h2, _⟩
    · cases e
    · simp [Value.ownBlock] at e
      subst e
      have := q.blk.symm.trans h2
      simp at this
  have hb2 : w2.heap[b]? = W.heap[b]? := hgrow.block b hbl hrow
  have hgb : b ≠ g := by
    rintro rfl
    obtain ⟨cur, h2⟩ := ownsRow_elem hown
    have := (hb2.trans q.blk).symm.trans h2
    simp at this
  refine ⟨fun k => if k = g then some b else ow k, ?_, ?_⟩
  · have F := Fr.grown (s := b) hf hgrow (fun k e => q.gown k e) (by rcases hat with h | h; exact .inl h; exact .inr (by omega)) hlt
    exact (F.setCell (.inr ⟨b, q.own, by simp⟩) _ _).setCell (.inr ⟨b, q.own, by simp⟩) _ _
  · have hk : ∀ k, k ≠ b → ((w2.setCell ⟨b, 1, none⟩ (.slice (some ⟨g, 0, none⟩) (gr.length + 1) cap)).setCell ⟨b, 3 + r.m, none⟩ (.int .i64 ((cnt r.m gr : Nat) + 1))).heap[k]? = w2.heap[k]? := fun k hk => by
      rw [hset_other _ _ _ (Ne.symm hk), hset_other _ _ _ (Ne.symm hk)]
    refine ⟨?_, ?_, ?_, ?_, ?_, ?_, ?_⟩
    · have h1 := hset_same (hset_same (hb2.trans q.blk) 1 (.slice (some ⟨g, 0, none⟩) (gr.length + 1) cap)) (3 + r.m) (.int .i64 ((cnt r.m gr : Nat) + 1))
      rw [h1, cnt_snoc, cnt_snoc]
      obtain ⟨ry, rm, ru⟩ := r
      simp only at hr
      rcases (by omega : rm = 0 ∨ rm = 1) with rfl | rfl <;> simp
    · simp only [if_neg hgb]; exact q.own
    · have := ownsRow_same hown (w' := ((w2.setCell ⟨b, 1, none⟩ (.slice (some ⟨g, 0, none⟩) (gr.length + 1) cap)).setCell ⟨b, 3 + r.m, none⟩ (.int .i64 ((cnt r.m gr : Nat) + 1)))) (fun k e => hk k (by simp [Value.ownBlock] at e; omega))
      rw [rcs_append, List.length_append]
      simpa [rcs, rc] using this
    · intro k e
      simp [Value.ownBlock] at e
      simp [e]
    · refine q.wrow.same (fun k e => ?_)
      have hkb : k ≠ b := by
        rintro rfl
        rcases q.wrow with ⟨rfl, _⟩ | ⟨g', off', cap', cur, rfl, h2, _⟩
        · cases e
        · simp [Value.ownBlock] at e
          subst e
          have := q.blk.symm.trans h2
          simp at this
      rw [hk k hkb]
      exact hgrow.block k (q.wrow.lt e) (fun e2 => q.ne k e2.symm e)
    · intro k e
      by_cases h : k = g
      · simp [h]
      · simp only [if_neg h]; exact q.wown k e
    · intro k e e2
      simp [Value.ownBlock] at e
      subst e
      rcases hat with h | h
      · exact q.ne g h e2
      · have := q.wrow.lt e2
        omega

theorem rowSlice {w : World} {v : Value} {l : List Req} (h : Seg w v l) : ∃ ao cap, v = .slice ao l.length cap := by
  rcases h with ⟨rfl, rfl⟩ | ⟨g, off, cap, cur, rfl, _⟩
  · exact ⟨_, _, rfl⟩
  · exact ⟨_, _, rfl⟩

theorem heap_new (w : World) (o : Obj) : (w.alloc o).heap[w.heap.size]? = some o := by
  simp only [World.alloc, Array.getElem?_push_size]

theorem new_cell {w1 : World} {k : Nat} (h : k = w1.heap.size) (cs : Array Value) (t : TypeId) (j : Nat) : (w1.alloc (.cells cs t)).cell? ⟨k, j, none⟩ = cs[j]? := by
  subst h
  exact World.cell?_alloc_new _ _ _ _

/-- The side facts of an append of one request that is laid in a new block. -/
theorem app1 {w : World} {v : Value} {n : Nat} {xs : List Value} (h : w.ownsRow 0 83 4 v n xs) (r : Req) {B : Nat} (hB : B = w.heap.size) :
    Hid ((w.alloc (.cells #[.int .i64 r.y, .int .i64 r.m, .bool r.u, .bool false] 83)).drew.ownsRow 0 83 4 v n xs) ∧ Hid ((rc r).length = 1 * 4) ∧
    Hid (∀ j u, (rc r)[j]? = some u → (w.alloc (.cells #[.int .i64 r.y, .int .i64 r.m, .bool r.u, .bool false] 83)).drew.cell? ((⟨B, 0, none⟩ : Addr).add j) = some u) ∧ Hid (∀ u ∈ rc r, u.oneCell' = true) := by
  subst hB
  refine ⟨h.alloc _, rfl, ?_, ?_⟩
  · exact World.news_of_block (w := (w.alloc (.cells #[.int .i64 r.y, .int .i64 r.m, .bool r.u, .bool false] 83)).drew) (B := w.heap.size) (cs := #[.int .i64 r.y, .int .i64 r.m, .bool r.u, .bool false]) (t := 83) (fr := (0, 0)) (heap_new w _)
  · intro u hu
    simp [rc] at hu
    rcases hu with rfl | rfl | rfl | rfl <;> rfl

/-- Old blocks behind an append. -/
theorem far {W w2 : World} {row : Option Nat} (hg : W.grownBy w2 row) {k : Nat} (hk : k < W.heap.size) (hr : some k ≠ row) : w2.heap[k]? = W.heap[k]? := hg.block k hk hr

theorem Qu.row_ne {ow : Nat → Option Nat} {w : World} {b : Nat} {nm gr wt tp gv wv} (q : Qu ow w b nm gr wt tp gv wv) {k : Nat} (hk : ow k ≠ some b) : some k ≠ gv.ownBlock := fun e => hk (q.gown k e.symm)


/-- What is known behind the append. -/
theorem app_far {ow : Nat → Option Nat} {w1 : World} {b B : Nat} {nm gr wt tp gv wv} (q : Qu ow w1 b nm gr wt tp gv wv) (hf : Fresh ow w1) (o : Obj) (hB : B < w1.heap.size) (hBo : ow B = none) {x : Value} (hx : w1.cell? ⟨B, 1, none⟩ = some x) :
    Hid (∀ w2 : World, (w1.alloc o).drew.grownBy w2 gv.ownBlock → w2.cell? ⟨b, 1, none⟩ = some gv ∧ w2.cell? ⟨b, 3, none⟩ = some (.int .i64 (cnt 0 gr : Nat)) ∧ w2.cell? ⟨b, 4, none⟩ = some (.int .i64 (cnt 1 gr : Nat)) ∧ w2.frozen? ⟨b, 1, none⟩ = false ∧ w2.frozen? ⟨b, 3, none⟩ = false ∧ w2.frozen? ⟨b, 4, none⟩ = false ∧ w2.cell? ⟨B, 1, none⟩ = some x ∧ b < w2.heap.size ∧ B < w2.heap.size) := by
  intro w2 hg
  have q1 : Qu ow (w1.alloc o).drew b nm gr wt tp gv wv := q.fr (S := []) (((Fr.refl hf []).alloc o).drew) (by simp)
  have hrow : some b ≠ gv.ownBlock := by
    intro e
    rcases q.grow.2 with ⟨rfl, _⟩ | ⟨g', cap', cur, rfl, _, h2, _⟩
    · cases e
    · simp [Value.ownBlock] at e
      subst e
      have := q.blk.symm.trans h2
      simp at this
  have hb : w2.heap[b]? = (w1.alloc o).drew.heap[b]? := hg.block b (heap_lt q1.blk) hrow
  have q2 := hb.trans q1.blk
  have hBr : some B ≠ gv.ownBlock := fun e => by have := q.gown B e.symm; rw [hBo] at this; cases this
  have hB2 : w2.heap[B]? = w1.heap[B]? := (hg.block B (by simp; omega) hBr).trans (Below.heap_alloc _ _ _ hB)
  refine ⟨?_, ?_, ?_, frozen_of_row _ _ _ _ _ q2, frozen_of_row _ _ _ _ _ q2, frozen_of_row _ _ _ _ _ q2, by rw [World.cell?_of_block (a := ⟨B, 1, none⟩) hB2]; exact hx, heap_lt q2, Nat.lt_of_lt_of_le (show B < (w1.alloc o).drew.heap.size by simp; omega) hg.size⟩ <;> rw [cell_of_row _ _ _ _ _ _ q2] <;> rfl

/-- What stands behind 'appendGranted'. -/
def Appd (ow : Nat → Option Nat) (w : World) (b M qm tm : Nat) (nm : ByteArray) (gr wt : List Req) (wv : Value) (lo wa : Int) (sq st : Value) (r : Req) (w' : World) : Prop :=
  ∃ ow' gv', Fr ow w ow' w' [b, M] ∧ Qu ow' w' b nm (gr ++ [r]) wt (tal M) gv' wv ∧ Mg w' M qm tm (lo + if gr.length = 0 then 1 else 0) wa sq st

theorem Appd.drew {ow : Nat → Option Nat} {w : World} {b M qm tm : Nat} {nm : ByteArray} {gr wt : List Req} {wv : Value} {lo wa : Int} {sq st : Value} {r : Req} {w' : World} (h : Appd ow w b M qm tm nm gr wt wv lo wa sq st r w') : Appd ow w b M qm tm nm gr wt wv lo wa sq st r w'.drew := by
  obtain ⟨ow', gv', F, q, m⟩ := h
  exact ⟨ow', gv', F.drew, ⟨q.blk, q.own, q.grow, q.gown, q.wrow, q.wown, q.ne⟩, m⟩

set_option maxRecDepth 50000 in
set_option maxHeartbeats 2000000 in
theorem appendGranted {ow : Nat → Option Nat} {w : World} {b M qm tm : Nat} {nm : ByteArray} {gr wt : List Req} {gv wv : Value} {lo wa : Int} {sq st : Value} (q : Qu ow w b nm gr wt (tal M) gv wv) (mg : Mg w M qm tm lo wa sq st)
    (hoM : ow M = some M) (hf : Fresh ow w) (r : Req) (hr : r.m < 2) (hlen : gr.length ≤ 8) (hlo : 0 ≤ lo) (hlo2 : lo ≤ 8) :
    Calls Ybad.prog 53 #[.pointer (some ⟨b, 0, none⟩), rv r] w fun e w' => e = .returned (.tuple #[]) ∧ Appd ow w b M qm tm nm gr wt wv lo wa sq st r w' := by
  obtain ⟨c0, c1, c2, c3, c4, c5, c6, c7, fz⟩ := q.c
  obtain ⟨m0, m1, m2, m3, m4, m5, m6, m7, m8, mz⟩ := mg.c
  have hbl := heap_lt q.blk
  have hMl := heap_lt mg
  have hne : b ≠ M := by
    rintro rfl
    have := q.blk.symm.trans mg
    simp at this
  obtain ⟨ti, hi, hz0, hz1, hz2⟩ := info_parts Ybad.info83
  have mz5 := mz 5
  unfold tal at c7
  clear m0 m1 m2 m3 m4 m6 m7 m8 c0 c2 c5 c6 mz fz
  obtain ⟨ry, rm, ru⟩ := r
  simp only at hr
  obtain ⟨ao, cap, rfl⟩ := rowSlice q.gseg
  obtain ⟨n, hn⟩ : ∃ n, gr.length = n := ⟨_, rfl⟩
  have hform : (Value.slice ao gr.length cap) = .slice ao n cap := by rw [hn]
  rw [hform] at c1 q
  rw [hn] at hlen
  have qg := q.grow
  rw [hn] at qg
  by_cases h0 : n = 0
  · obtain ⟨W1, hW1⟩ : ∃ W1, W1 = (w.setCell ⟨M, 5, none⟩ (.int .i64 (lo + 1))).alloc (.cells #[.int .i64 ry, .int .i64 rm, .bool ru, .bool false] 83) := ⟨_, rfl⟩
    have W1h : W1.heap.size = w.heap.size + 1 := by rw [hW1]; simp
    have F1 : Fr ow w ow W1 [M] := by rw [hW1]; exact ((Fr.refl hf [M]).setCell (.inr ⟨M, hoM, by simp⟩) _ _).alloc _
    have q1 := q.fr F1 (by simp [hne])
    have MG1 : Mg W1 M qm tm (lo + if n = 0 then 1 else 0) wa sq st := by
      rw [hW1, if_pos h0]
      unfold Mg at mg ⊢
      rw [Below.heap_alloc _ _ _ (by simpa using hMl), hset_same mg]
      simp
    have f1 := F1.fresh0
    have K := app_far q1 f1 (.cells #[.int .i64 ry, .int .i64 rm, .bool ru, .bool false] 83) (B := w.heap.size) (by omega) (hf _ (Nat.le_refl _)) (x := .int .i64 rm) (by rw [hW1, new_cell (by simp)]; rfl)
    have qg1 := q1.grow
    rw [hn] at qg1
    obtain ⟨A1, A2, A3, A4⟩ := app1 qg1 ⟨ry, rm, ru⟩ W1h.symm
    have END : Aside (∀ (g cap' : Nat) (w2 : World), w2.ownsRow 0 83 4 (.slice (some ⟨g, 0, none⟩) (n + 1) cap') (n + 1) (rcs gr ++ rc ⟨ry, rm, ru⟩) → (W1.alloc (.cells #[.int .i64 ry, .int .i64 rm, .bool ru, .bool false] 83)).drew.grownBy w2 (Value.slice ao n cap).ownBlock → ((Value.slice ao n cap).ownBlock = some g ∨ g = w.heap.size + 1 + 1) → g < w2.heap.size →
        Appd ow w b M qm tm nm gr wt wv lo wa sq st ⟨ry, rm, ru⟩ ((w2.setCell ⟨b, 1, none⟩ (.slice (some ⟨g, 0, none⟩) (n + 1) cap')).setCell ⟨b, 3 + rm, none⟩ (.int .i64 ((cnt rm gr : Nat) + 1)))) := by
      intro g cap' w2 h1 h2 h3 h4
      have F2 := (F1.alloc (.cells #[.int .i64 ry, .int .i64 rm, .bool ru, .bool false] 83)).drew
      have q2 := q.fr F2 (by simp [hne])
      rw [← hn] at h1 ⊢
      obtain ⟨ow', F3, q3⟩ := q2.appended F2.fresh0 (r := ⟨ry, rm, ru⟩) h1 h2 (by rcases h3 with h3 | h3; exact .inl h3; exact .inr (by rw [h3]; simp [W1h])) h4 hr
      refine ⟨ow', _, (F2.trans F3).mono (by simp), q3, ?_⟩
      rw [hn]
      have mg2 : Mg _ M qm tm (lo + if n = 0 then 1 else 0) wa sq st := (MG1.fr (F1.fresh0 |> fun hh => ((Fr.refl hh [b]).alloc (.cells #[.int .i64 ry, .int .i64 rm, .bool ru, .bool false] 83)).drew) hoM (by simp [Ne.symm hne]))
      rw [hn] at F3
      exact mg2.fr F3 hoM (by simp [Ne.symm hne])
    have hk0 := cnt_le 0 gr
    have hk1 := cnt_le 1 gr
    rw [hn] at hk0 hk1
    clear F1 q1 f1 MG1 q mg hoM hf W1h qg qg1 hn hform
    subst hW1
    have hb0 : (n : Int) = 0 := by omega
    clear h0
    unfold rv
    go_enter Ybad.func53, Ybad.ntmps53
    go_wp2
    go_region_law (refine step_append_lies _ rfl (.tmp 24) (.tmp 26) 84 rfl 0 83 ti _ 4 24 Ybad.underlying84 hi hz0 hz1 hz2 rfl (by decide) (.slice ao n cap) n (rcs gr) (by simp [Act.eval]) A1.out ⟨w.heap.size + 1, 0, none⟩ 1 1 (rc ⟨ry, rm, ru⟩) (by simp [Act.eval]) A2.out A3.out A4.out (by omega) (by simp only [maxLen]; omega) (by omega) (by omega) (w.heap.size + 1 + 1) (by simp) ?_; intro g cap2 w2 hown2 hgrow2 hat2 hlt2; obtain ⟨e1, e3, e4, z1, z3, z4, eB, s1, s2⟩ := K.out w2 hgrow2)
    all_goals
      have E1 : Aside (Appd ow w b M qm tm nm gr wt wv lo wa sq st ⟨ry, rm, ru⟩ ((w2.setCell ⟨b, 1, none⟩ (.slice (some ⟨g, 0, none⟩) (n + 1) cap2)).setCell ⟨b, 3 + rm, none⟩ (.int .i64 ((cnt rm gr : Nat) + 1)))) := END.out g cap2 w2 hown2 hgrow2 hat2 hlt2
      clear END K A1 A2 A3 A4 hown2 hgrow2 hat2
      rcases (by omega : rm = 0 ∨ rm = 1) with rfl | rfl
      · go_wp2
        go_region
        all_goals
          go_end0
          exact ⟨rfl, E1.out.drew⟩
      · go_wp2
        go_region
        all_goals
          go_end0
          exact ⟨rfl, E1.out.drew⟩
  · obtain ⟨W1, hW1⟩ : ∃ W1, W1 = w.alloc (.cells #[.int .i64 ry, .int .i64 rm, .bool ru, .bool false] 83) := ⟨_, rfl⟩
    have W1h : W1.heap.size = w.heap.size + 1 := by rw [hW1]; simp
    have F1 : Fr ow w ow W1 [M] := by rw [hW1]; exact (Fr.refl hf [M]).alloc _
    have q1 := q.fr F1 (by simp [hne])
    have MG1 : Mg W1 M qm tm (lo + if n = 0 then 1 else 0) wa sq st := by
      rw [hW1, if_neg h0, Int.add_zero]
      unfold Mg at mg ⊢
      rw [Below.heap_alloc _ _ _ hMl]
      exact mg
    have f1 := F1.fresh0
    have K := app_far q1 f1 (.cells #[.int .i64 ry, .int .i64 rm, .bool ru, .bool false] 83) (B := w.heap.size) (by omega) (hf _ (Nat.le_refl _)) (x := .int .i64 rm) (by rw [hW1, new_cell (by simp)]; rfl)
    have qg1 := q1.grow
    rw [hn] at qg1
    obtain ⟨A1, A2, A3, A4⟩ := app1 qg1 ⟨ry, rm, ru⟩ W1h.symm
    have END : Aside (∀ (g cap' : Nat) (w2 : World), w2.ownsRow 0 83 4 (.slice (some ⟨g, 0, none⟩) (n + 1) cap') (n + 1) (rcs gr ++ rc ⟨ry, rm, ru⟩) → (W1.alloc (.cells #[.int .i64 ry, .int .i64 rm, .bool ru, .bool false] 83)).drew.grownBy w2 (Value.slice ao n cap).ownBlock → ((Value.slice ao n cap).ownBlock = some g ∨ g = w.heap.size + 1 + 1) → g < w2.heap.size →
        Appd ow w b M qm tm nm gr wt wv lo wa sq st ⟨ry, rm, ru⟩ ((w2.setCell ⟨b, 1, none⟩ (.slice (some ⟨g, 0, none⟩) (n + 1) cap')).setCell ⟨b, 3 + rm, none⟩ (.int .i64 ((cnt rm gr : Nat) + 1)))) := by
      intro g cap' w2 h1 h2 h3 h4
      have F2 := (F1.alloc (.cells #[.int .i64 ry, .int .i64 rm, .bool ru, .bool false] 83)).drew
      have q2 := q.fr F2 (by simp [hne])
      rw [← hn] at h1 ⊢
      obtain ⟨ow', F3, q3⟩ := q2.appended F2.fresh0 (r := ⟨ry, rm, ru⟩) h1 h2 (by rcases h3 with h3 | h3; exact .inl h3; exact .inr (by rw [h3]; simp [W1h])) h4 hr
      refine ⟨ow', _, (F2.trans F3).mono (by simp), q3, ?_⟩
      rw [hn]
      have mg2 : Mg _ M qm tm (lo + if n = 0 then 1 else 0) wa sq st := (MG1.fr (F1.fresh0 |> fun hh => ((Fr.refl hh [b]).alloc (.cells #[.int .i64 ry, .int .i64 rm, .bool ru, .bool false] 83)).drew) hoM (by simp [Ne.symm hne]))
      rw [hn] at F3
      exact mg2.fr F3 hoM (by simp [Ne.symm hne])
    have hk0 := cnt_le 0 gr
    have hk1 := cnt_le 1 gr
    rw [hn] at hk0 hk1
    clear F1 q1 f1 MG1 q mg hoM hf W1h qg qg1 hn hform
    subst hW1
    have hb0 : ((n : Int) == 0) = false := by rw [beq_eq_false_iff_ne]; omega
    unfold rv
    go_enter Ybad.func53, Ybad.ntmps53
    go_wp2
    go_region_law (refine step_append_lies _ rfl (.tmp 24) (.tmp 26) 84 rfl 0 83 ti _ 4 24 Ybad.underlying84 hi hz0 hz1 hz2 rfl (by decide) (.slice ao n cap) n (rcs gr) (by simp [Act.eval]) A1.out ⟨w.heap.size + 1, 0, none⟩ 1 1 (rc ⟨ry, rm, ru⟩) (by simp [Act.eval]) A2.out A3.out A4.out (by omega) (by simp only [maxLen]; omega) (by omega) (by omega) (w.heap.size + 1 + 1) (by simp) ?_; intro g cap2 w2 hown2 hgrow2 hat2 hlt2; obtain ⟨e1, e3, e4, z1, z3, z4, eB, s1, s2⟩ := K.out w2 hgrow2)
    all_goals
      have E1 : Aside (Appd ow w b M qm tm nm gr wt wv lo wa sq st ⟨ry, rm, ru⟩ ((w2.setCell ⟨b, 1, none⟩ (.slice (some ⟨g, 0, none⟩) (n + 1) cap2)).setCell ⟨b, 3 + rm, none⟩ (.int .i64 ((cnt rm gr : Nat) + 1)))) := END.out g cap2 w2 hown2 hgrow2 hat2 hlt2
      clear END K A1 A2 A3 A4 hown2 hgrow2 hat2
      rcases (by omega : rm = 0 ∨ rm = 1) with rfl | rfl
      · go_wp2
        go_region
        all_goals
          go_end0
          exact ⟨rfl, E1.out.drew⟩
      · go_wp2
        go_region
        all_goals
          go_end0
          exact ⟨rfl, E1.out.drew⟩

end Go.Proofs.YbulkbcpiDoor.rel
