/-
  Seat b2686aD: a granted request is removed; a granted request's mode is converted.
-/
import Derived.Test.YbulkbcpiDoorRDel
namespace Go.Proofs.YbulkbcpiDoor.rel
open Go.RowKit

theorem Fr.of_below {ow : Nat → Option Nat} {w w1 : World} (hf : Fresh ow w) (h : Below w.heap.size w w1) : Fr ow w ow w1 [] :=
  ⟨h.os, h.tape, h.output, h.size, fun _ _ => rfl, fun k hk => hf k (Nat.le_trans h.size hk), fun k hk _ => h.block k hk⟩

theorem cnt_pos {l : List Req} {i : Nat} {r : Req} (h : l[i]? = some r) : 1 ≤ cnt r.m l := by
  unfold cnt
  have : r ∈ l := List.mem_of_getElem? h
  exact List.countP_pos_iff.2 ⟨r, this, by simp⟩

theorem cnt_erase (m : Nat) : ∀ (l : List Req) (i : Nat) (r : Req), l[i]? = some r → cnt m (l.eraseIdx i) + (if r.m = m then 1 else 0) = cnt m l
  | [], i, r, h => by simp at h
  | q :: l, 0, r, h => by
    simp at h; subst h
    simp only [List.eraseIdx_cons_zero, cnt, List.countP_cons]
    by_cases e : q.m = m <;> simp [e]
  | q :: l, i + 1, r, h => by
    have ih := cnt_erase m l i r (by simpa using h)
    simp only [List.eraseIdx_cons_succ, cnt, List.countP_cons] at ih ⊢
    omega

theorem cnt_setM (m k : Nat) : ∀ (l : List Req) (i : Nat) (r : Req), l[i]? = some r → cnt m (l.set i ⟨r.y, k, r.u⟩) + (if r.m = m then 1 else 0) = cnt m l + (if k = m then 1 else 0)
  | [], i, r, h => by simp at h
  | q :: l, 0, r, h => by
    simp at h; subst h
    simp only [List.set_cons_zero, cnt, List.countP_cons]
    by_cases e : q.m = m <;> by_cases e' : k = m <;> simp [e, e']
  | q :: l, i + 1, r, h => by
    have ih := cnt_setM m k l i r (by simpa using h)
    simp only [List.set_cons_succ, cnt, List.countP_cons] at ih ⊢
    omega

theorem Qu.ne_row {ow : Nat → Option Nat} {w : World} {b : Nat} {nm gr wt tp gv wv} (q : Qu ow w b nm gr wt tp gv wv) {g : Nat} (hg : gv.ownBlock = some g) : b ≠ g := by
  rintro rfl
  rcases q.grow.2 with ⟨rfl, _⟩ | ⟨g', cap', cur, rfl, _, h2, _⟩
  · cases hg
  · simp [Value.ownBlock] at hg
    subst hg
    have := q.blk.symm.trans h2
    simp at this

theorem Qu.ne_wrow {ow : Nat → Option Nat} {w : World} {b : Nat} {nm gr wt tp gv wv} (q : Qu ow w b nm gr wt tp gv wv) {g : Nat} (hg : wv.ownBlock = some g) : b ≠ g := by
  rintro rfl
  rcases q.wrow with ⟨rfl, _⟩ | ⟨g', off', cap', cur, rfl, h2, _⟩
  · cases hg
  · simp [Value.ownBlock] at hg
    subst hg
    have := q.blk.symm.trans h2
    simp at this

theorem Qu.removed {ow : Nat → Option Nat} {w1 w3 : World} {b g n cap : Nat} {nm : ByteArray} {gr wt : List Req} {tp wv : Value} (q : Qu ow w1 b nm gr wt tp (.slice (some ⟨g, 0, none⟩) n cap) wv) (hf : Fresh ow w1) (hn : gr.length = n) (hcap : n ≤ cap) (hm : cap ≤ maxLen) {cur' : Array Value} {i : Nat} {r : Req} (hr : gr[i]? = some r) (hrm : r.m < 2)
    (ho : Only (w1.setCell ⟨b, 3 + r.m, none⟩ (.int .i64 ((cnt r.m gr : Nat) - 1))).drew w3 g) (hg : w3.heap[g]? = some (.cells cur' 83 (0, 0))) (hsz : cur'.size = cap * 4) (hcur : cur'.toList.take ((n - 1) * 4) = rcs (gr.eraseIdx i)) :
    Fr ow w1 ow (w3.setCell ⟨b, 1, none⟩ (.slice (some ⟨g, 0, none⟩) (n - 1) cap)) [b] ∧ Qu ow (w3.setCell ⟨b, 1, none⟩ (.slice (some ⟨g, 0, none⟩) (n - 1) cap)) b nm (gr.eraseIdx i) wt tp (.slice (some ⟨g, 0, none⟩) (n - 1) cap) wv := by
  have hbg : b ≠ g := q.ne_row rfl
  have hi : i < n := by rw [← hn]; exact (List.getElem?_eq_some_iff.1 hr).1
  have F1 : Fr ow w1 ow (w1.setCell ⟨b, 3 + r.m, none⟩ (.int .i64 ((cnt r.m gr : Nat) - 1))).drew [b] := ((Fr.refl hf [b]).setCell (.inr ⟨b, q.own, by simp⟩) _ _).drew
  have F2 := F1.trans (ho.fr F1.fresh0 (q.gown g rfl))
  have F3 := (F2.setCell (b := b) (.inr ⟨b, q.own, by simp⟩) 1 (.slice (some ⟨g, 0, none⟩) (n - 1) cap)).mono (T := [b]) (by simp)
  refine ⟨F3, ?_⟩
  have hk : ∀ k, k ≠ b → (w3.setCell ⟨b, 1, none⟩ (.slice (some ⟨g, 0, none⟩) (n - 1) cap)).heap[k]? = w3.heap[k]? := fun k hk => hset_other _ _ _ (Ne.symm hk)
  have hlen : (gr.eraseIdx i).length = n - 1 := by rw [List.length_eraseIdx, if_pos (by omega), hn]
  refine ⟨?_, q.own, ?_, q.gown, ?_, q.wown, q.ne⟩
  · have h0 : w3.heap[b]? = _ := (ho.block b hbg).trans (hset_same q.blk (3 + r.m) (.int .i64 ((cnt r.m gr : Nat) - 1)))
    have h1 := hset_same h0 1 (.slice (some ⟨g, 0, none⟩) (n - 1) cap)
    rw [h1]
    have e0 := cnt_erase 0 gr i r hr
    have e1 := cnt_erase 1 gr i r hr
    obtain ⟨ry, rm, ru⟩ := r
    simp only at hrm e0 e1 ⊢
    have e0' := congrArg (Nat.cast (R := Int)) e0
    have e1' := congrArg (Nat.cast (R := Int)) e1
    rcases (by omega : rm = 0 ∨ rm = 1) with rfl | rfl
    · simp at e0' e1' ⊢; omega
    · simp at e0' e1' ⊢; omega
  · refine ⟨by rw [rcs_length], .inr ⟨g, cap, cur', by rw [hlen], Nat.zero_le _, (hk g (Ne.symm hbg)).trans hg, by omega, hm, hsz, by rw [hlen]; exact hcur⟩⟩
  · refine q.wrow.same (fun k e => ?_)
    have hkb := q.ne_wrow e
    have hkg : k ≠ g := fun h => q.ne g rfl (by rw [← h]; exact e)
    rw [hk k (Ne.symm hkb), ho.block k hkg]
    exact hset_other _ _ _ hkb

def Remd (ow : Nat → Option Nat) (w : World) (b M qm tm : Nat) (nm : ByteArray) (gr wt : List Req) (wv : Value) (lo wa : Int) (sq st : Value) (y : Nat) (w' : World) : Prop :=
  ∃ i r gv', gr[i]? = some r ∧ r.y = y ∧ Fr ow w ow w' [b, M] ∧ Qu ow w' b nm (gr.eraseIdx i) wt (tal M) gv' wv ∧ Mg w' M qm tm (lo - if gr.length = 1 then 1 else 0) wa sq st

set_option maxRecDepth 50000 in
set_option maxHeartbeats 4000000 in
theorem removeGranted {ow : Nat → Option Nat} {w : World} {b M qm tm : Nat} {nm : ByteArray} {gr wt : List Req} {gv wv : Value} {lo wa : Int} {sq st : Value} (q : Qu ow w b nm gr wt (tal M) gv wv) (mg : Mg w M qm tm lo wa sq st)
    (hoM : ow M = some M) (hf : Fresh ow w) (y : Nat) (hy : has gr y = true) (hms : ∀ r ∈ gr, r.m < 2) (hlen : gr.length ≤ 8) (hlo : 0 ≤ lo) (hlo2 : lo ≤ 8) :
    Calls Ybad.prog 19 #[.pointer (some ⟨b, 0, none⟩), .int .i64 y] w fun e w' => e = .returned (.tuple #[]) ∧ Remd ow w b M qm tm nm gr wt wv lo wa sq st y w' := by
  obtain ⟨i, r, hi1, hi, hr, hry, -⟩ : ∃ i r, gidxI gr y = ((i : Nat) : Int) ∧ i < gr.length ∧ gr[i]? = some r ∧ r.y = y ∧ has gr y = true := by
    rcases gidx_cases gr y with ⟨_, h⟩ | h
    · rw [h] at hy; cases hy
    · exact h
  have hrm := hms r (List.mem_of_getElem? hr)
  have hpos := cnt_pos hr
  have hk0 := cnt_le 0 gr
  have hk1 := cnt_le 1 gr
  have hne : b ≠ M := by
    rintro rfl
    have := q.blk.symm.trans mg
    simp at this
  obtain ⟨g, cap, cur, rfl, _, hg, hncap, hcm, hsz, hcur⟩ : ∃ g cap cur, gv = .slice (some ⟨g, 0, none⟩) gr.length cap ∧ 0 ≤ g ∧ w.heap[g]? = some (.cells cur 83 (0, 0)) ∧ gr.length ≤ cap ∧ cap ≤ maxLen ∧ cur.size = cap * 4 ∧ cur.toList.take (gr.length * 4) = rcs gr := by
    rcases q.grow.2 with ⟨_, h0⟩ | h
    · omega
    · exact h
  obtain ⟨n, hn⟩ : ∃ n, gr.length = n + 1 := ⟨gr.length - 1, by omega⟩
  rw [hn] at q hncap hcur hlen hk0 hk1 hi
  have c1 := q.c.2.1
  have GS : Aside (Seg w (.slice (some ⟨g, 0, none⟩) (n + 1) cap) gr) := q.gseg
  have hbl := heap_lt q.blk
  have hgl := heap_lt hg
  have hMl := heap_lt mg
  have hbg : b ≠ g := q.ne_row rfl
  have MID : Aside (∀ w1, Below w.heap.size w w1 → (w1.cell? ⟨b, 1, none⟩ = some (.slice (some ⟨g, 0, none⟩) (n + 1) cap) ∧ w1.cell? ⟨b, 3, none⟩ = some (.int .i64 (cnt 0 gr : Nat)) ∧ w1.cell? ⟨b, 4, none⟩ = some (.int .i64 (cnt 1 gr : Nat)) ∧ w1.frozen? ⟨b, 3, none⟩ = false ∧ w1.frozen? ⟨b, 4, none⟩ = false ∧ w1.cell? ⟨g, i * 4 + 1, none⟩ = some (.int .i64 r.m) ∧ b < w1.heap.size ∧ g < w1.heap.size) ∧ w1.heap[g]? = some (.cells cur 83 (0, 0))) := by
    intro w1 hbel
    have q1 := q.fr (Fr.of_below hf hbel) (by simp)
    obtain ⟨d0, d1, d2, d3, d4, d5, d6, d7, fz⟩ := q1.c
    have hg1 : w1.heap[g]? = some (.cells cur 83 (0, 0)) := (hbel.block g hgl).trans hg
    refine ⟨⟨d1, d3, d4, fz 3, fz 4, ?_, heap_lt q1.blk, heap_lt hg1⟩, hg1⟩
    rw [cell_of_row _ _ _ _ _ _ hg1]
    have := (rcs_at gr i r hr).2.1
    rw [← hcur, List.getElem?_take, if_pos (by omega), Array.getElem?_toList] at this
    exact this
  have FIN : Aside (∀ w1 w3 cur', Below w.heap.size w w1 → Only (w1.setCell ⟨b, 3 + r.m, none⟩ (.int .i64 ((cnt r.m gr : Nat) - 1))).drew w3 g → w3.heap[g]? = some (.cells cur' 83 (0, 0)) → cur'.size = cur.size → cur'.toList.take (n * 4) = rcs (gr.eraseIdx i) →
      (w3.cell? ⟨b, 1, none⟩ = some (.slice (some ⟨g, 0, none⟩) (n + 1) cap) ∧ w3.frozen? ⟨b, 1, none⟩ = false ∧ w3.cell? ⟨b, 7, none⟩ = some (.pointer (some ⟨M, 5, none⟩)) ∧ w3.cell? ⟨M, 5, none⟩ = some (.int .i64 lo) ∧ w3.frozen? ⟨M, 5, none⟩ = false ∧ b < w3.heap.size ∧ M < w3.heap.size) ∧
      (n ≠ 0 → Remd ow w b M qm tm nm gr wt wv lo wa sq st y (w3.setCell ⟨b, 1, none⟩ (.slice (some ⟨g, 0, none⟩) n cap))) ∧
      (n = 0 → Remd ow w b M qm tm nm gr wt wv lo wa sq st y ((w3.setCell ⟨b, 1, none⟩ (.slice (some ⟨g, 0, none⟩) n cap)).setCell ⟨M, 5, none⟩ (.int .i64 (lo - 1))))) := by
    intro w1 w3 cur' hbel ho hg3 hs3 hc3
    have F1 := Fr.of_below hf hbel
    have q1 := q.fr F1 (by simp)
    have mg1 := mg.fr F1 hoM (by simp)
    have F2 : Fr ow w1 ow (w1.setCell ⟨b, 3 + r.m, none⟩ (.int .i64 ((cnt r.m gr : Nat) - 1))).drew [b] := ((Fr.refl F1.fresh0 [b]).setCell (.inr ⟨b, q.own, by simp⟩) _ _).drew
    have F3 := F2.trans (ho.fr F2.fresh0 (q.gown g rfl))
    have mg3 := mg1.fr F3 hoM (by simp [Ne.symm hne])
    have hb3 : w3.heap[b]? = _ := (ho.block b hbg).trans (hset_same q1.blk (3 + r.m) (.int .i64 ((cnt r.m gr : Nat) - 1)))
    obtain ⟨m0, m1, m2, m3, m4, m5, m6, m7, m8, mz⟩ := mg3.c
    obtain ⟨FF, qq⟩ := q1.removed F1.fresh0 hn hncap hcm hr hrm ho hg3 (hs3.trans hsz) hc3
    have F4 := (F1.trans FF).mono (T := [b, M]) (by simp)
    have mg4 := mg1.fr FF hoM (by simp [Ne.symm hne])
    refine ⟨⟨?_, frozen_of_row _ _ _ _ _ hb3, ?_, m5, mz 5, heap_lt hb3, heap_lt mg3⟩, fun h0 => ?_, fun h0 => ?_⟩
    · rw [cell_of_row _ _ _ _ _ _ hb3]; rcases (by omega : r.m = 0 ∨ r.m = 1) with h | h <;> rw [h] <;> rfl
    · rw [cell_of_row _ _ _ _ _ _ hb3]; rcases (by omega : r.m = 0 ∨ r.m = 1) with h | h <;> rw [h] <;> rfl
    · refine ⟨i, r, _, hr, hry, F4, qq, ?_⟩
      rw [if_neg (by omega), Int.sub_zero]
      exact mg4
    · have F5 : Fr ow (w3.setCell ⟨b, 1, none⟩ (.slice (some ⟨g, 0, none⟩) n cap)) ow ((w3.setCell ⟨b, 1, none⟩ (.slice (some ⟨g, 0, none⟩) n cap)).setCell ⟨M, 5, none⟩ (.int .i64 (lo - 1))) [M] := (Fr.refl F4.fresh0 [M]).setCell (.inr ⟨M, hoM, by simp⟩) _ _
      refine ⟨i, r, _, hr, hry, (F4.trans F5).mono (by simp), qq.fr F5 (by simp [hne]), ?_⟩
      rw [if_pos (by omega)]
      rw [Nat.add_sub_cancel] at mg4
      unfold Mg at mg4 ⊢
      rw [hset_same mg4]
      simp
  have HCUR : Aside (cur.size = cap * 4 ∧ cur.toList.take ((n + 1) * 4) = rcs gr ∧ gr.length = n + 1 ∧ w.heap[g]? = some (.cells cur 83 (0, 0))) := ⟨hsz, hcur, hn, hg⟩
  obtain ⟨ry, rm, ru⟩ := r
  simp only at hrm hry hpos MID FIN
  have hn0 : (0 : Int) ≤ (n : Int) := by omega
  clear q mg hn hcur hsz hg hr hms hy hf hoM
  go_enter Ybad.func19, Ybad.ntmps19
  go_wp2_with fail
  refine (grantedIndex b y w _ gr c1 GS.out).mono ?_
  rintro e w1 ⟨rfl, hbel⟩
  rw [hi1]
  obtain ⟨⟨d1, d3, d4, z3, z4, dr, sb, sg⟩, hg1⟩ := MID.out w1 hbel
  have BE : Aside (Below w.heap.size w w1) := hbel
  have HG1 : Aside (w1.heap[g]? = some (.cells cur 83 (0, 0))) := hg1
  clear hbel hg1 MID hi1
  rcases (by omega : rm = 0 ∨ rm = 1) with rfl | rfl
  all_goals
    go_wp2
    go_region
    go_wp2_with fail
    refine (delReq (l := gr) (cur := cur) (i := i) (by show (World.setCell _ _ _).heap[g]? = _; rw [hset_other _ _ _ hbg]; exact HG1.out) HCUR.out.2.2.1 hi hncap HCUR.out.1 HCUR.out.2.1).mono ?_
    rintro e w3 ⟨rfl, cur', hg3, hs3, hc3, ho⟩
    obtain ⟨⟨e1, y1, e7, e5, y5, sb3, sM3⟩, fin1, fin0⟩ := FIN.out w1 w3 cur' BE.out ho hg3 hs3 hc3
    have FIN1 : Aside (n ≠ 0 → Remd ow w b M qm tm nm gr wt wv lo wa sq st y (w3.setCell ⟨b, 1, none⟩ (.slice (some ⟨g, 0, none⟩) n cap))) := fin1
    have FIN0 : Aside (n = 0 → Remd ow w b M qm tm nm gr wt wv lo wa sq st y ((w3.setCell ⟨b, 1, none⟩ (.slice (some ⟨g, 0, none⟩) n cap)).setCell ⟨M, 5, none⟩ (.int .i64 (lo - 1)))) := fin0
    clear fin1 fin0 ho hg3 hs3 hc3 FIN d1 d3 d4 z3 z4 dr c1
    rw [Nat.add_sub_cancel]
    by_cases h0 : n = 0
    · subst h0
      go_wp2
      go_end0
      exact ⟨rfl, FIN0.out (by simp)⟩
    · have h0b : ((n : Int) == 0) = false := by rw [beq_eq_false_iff_ne]; omega
      go_wp2
      go_end0
      exact ⟨rfl, FIN1.out h0⟩

end Go.Proofs.YbulkbcpiDoor.rel
