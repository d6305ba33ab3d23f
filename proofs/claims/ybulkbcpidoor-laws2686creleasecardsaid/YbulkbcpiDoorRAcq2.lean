/-
  Seat b2686aD: Acquire and Upgrade: the exported calls.
-/
import Derived.Test.YbulkbcpiDoorRAcq
namespace Go.Proofs.YbulkbcpiDoor.rel
open Go.RowKit

section
variable {ow : Nat → Option Nat} {w : World} {M qm tm : Nat} {s : St} {i : Nat}

theorem lookT (h : Rep ow w M qm tm s) {y : Nat} (hy : y < 4) : (Instr.lookup 55 (.map (some tm)) (.int .i64 (y : Int)) false).run Ybad.prog w = .ok (pv (s.tb y)) w := h.pt.look keyedI Ybad.underlying55 (zero62 _) hy (keyT hy)
theorem lookQ (h : Rep ow w M qm tm s) (hi : i < 3) : (Instr.lookup 54 (.map (some qm)) (.string (name i)) false).run Ybad.prog w = .ok (pv (s.qb i)) w := h.pq.look keyedS Ybad.underlying54 (zero64 _) hi (keyQ hi)

set_option maxRecDepth 50000 in
set_option maxHeartbeats 2000000 in
theorem acquireX {ev : Nat → Value} (h : Rep ow w M qm tm s) (I : Inv NoE NoE s) (G : Glob ow w ev) (hi : i < 3) (y m : Nat) (hy : y < 4) (hm : m < 2) :
    Calls Ybad.prog 6 #[.pointer (some ⟨M, 0, none⟩), .int .i64 (y : Int), .string (name i), .int .i64 (m : Int)] w fun e w' => ∃ v er, e = .returned (.tuple #[v, er]) ∧ Nxt ow w M qm tm s w' := by
  obtain ⟨sqv, stv, mg, _, _⟩ := h.mg
  have m0 : w.cell? ⟨M, 0, none⟩ = some (.map (some qm)) := mg.c.1
  have m1 : w.cell? ⟨M, 1, none⟩ = some (.map (some tm)) := mg.c.2.1
  have Ml := heap_lt mg
  clear mg
  obtain ⟨tv, htv⟩ : ∃ tv, pv (s.tb y) = tv := ⟨_, rfl⟩
  obtain ⟨qv, hqv⟩ : ∃ qv, pv (s.qb i) = qv := ⟨_, rfl⟩
  have LT : Aside ((Instr.lookup 55 (.map (some tm)) (.int .i64 (y : Int)) false).run Ybad.prog w = .ok tv w) := by rw [← htv]; exact lookT h hy
  have LQ : Aside ((Instr.lookup 54 (.map (some qm)) (.string (name i)) false).run Ybad.prog w = .ok qv w) := by rw [← hqv]; exact lookQ h hi
  have WT : Aside (Calls Ybad.prog 14 #[tv] w fun e w' => e = .returned (.bool (s.wl y).isSome) ∧ w' = w) := by rw [← htv]; exact isWaitR h hy (fun e => (I.tn y hy (fun e => e) e).2)
  have HD : Aside (Calls Ybad.prog 15 #[qv, .int .i64 (y : Int)] w fun e w' => (∃ m : Nat, e = .returned (.tuple #[.int .i64 m, .bool (has (s.gr i) y)])) ∧ Below w.heap.size w w') := by rw [← hqv]; exact heldR h hi y (fun e => (I.qn i hi e).1)
  have HERE : Aside (∀ w', Below w.heap.size w w' → Nxt ow w M qm tm s w') := fun w' b => nxt_here h I (fr_below b h.fresh)
  have g0 := G.c 0 (by omega)
  have g1 := G.c 1 (by omega)
  have l0 := cell_lt g0
  have l1 := cell_lt g1
  have G1 : Aside (∀ w', Below w.heap.size w w' → w'.cell? ⟨1, 0, none⟩ = some (ev 1) ∧ 1 < w'.heap.size) := fun w' b => ⟨by rw [b.cell (p := ⟨1, 0, none⟩) l1]; exact g1, Nat.lt_of_lt_of_le l1 b.size⟩
  have ACQ : Aside (has (s.gr i) y = false → (s.wl y).isSome = false → ∀ w1, Below w.heap.size w w1 → Calls Ybad.prog 16 #[.pointer (some ⟨M, 0, none⟩), qv, tv, .int .i64 (y : Int), .string (name i), .int .i64 (m : Int)] w1 fun e w' => ∃ v er, e = .returned (.tuple #[v, er]) ∧ Nxt ow w M qm tm s w') := by
    intro k1 k2 w1 b
    have f := fr_below b h.fresh
    rw [← hqv, ← htv]
    refine (acquire (h.still f) I (G.fr f) hi y m hy hm k1 (by simpa using k2)).mono ?_
    rintro e w' ⟨v, er, rfl, k⟩
    exact ⟨v, er, rfl, nxt_trans (FrX.of f (by simp) (fun _ _ hn => hn)) k⟩
  clear h I G htv hqv
  obtain ⟨nm, hnm⟩ : ∃ nm, name i = nm := ⟨_, rfl⟩
  rw [hnm] at LQ ACQ ⊢
  clear hnm
  go_enter Ybad.func6, Ybad.ntmps6
  go_wp2_with (refine wpList_lookup_run _ rfl (.tmp 17) (.tmp 18) 55 rfl _ _ _ rfl rfl LT.out ?_)
  refine WT.out.mono ?_
  rintro e w1 ⟨rfl, rfl⟩
  cases hw : (s.wl y).isSome with
  | true =>
    have E := hide (HERE.out w1.drew (Below.refl _ _).drew)
    go_wp2
    go_region
    all_goals
      go_wp2
      go_ret2
      exact ⟨_, _, rfl, E.out⟩
  | false =>
    go_wp2_with (refine wpList_lookup_run _ rfl (.tmp 26) (.tmp 27) 54 rfl _ _ _ rfl rfl LQ.out ?_)
    refine HD.out.mono ?_
    rintro e w2 ⟨⟨m', rfl⟩, hbel⟩
    have BE := hide hbel
    obtain ⟨d1, l12⟩ := G1.out w2 hbel
    clear hbel
    cases hh : has (s.gr i) y with
    | true =>
      have E := hide (HERE.out w2.drew BE.out.drew)
      go_wp2
      go_region
      all_goals
        go_wp2
        go_ret2
        exact ⟨_, _, rfl, E.out⟩
    | false =>
      have CALL := hide (ACQ.out hh hw w2 BE.out)
      go_wp2_with fail
      refine CALL.out.mono ?_
      rintro e w3 ⟨v, er, rfl, hE⟩
      have E := hide hE
      clear hE
      go_wp2
      go_ret2
      exact ⟨_, _, rfl, E.out⟩

set_option maxRecDepth 50000 in
set_option maxHeartbeats 2000000 in
theorem upgrade {ev : Nat → Value} (h : Rep ow w M qm tm s) (I : Inv NoE NoE s) (G : Glob ow w ev) (hi : i < 3) (y : Nat) (hy : y < 4) (hyes : has (s.gr i) y = true) (hwl : s.wl y = none) :
    Calls Ybad.prog 17 #[.pointer (some ⟨M, 0, none⟩), pv (s.qb i), pv (s.tb y), .int .i64 (y : Int)] w fun e w' => ∃ v er, e = .returned (.tuple #[v, er]) ∧ Nxt ow w M qm tm s w' := by
  have hil : i ∈ s.hl y := (I.hold i hi y hy).1 hyes
  cases htb : s.tb y with
  | none =>
    have := (I.tn y hy (fun e => e) htb).1
    rw [this] at hil
    cases hil
  | some t =>
    cases hqb : s.qb i with
    | none =>
      have := (I.qn i hi hqb).1
      rw [this] at hyes
      cases hyes
    | some b =>
      obtain ⟨hv, wv, x⟩ := h.ts y hy t htb
      have t2 : w.cell? ⟨t, 2, none⟩ = some (.bool false) := by rw [cell_of_row _ _ _ _ _ _ x.blk]; rfl
      have tl := heap_lt x.blk
      have CALL : Aside (Calls Ybad.prog 29 #[.pointer (some ⟨M, 0, none⟩), .pointer (some ⟨b, 0, none⟩), .pointer (some ⟨t, 0, none⟩), .agg #[.int .i64 (y : Int), .int .i64 (1 : Int), .bool true, .bool false], .int .i64 (0 : Int)] w fun e w' => ∃ v er, e = .returned (.tuple #[v, er]) ∧ Nxt ow w M qm tm s w') := by
        have := request h I hi hqb y 1 true hy (by omega) hyes.symm (fun _ => rfl) hwl 0 (.inr ⟨rfl, rfl⟩) (G.c 7 (by omega)) (G.o 7 (by omega))
        rw [htb] at this
        exact this
      clear h I G x hyes hil htb hqb
      unfold pv
      go_enter Ybad.func17, Ybad.ntmps17
      go_wp2_with fail
      refine CALL.out.mono ?_
      rintro e w2 ⟨v, er, rfl, hE⟩
      have E := hide hE
      clear hE
      go_wp2
      go_ret2
      exact ⟨_, _, rfl, E.out⟩

set_option maxRecDepth 50000 in
set_option maxHeartbeats 2000000 in
theorem upgradeX {ev : Nat → Value} (h : Rep ow w M qm tm s) (I : Inv NoE NoE s) (G : Glob ow w ev) (hi : i < 3) (y : Nat) (hy : y < 4) :
    Calls Ybad.prog 7 #[.pointer (some ⟨M, 0, none⟩), .int .i64 (y : Int), .string (name i)] w fun e w' => ∃ v er, e = .returned (.tuple #[v, er]) ∧ Nxt ow w M qm tm s w' := by
  obtain ⟨sqv, stv, mg, _, _⟩ := h.mg
  have m0 : w.cell? ⟨M, 0, none⟩ = some (.map (some qm)) := mg.c.1
  have m1 : w.cell? ⟨M, 1, none⟩ = some (.map (some tm)) := mg.c.2.1
  have Ml := heap_lt mg
  clear mg
  obtain ⟨tv, htv⟩ : ∃ tv, pv (s.tb y) = tv := ⟨_, rfl⟩
  obtain ⟨qv, hqv⟩ : ∃ qv, pv (s.qb i) = qv := ⟨_, rfl⟩
  have LT : Aside ((Instr.lookup 55 (.map (some tm)) (.int .i64 (y : Int)) false).run Ybad.prog w = .ok tv w) := by rw [← htv]; exact lookT h hy
  have LQ : Aside ((Instr.lookup 54 (.map (some qm)) (.string (name i)) false).run Ybad.prog w = .ok qv w) := by rw [← hqv]; exact lookQ h hi
  have WT : Aside (Calls Ybad.prog 14 #[tv] w fun e w' => e = .returned (.bool (s.wl y).isSome) ∧ w' = w) := by rw [← htv]; exact isWaitR h hy (fun e => (I.tn y hy (fun e => e) e).2)
  have HD : Aside (Calls Ybad.prog 15 #[qv, .int .i64 (y : Int)] w fun e w' => (∃ m : Nat, e = .returned (.tuple #[.int .i64 m, .bool (has (s.gr i) y)])) ∧ Below w.heap.size w w') := by rw [← hqv]; exact heldR h hi y (fun e => (I.qn i hi e).1)
  have HERE : Aside (∀ w', Below w.heap.size w w' → Nxt ow w M qm tm s w') := fun w' b => nxt_here h I (fr_below b h.fresh)
  have g0 := G.c 0 (by omega)
  have g2 := G.c 2 (by omega)
  have l0 := cell_lt g0
  have l2 := cell_lt g2
  have G1 : Aside (∀ w', Below w.heap.size w w' → w'.cell? ⟨2, 0, none⟩ = some (ev 2) ∧ 2 < w'.heap.size) := fun w' b => ⟨by rw [b.cell (p := ⟨2, 0, none⟩) l2]; exact g2, Nat.lt_of_lt_of_le l2 b.size⟩
  have ACQ : Aside (has (s.gr i) y = true → (s.wl y).isSome = false → ∀ w1, Below w.heap.size w w1 → Calls Ybad.prog 17 #[.pointer (some ⟨M, 0, none⟩), qv, tv, .int .i64 (y : Int)] w1 fun e w' => ∃ v er, e = .returned (.tuple #[v, er]) ∧ Nxt ow w M qm tm s w') := by
    intro k1 k2 w1 b
    have f := fr_below b h.fresh
    rw [← hqv, ← htv]
    refine (upgrade (h.still f) I (G.fr f) hi y hy k1 (by simpa using k2)).mono ?_
    rintro e w' ⟨v, er, rfl, k⟩
    exact ⟨v, er, rfl, nxt_trans (FrX.of f (by simp) (fun _ _ hn => hn)) k⟩
  clear h I G htv hqv
  obtain ⟨nm, hnm⟩ : ∃ nm, name i = nm := ⟨_, rfl⟩
  rw [hnm] at LQ ⊢
  clear hnm
  go_enter Ybad.func7, Ybad.ntmps7
  go_wp2_with (refine wpList_lookup_run _ rfl (.tmp 15) (.tmp 16) 55 rfl _ _ _ rfl rfl LT.out ?_)
  refine WT.out.mono ?_
  rintro e w1 ⟨rfl, rfl⟩
  cases hw : (s.wl y).isSome with
  | true =>
    have E := hide (HERE.out w1.drew (Below.refl _ _).drew)
    go_wp2
    go_region
    all_goals
      go_wp2
      go_ret2
      exact ⟨_, _, rfl, E.out⟩
  | false =>
    go_wp2_with (refine wpList_lookup_run _ rfl (.tmp 24) (.tmp 25) 54 rfl _ _ _ rfl rfl LQ.out ?_)
    refine HD.out.mono ?_
    rintro e w2 ⟨⟨m', rfl⟩, hbel⟩
    have BE := hide hbel
    obtain ⟨d1, l12⟩ := G1.out w2 hbel
    clear hbel
    have E := hide (HERE.out w2.drew BE.out.drew)
    cases hh : has (s.gr i) y with
    | true =>
      by_cases hm0 : m' = 0
      · subst hm0
        have CALL := hide (ACQ.out hh hw w2 BE.out)
        go_wp2_with fail
        refine CALL.out.mono ?_
        rintro e w3 ⟨v, er, rfl, hE⟩
        have E := hide hE
        clear hE
        go_wp2
        go_ret2
        exact ⟨_, _, rfl, E.out⟩
      · have hb1 : ((m' : Int) == 0) = false := by rw [beq_eq_false_iff_ne]; omega
        have hb2 : ((m' : Int) != 0) = true := by rw [bne, hb1]; rfl
        go_wp2
        go_region
        all_goals
          go_wp2
          go_ret2
          exact ⟨_, _, rfl, E.out⟩
    | false =>
      go_wp2
      go_region
      all_goals
        go_wp2
        go_ret2
        exact ⟨_, _, rfl, E.out⟩

end

end Go.Proofs.YbulkbcpiDoor.rel
