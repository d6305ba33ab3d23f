/-
  Seat b2686aD: Acquire and Upgrade.
-/
import Derived.Test.YbulkbcpiDoorRReq
namespace Go.Proofs.YbulkbcpiDoor.rel
open Go.RowKit

structure Glob (ow : Nat → Option Nat) (w : World) (ev : Nat → Value) : Prop where
  c : ∀ k, k < 8 → w.cell? ⟨k, 0, none⟩ = some (ev k)
  o : ∀ k, k < 8 → ow k = none

theorem Glob.frx {ow ow' : Nat → Option Nat} {w w' : World} {ev : Nat → Value} {M qm tm : Nat} {s s' : St} (h : Glob ow w ev) (f : FrX ow w ow' w' M qm tm s s') : Glob ow' w' ev :=
  ⟨fun k hk => by rw [f.cell (a := ⟨k, 0, none⟩) (cell_lt (h.c k hk)) (h.o k hk)]; exact h.c k hk, fun k hk => by rw [f.old k (cell_lt (h.c k hk))]; exact h.o k hk⟩

theorem Glob.fr {ow ow' : Nat → Option Nat} {w w' : World} {ev : Nat → Value} {S : List Nat} (h : Glob ow w ev) (f : Fr ow w ow' w' S) : Glob ow' w' ev :=
  ⟨fun k hk => by rw [f.cell (a := ⟨k, 0, none⟩) (cell_lt (h.c k hk)) (fun x e => by rw [h.o k hk] at e; cases e)]; exact h.c k hk, fun k hk => by rw [f.old k (cell_lt (h.c k hk))]; exact h.o k hk⟩

section
variable {ow : Nat → Option Nat} {w : World} {M qm tm : Nat} {s : St} {i : Nat}

theorem nxt_here (h : Rep ow w M qm tm s) (I : Inv NoE NoE s) {w' : World} (f : Fr ow w ow w' []) : Nxt ow w M qm tm s w' := ⟨s, ⟨ow, FrX.of f (by simp) (fun _ _ hn => hn), h.still f⟩, I⟩

theorem nxt_trans {ow1 : Nat → Option Nat} {w1 w2 : World} {s1 : St} (f : FrX ow w ow1 w1 M qm tm s s1) (k : Nxt ow1 w1 M qm tm s1 w2) : Nxt ow w M qm tm s w2 := by
  obtain ⟨s2, t, I⟩ := k
  exact ⟨s2, To.trans f t, I⟩

theorem isWaitR (h : Rep ow w M qm tm s) {y : Nat} (hy : y < 4) (hn : s.tb y = none → s.wl y = none) : Calls Ybad.prog 14 #[pv (s.tb y)] w fun e w' => e = .returned (.bool (s.wl y).isSome) ∧ w' = w := by
  cases ht : s.tb y with
  | none =>
    rw [hn ht]
    exact isWaiting_nil w
  | some t =>
    obtain ⟨hv, wv, x⟩ := h.ts y hy t ht
    obtain ⟨a, c, rfl⟩ := row_form x.wrow
    refine (isWaiting_some t w a _ c x.c.2.1).mono ?_
    rintro e w' ⟨rfl, rfl⟩
    refine ⟨?_, rfl⟩
    cases s.wl y <;> simp

theorem heldR (h : Rep ow w M qm tm s) (hi : i < 3) (y : Nat) (hn : s.qb i = none → s.gr i = []) : Calls Ybad.prog 15 #[pv (s.qb i), .int .i64 (y : Int)] w fun e w' => (∃ m : Nat, e = .returned (.tuple #[.int .i64 m, .bool (has (s.gr i) y)])) ∧ Below w.heap.size w w' := by
  cases hq : s.qb i with
  | none =>
    rw [hn hq]
    refine (held_nil y w).mono ?_
    rintro e w' ⟨rfl, rfl⟩
    exact ⟨⟨0, rfl⟩, Below.refl _ _⟩
  | some b =>
    obtain ⟨gv, wv, q⟩ := h.qs i hi b hq
    exact held_some b y w q.c.2.1 q.gseg

set_option maxRecDepth 50000 in
set_option maxHeartbeats 2000000 in
theorem acquire {ev : Nat → Value} (h : Rep ow w M qm tm s) (I : Inv NoE NoE s) (G : Glob ow w ev) (hi : i < 3) (y m : Nat) (hy : y < 4) (hm : m < 2) (hno : has (s.gr i) y = false) (hwl : s.wl y = none) :
    Calls Ybad.prog 16 #[.pointer (some ⟨M, 0, none⟩), pv (s.qb i), pv (s.tb y), .int .i64 (y : Int), .string (name i), .int .i64 (m : Int)] w fun e w' => ∃ v er, e = .returned (.tuple #[v, er]) ∧ Nxt ow w M qm tm s w' := by
  -- with a queue
  have CORE : Aside (∀ ow1 w1 s1 b, FrX ow w ow1 w1 M qm tm s s1 → Rep ow1 w1 M qm tm s1 → Inv NoE NoE s1 → s1.tb = s.tb → s1.gr = s.gr → s1.wt = s.wt → s1.wl = s.wl → s1.qb i = some b →
      (∃ a c, w1.cell? ⟨b, 2, none⟩ = some (.slice a (s.wt i).length c)) ∧ b < w1.heap.size ∧ Calls Ybad.prog 29 #[.pointer (some ⟨M, 0, none⟩), .pointer (some ⟨b, 0, none⟩), pv (s.tb y), .agg #[.int .i64 (y : Int), .int .i64 (m : Int), .bool false, .bool false], .int .i64 ((s.wt i).length : Int)] w1 fun e w' => ∃ v er, e = .returned (.tuple #[v, er]) ∧ Nxt ow w M qm tm s w') := by
    intro ow1 w1 s1 b f1 h1 I1 e1 e2 e3 e4 hb
    obtain ⟨gv, wv, q⟩ := h1.qs i hi b hb
    refine ⟨?_, heap_lt q.blk, ?_⟩
    · rw [← e3]
      rcases q.wrow with ⟨rfl, h0⟩ | ⟨g, off, cap, cur, rfl, _⟩
      · rw [h0]; exact ⟨_, _, q.c.2.2.1⟩
      · exact ⟨_, _, q.c.2.2.1⟩
    · have g1 := G.frx f1
      have := request h1 I1 hi hb y m false hy hm (by rw [e2, hno]) (fun e => by cases e) (by rw [e4]; exact hwl) (s.wt i).length (.inl ⟨rfl, by rw [e3]⟩) (g1.c 7 (by omega)) (g1.o 7 (by omega))
      rw [e1] at this
      refine this.mono ?_
      rintro e w' ⟨v, er, rfl, k⟩
      exact ⟨v, er, rfl, nxt_trans f1 k⟩
  have hlw := (I.qok i hi).len.2
  have NEWQ : Aside (s.qb i = none → Calls Ybad.prog 28 #[.pointer (some ⟨M, 0, none⟩), .string (name i)] w fun e w' => ∃ b, e = .returned (.pointer (some ⟨b, 0, none⟩)) ∧ ∃ ow1 s1, FrX ow w ow1 w' M qm tm s s1 ∧ Rep ow1 w' M qm tm s1 ∧ Inv NoE NoE s1 ∧ s1.tb = s.tb ∧ s1.gr = s.gr ∧ s1.wt = s.wt ∧ s1.wl = s.wl ∧ s1.qb i = some b) := by
    intro hq
    obtain ⟨q1, q2⟩ := I.qn i hi hq
    refine (newQueue h hi hq q1 q2 (fun z hz t _ => ⟨fun hm => ?_, fun e => ?_⟩)).mono ?_
    · have := (I.hold i hi z hz).2 hm
      rw [q1] at this; cases this
    · have := (I.wait i hi z hz).2 e
      rw [q2] at this; cases this
    · rintro e w' ⟨b, rfl, ow1, sq', f, r⟩
      refine ⟨b, rfl, ow1, _, f, r, ?_, rfl, rfl, rfl, rfl, upd_same _ _ _⟩
      refine I.frame rfl rfl rfl rfl rfl rfl I.emp (fun j hj e => ?_) I.tn
      by_cases ej : j = i
      · subst ej; simp only [upd_same] at e; cases e
      · simp only [upd_ne _ _ ej] at e; exact I.qn j hj e
  have TB : ∀ t, s.tb y = some t → w.cell? ⟨t, 2, none⟩ = some (.bool false) ∧ t < w.heap.size := fun t ht => by
    obtain ⟨hv, wv, x⟩ := h.ts y hy t ht
    exact ⟨by rw [cell_of_row _ _ _ _ _ _ x.blk]; rfl, heap_lt x.blk⟩
  have HERE : Aside (∀ b, s.qb i = some b → FrX ow w ow w M qm tm s s ∧ Rep ow w M qm tm s ∧ Inv NoE NoE s) := fun b _ => ⟨FrX.refl _ _ _ _ _ _, h, I⟩
  obtain ⟨n, hn⟩ : ∃ n, (s.wt i).length = n := ⟨_, rfl⟩
  rw [hn] at CORE hlw
  clear h I G hno hwl hn
  cases htb : s.tb y with
  | none =>
    rw [htb] at CORE
    clear TB
    cases hqb : s.qb i with
    | none =>
      have NQ := hide (NEWQ.out hqb)
      clear NEWQ HERE
      unfold pv at *
      go_enter Ybad.func16, Ybad.ntmps16
      go_wp2_with fail
      refine NQ.out.mono ?_
      rintro e w1 ⟨b, rfl, ow1, s1, k1, k2, k3, k4, k5, k6, k7, k8⟩
      obtain ⟨⟨a, c, c2⟩, lb, hcall⟩ := CORE.out ow1 w1 s1 b k1 k2 k3 k4 k5 k6 k7 k8
      have CALL := hide hcall
      clear hcall k1 k2 k3 k4 k5 k6 k7 k8 CORE NQ
      go_wp2_with fail
      refine CALL.out.mono ?_
      rintro e w2 ⟨v, er, rfl, hE⟩
      have E := hide hE
      clear hE
      go_wp2
      go_ret2
      exact ⟨_, _, rfl, E.out⟩
    | some b =>
      obtain ⟨k1, k2, k3⟩ := HERE.out b hqb
      obtain ⟨⟨a, c, c2⟩, lb, hcall⟩ := CORE.out ow w s b k1 k2 k3 rfl rfl rfl rfl hqb
      have CALL := hide hcall
      clear hcall k1 k2 k3 CORE NEWQ HERE
      unfold pv at *
      go_enter Ybad.func16, Ybad.ntmps16
      go_wp2_with fail
      refine CALL.out.mono ?_
      rintro e w2 ⟨v, er, rfl, hE⟩
      have E := hide hE
      clear hE
      go_wp2
      go_ret2
      exact ⟨_, _, rfl, E.out⟩
  | some t =>
    rw [htb] at CORE
    obtain ⟨t2, tl⟩ := TB t htb
    clear TB
    cases hqb : s.qb i with
    | none =>
      have NQ := hide (NEWQ.out hqb)
      clear NEWQ HERE
      unfold pv at *
      go_enter Ybad.func16, Ybad.ntmps16
      go_wp2_with fail
      refine NQ.out.mono ?_
      rintro e w1 ⟨b, rfl, ow1, s1, k1, k2, k3, k4, k5, k6, k7, k8⟩
      obtain ⟨⟨a, c, c2⟩, lb, hcall⟩ := CORE.out ow1 w1 s1 b k1 k2 k3 k4 k5 k6 k7 k8
      have CALL := hide hcall
      clear hcall k1 k2 k3 k4 k5 k6 k7 k8 CORE NQ
      go_wp2_with fail
      refine CALL.out.mono ?_
      rintro e w2 ⟨v, er, rfl, hE⟩
      have E := hide hE
      clear hE
      go_wp2
      go_ret2
      exact ⟨_, _, rfl, E.out⟩
    | some b =>
      obtain ⟨k1, k2, k3⟩ := HERE.out b hqb
      obtain ⟨⟨a, c, c2⟩, lb, hcall⟩ := CORE.out ow w s b k1 k2 k3 rfl rfl rfl rfl hqb
      have CALL := hide hcall
      clear hcall k1 k2 k3 CORE NEWQ HERE
      unfold pv at *
      go_enter Ybad.func16, Ybad.ntmps16
      go_wp2_with fail
      refine CALL.out.mono ?_
      rintro e w2 ⟨v, er, rfl, hE⟩
      have E := hide hE
      clear hE
      go_wp2
      go_ret2
      exact ⟨_, _, rfl, E.out⟩

end

end Go.Proofs.YbulkbcpiDoor.rel
