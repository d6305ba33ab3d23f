/-
  Seat b2686aD: Holds, Waiting, Tally, New.
-/
import Derived.Test.YbulkbcpiDoorRAll
namespace Go.Proofs.YbulkbcpiDoor.rel
open Go.RowKit

/-- The name of the item that y waits for. -/
def wn (s : St) (y : Nat) : ByteArray := match s.wl y with
  | some i => name i
  | none => ⟨#[]⟩

section
variable {ow : Nat → Option Nat} {w : World} {M qm tm : Nat} {s : St} {i : Nat}

set_option maxRecDepth 50000 in
theorem holds (h : Rep ow w M qm tm s) (I : Inv NoE NoE s) (hi : i < 3) (y : Nat) :
    Calls Ybad.prog 25 #[.pointer (some ⟨M, 0, none⟩), .int .i64 (y : Int), .string (name i)] w fun e w' => (∃ m : Nat, e = .returned (.tuple #[.int .i64 m, .bool (has (s.gr i) y)])) ∧ Below w.heap.size w w' := by
  obtain ⟨sqv, stv, mg, _, _⟩ := h.mg
  have m0 : w.cell? ⟨M, 0, none⟩ = some (.map (some qm)) := mg.c.1
  have Ml := heap_lt mg
  clear mg
  obtain ⟨qv, hqv⟩ : ∃ qv, pv (s.qb i) = qv := ⟨_, rfl⟩
  have LQ : Aside ((Instr.lookup 54 (.map (some qm)) (.string (name i)) false).run Ybad.prog w = .ok qv w) := by rw [← hqv]; exact lookQ h hi
  have HD : Aside (Calls Ybad.prog 15 #[qv, .int .i64 (y : Int)] w fun e w' => (∃ m : Nat, e = .returned (.tuple #[.int .i64 m, .bool (has (s.gr i) y)])) ∧ Below w.heap.size w w') := by rw [← hqv]; exact heldR h hi y (fun e => (I.qn i hi e).1)
  clear h I hqv
  obtain ⟨nm, hnm⟩ : ∃ nm, name i = nm := ⟨_, rfl⟩
  rw [hnm] at LQ ⊢
  clear hnm
  go_enter Ybad.func25, Ybad.ntmps25
  go_wp2_with (refine wpList_lookup_run _ rfl (.tmp 11) (.tmp 12) 54 rfl _ _ _ rfl rfl LQ.out ?_)
  refine HD.out.mono ?_
  rintro e w2 ⟨⟨m', rfl⟩, hbel⟩
  have BE := hide hbel
  clear hbel
  go_wp2
  go_ret2
  exact ⟨⟨_, rfl⟩, BE.out⟩

set_option maxRecDepth 50000 in
theorem waiting (h : Rep ow w M qm tm s) (I : Inv NoE NoE s) (y : Nat) (hy : y < 4) :
    Calls Ybad.prog 26 #[.pointer (some ⟨M, 0, none⟩), .int .i64 (y : Int)] w fun e w' => e = .returned (.tuple #[.string (wn s y), .bool (s.wl y).isSome]) ∧ w' = w := by
  obtain ⟨sqv, stv, mg, _, _⟩ := h.mg
  have m1 : w.cell? ⟨M, 1, none⟩ = some (.map (some tm)) := mg.c.2.1
  have Ml := heap_lt mg
  clear mg
  obtain ⟨tv, htv⟩ : ∃ tv, pv (s.tb y) = tv := ⟨_, rfl⟩
  have LT : Aside ((Instr.lookup 55 (.map (some tm)) (.int .i64 (y : Int)) false).run Ybad.prog w = .ok tv w) := by rw [← htv]; exact lookT h hy
  have WT : Aside (Calls Ybad.prog 14 #[tv] w fun e w' => e = .returned (.bool (s.wl y).isSome) ∧ w' = w) := by rw [← htv]; exact isWaitR h hy (fun e => (I.tn y hy (fun e => e) e).2)
  unfold wn
  cases hw : s.wl y with
  | none =>
    rw [hw] at WT
    clear h I htv
    go_enter Ybad.func26, Ybad.ntmps26
    go_wp2_with (refine wpList_lookup_run _ rfl (.tmp 10) (.tmp 11) 55 rfl _ _ _ rfl rfl LT.out ?_)
    refine WT.out.mono ?_
    rintro e w1 ⟨rfl, rfl⟩
    go_wp2
    go_ret2
    exact ⟨rfl, rfl⟩
  | some i =>
    rw [hw] at WT
    have hi := I.wl3 y hy i hw
    obtain ⟨t, ht⟩ : ∃ t, s.tb y = some t := by
      cases hc : s.tb y with
      | none => have := (I.tn y hy (fun e => e) hc).2; rw [hw] at this; cases this
      | some t => exact ⟨t, rfl⟩
    obtain ⟨b, hb⟩ : ∃ b, s.qb i = some b := by
      cases hc : s.qb i with
      | none => have h1 := (I.wait i hi y hy).2 hw; rw [(I.qn i hi hc).2] at h1; cases h1
      | some b => exact ⟨b, rfl⟩
    obtain rfl : tv = .pointer (some ⟨t, 0, none⟩) := by rw [← htv, ht]; rfl
    obtain ⟨hv, wv, x⟩ := h.ts y hy t ht
    have eb : blk s.qb i = b := by simp [blk, hb]
    simp only [hw, Option.toList_some, List.map_cons, List.map_nil, eb] at x
    obtain ⟨g, cap, rfl, gl, hcap, cg⟩ : ∃ g cap, wv = .slice (some ⟨g, 0, none⟩) 1 cap ∧ g < w.heap.size ∧ 1 ≤ cap ∧ w.cell? ⟨g, 0, none⟩ = some (.pointer (some ⟨b, 0, none⟩)) := by
      rcases ptrs_form (l := [b]) x.wrow with ⟨_, h0⟩ | ⟨g, cap, e, h1, h2, _, h4⟩
      · simp at h0
      · exact ⟨g, cap, e, h1, by simpa using h2, h4 0 b rfl⟩
    have t1 := x.c.2.1
    have tl := heap_lt x.blk
    obtain ⟨gv, wv', q⟩ := h.qs i hi b hb
    have c0 := q.c.1
    have bl := heap_lt q.blk
    obtain ⟨nm, hnm⟩ : ∃ nm, name i = nm := ⟨_, rfl⟩
    simp only [hnm] at c0 ⊢
    clear h I htv x q hnm
    go_enter Ybad.func26, Ybad.ntmps26
    go_wp2_with (refine wpList_lookup_run _ rfl (.tmp 10) (.tmp 11) 55 rfl _ _ _ rfl rfl LT.out ?_)
    refine WT.out.mono ?_
    rintro e w1 ⟨rfl, rfl⟩
    go_wp2
    go_ret2
    exact ⟨rfl, rfl⟩

theorem tally (h : Rep ow w M qm tm s) : Calls Ybad.prog 11 #[.pointer (some ⟨M, 0, none⟩)] w fun e w' => e = .returned (.agg #[.int .i64 (s.lo : Int), .int .i64 (s.wa : Int)]) ∧ Below w.heap.size w w' := by
  obtain ⟨sqv, stv, mg, _, _⟩ := h.mg
  have m5 : w.cell? ⟨M, 5, none⟩ = some (.int .i64 (s.lo : Int)) := mg.c.2.2.2.2.2.1
  have m6 : w.cell? ⟨M, 6, none⟩ = some (.int .i64 (s.wa : Int)) := mg.c.2.2.2.2.2.2.1
  have Ml := heap_lt mg
  clear mg h
  go_enter Ybad.func11, Ybad.ntmps11
  go_wp2
  refine bodyPost_ret (by simp [results, Ybad.results11, go_sem]) rfl ⟨rfl, ?_⟩
  exact (Below.refl _ _).alloc (Nat.le_refl _) _

end

end Go.Proofs.YbulkbcpiDoor.rel
