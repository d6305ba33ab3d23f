/-
  Seat b2690a: LawS2690CModel: the sort of the keys: the pivot (at fewer than fifty elements).
-/
import Derived.Test.YbulkbcrmModelS1
namespace Go.Proofs.Ybulkbcrm.model
open Go.RowKit Go.Sort

/-- The counter's world: its box behind w0, n draws on. -/
def Wc (w0 : World) (n s : Nat) : World := (w0.alloc (.cells #[.int .i64 (s : Int)] 3)).drewN n

theorem Wc.cell (w0 : World) (n s : Nat) : (Wc w0 n s).cell? ⟨w0.heap.size, 0, none⟩ = some (.int .i64 (s : Int)) := by
  show (w0.alloc (.cells #[.int .i64 (s : Int)] 3)).cell? _ = _
  rw [World.cell?_alloc_at _ _ _ _ rfl]; rfl
theorem Wc.free (w0 : World) (n s : Nat) : (Wc w0 n s).frozen? ⟨w0.heap.size, 0, none⟩ = false := by
  show (w0.alloc (.cells #[.int .i64 (s : Int)] 3)).frozen? _ = _
  exact World.frozen?_alloc_at _ _ _ _ rfl
theorem Wc.old (w0 : World) (n s : Nat) (a : Addr) (h : a.block < w0.heap.size) : (Wc w0 n s).cell? a = w0.cell? a := by
  show (w0.alloc (.cells #[.int .i64 (s : Int)] 3)).cell? _ = _
  rw [alloc_eq_grow]; exact cell?_grow _ _ _ h
theorem Wc.drew (w0 : World) (n s q : Nat) : (Wc w0 n s).drewN q = Wc w0 (n + q) s := by
  unfold Wc
  exact ahead_ahead _ n q
theorem Wc.set (w0 : World) (n s s' : Nat) : (Wc w0 n s).setCell ⟨w0.heap.size, 0, none⟩ (.int .i64 (s' : Int)) = Wc w0 n s' := by
  show (Sort.ahead (w0.alloc (.cells #[.int .i64 (s : Int)] 3)) n).setCell _ _ = Sort.ahead (w0.alloc (.cells #[.int .i64 (s' : Int)] 3)) n
  rw [setCell_ahead]
  congr 1
  rw [setCell_eq, alloc_eq_grow, mapBlock_grow_new _ _ _ _ (Nat.le_refl _), alloc_eq_grow]
  congr 1
  simp [onCells]
theorem Wc.grow (w0 : World) (n s : Nat) : ∃ os, Wc w0 n s = Sort.grow (Sort.ahead w0 n) os := by
  refine ⟨#[.cells #[.int .i64 (s : Int)] 3], ?_⟩
  show Sort.ahead (w0.alloc _) n = _
  rw [alloc_eq_grow, ahead_grow]

set_option maxRecDepth 100000 in
set_option maxHeartbeats 2000000 in
theorem order2 (w0 : World) (blk off cap a b n s : Nat) (d : Array Int) (hH : Holds encU w0 blk off d) (hbl : blk < w0.heap.size) (ha : a < d.size) (hb : b < d.size) (hs : s < 100) :
    Calls Yba.prog 67 #[.slice (some ⟨blk, off, none⟩) d.size cap, .int .i64 a, .int .i64 b, .pointer (some ⟨w0.heap.size, 0, none⟩)] (Wc w0 n s) fun e w' =>
      ∃ x y n' s' : Nat, e = .returned (.tuple #[.int .i64 x, .int .i64 y]) ∧ ((x = a ∧ y = b) ∨ (x = b ∧ y = a)) ∧ s' ≤ s + 1 ∧ w' = Wc w0 n' s' := by
  obtain ⟨N, hN⟩ : ∃ N, d.size = N := ⟨_, rfl⟩
  obtain ⟨W, hW⟩ : ∃ W, Wc w0 n s = W := ⟨_, rfl⟩
  obtain ⟨G, hG⟩ : ∃ G : Nat → Int, ∀ t, G t = d[t]! := ⟨fun t => d[t]!, fun _ => rfl⟩
  have hcw : ∀ t, t < N → W.cell? ⟨blk, off + t, none⟩ = some (.int .u64 (G t)) := fun t ht => by
    rw [← hW, Wc.old _ _ _ _ hbl, hG]; exact (hH t (by omega)).1
  have hcs : W.cell? ⟨w0.heap.size, 0, none⟩ = some (.int .i64 (s : Int)) := by rw [← hW]; exact Wc.cell _ _ _
  have hfs : W.frozen? ⟨w0.heap.size, 0, none⟩ = false := by rw [← hW]; exact Wc.free _ _ _
  obtain ⟨B, hB⟩ : ∃ B, w0.heap.size = B := ⟨_, rfl⟩
  rw [hB] at hcs hfs
  have c0 := hcw a (by omega)
  have c1 := hcw b (by omega)
  rw [hW, hN, hB]
  rw [hN] at ha hb
  have HW := hide hW
  have HB := hide hB
  clear hH hN hG hW hbl hcw hB
  go_enter Yba.func67, Yba.ntmps67
  go_wp2
  go_quiet (first | (go_at_call 61; refine Calls.quiet_of_same (less _ _ _)))
  have hcs2 : (W.drewN nq).cell? ⟨B, 0, none⟩ = some (.int .i64 (s : Int)) := hcs
  have hfs2 : (W.drewN nq).frozen? ⟨B, 0, none⟩ = false := hfs
  go_wp2
  · go_ret2
    refine ⟨b, a, n + nq, s + 1, rfl, .inr ⟨rfl, rfl⟩, Nat.le_refl _, ?_⟩
    rw [← HW.out, Wc.drew, ← HB.out]
    exact Wc.set w0 (n + nq) s (s + 1)
  · go_ret2
    exact ⟨a, b, n + nq, s, rfl, .inl ⟨rfl, rfl⟩, by omega, by rw [← HW.out, Wc.drew]⟩

set_option maxRecDepth 100000 in
set_option maxHeartbeats 2000000 in
theorem median (w0 : World) (blk off cap a b c n s : Nat) (d : Array Int) (hH : Holds encU w0 blk off d) (hbl : blk < w0.heap.size) (ha : a < d.size) (hb : b < d.size) (hc : c < d.size) (hs : s < 50) :
    Calls Yba.prog 66 #[.slice (some ⟨blk, off, none⟩) d.size cap, .int .i64 a, .int .i64 b, .int .i64 c, .pointer (some ⟨w0.heap.size, 0, none⟩)] (Wc w0 n s) fun e w' =>
      ∃ x n' s' : Nat, e = .returned (.int .i64 x) ∧ (x = a ∨ x = b ∨ x = c) ∧ s' ≤ s + 3 ∧ w' = Wc w0 n' s' := by
  have c1 : Calls Yba.prog 67 #[.slice (some ⟨blk, off, none⟩) d.size cap, .int .i64 a, .int .i64 b, .pointer (some ⟨w0.heap.size, 0, none⟩)] (Wc w0 n s) fun e w1 =>
      ∃ x y n1 s1 : Nat, e = .returned (.tuple #[.int .i64 x, .int .i64 y]) ∧ w1 = Wc w0 n1 s1 ∧ Calls Yba.prog 67 #[.slice (some ⟨blk, off, none⟩) d.size cap, .int .i64 y, .int .i64 c, .pointer (some ⟨w0.heap.size, 0, none⟩)] (Wc w0 n1 s1) fun e w2 =>
        ∃ x2 y2 n2 s2 : Nat, e = .returned (.tuple #[.int .i64 x2, .int .i64 y2]) ∧ w2 = Wc w0 n2 s2 ∧ Calls Yba.prog 67 #[.slice (some ⟨blk, off, none⟩) d.size cap, .int .i64 x, .int .i64 x2, .pointer (some ⟨w0.heap.size, 0, none⟩)] (Wc w0 n2 s2) fun e w3 =>
          ∃ x3 y3 n3 s3 : Nat, e = .returned (.tuple #[.int .i64 x3, .int .i64 y3]) ∧ w3 = Wc w0 n3 s3 ∧ (y3 = a ∨ y3 = b ∨ y3 = c) ∧ s3 ≤ s + 3 := by
    refine (order2 w0 blk off cap a b n s d hH hbl ha hb (by omega)).mono ?_
    rintro e w1 ⟨x, y, n1, s1, rfl, h1, hs1, rfl⟩
    refine ⟨x, y, n1, s1, rfl, rfl, ?_⟩
    refine (order2 w0 blk off cap y c n1 s1 d hH hbl (by omega) hc (by omega)).mono ?_
    rintro e w2 ⟨x2, y2, n2, s2, rfl, h2, hs2, rfl⟩
    refine ⟨x2, y2, n2, s2, rfl, rfl, ?_⟩
    refine (order2 w0 blk off cap x x2 n2 s2 d hH hbl (by omega) (by omega) (by omega)).mono ?_
    rintro e w3 ⟨x3, y3, n3, s3, rfl, h3, hs3, rfl⟩
    exact ⟨x3, y3, n3, s3, rfl, rfl, by omega, by omega⟩
  generalize Wc w0 n s = W0 at c1 ⊢
  generalize w0.heap.size = B at c1 ⊢
  generalize d.size = N at c1 ⊢
  clear hH hbl ha hb hc hs
  go_enter Yba.func66, Yba.ntmps66
  go_wp2_with fail
  go_at_call 67
  refine c1.mono ?_
  rintro e w1 ⟨x, y, n1, s1, rfl, hw1, c2⟩
  rw [← hw1] at c2
  have HW1 := hide hw1
  clear hw1
  go_wp2_with fail
  go_at_call 67
  refine c2.mono ?_
  rintro e w2 ⟨x2, y2, n2, s2, rfl, hw2, c3⟩
  rw [← hw2] at c3
  have HW2 := hide hw2
  clear hw2
  go_wp2_with fail
  go_at_call 67
  refine c3.mono ?_
  rintro e w3 ⟨x3, y3, n3, s3, rfl, hw3, h3, hs3⟩
  have HW3 := hide hw3
  clear hw3
  go_wp2_with fail
  go_ret
  exact ⟨y3, n3, s3, rfl, h3, hs3, HW3.out⟩

set_option maxRecDepth 100000 in
set_option maxHeartbeats 2000000 in
theorem choosePivot (w : World) (blk off cap a b : Nat) (d : Array Int) (hH : Holds encU w blk off d) (hbl : blk < w.heap.size) (h8 : a + 8 ≤ b) (h50 : b < a + 50) (hb : b ≤ d.size) (hsz : d.size < 1000) :
    Calls Yba.prog 58 #[.slice (some ⟨blk, off, none⟩) d.size cap, .int .i64 a, .int .i64 b] w fun e w' =>
      ∃ x h : Nat, e = .returned (.tuple #[.int .i64 x, .int .i64 h]) ∧ a ≤ x ∧ x < b ∧ h < 2 ∧ ∃ n os, w' = Sort.grow (Sort.ahead w n) os := by
  have c1 := median w blk off cap (a + (b - a) / 4) (a + (b - a) / 4 * 2) (a + (b - a) / 4 * 3) 0 0 d hH hbl (by omega) (by omega) (by omega) (by omega)
  have e0 : Wc w 0 0 = w.alloc (.cells #[.int .i64 0] 3) := rfl
  rw [e0] at c1
  have c2 : Calls Yba.prog 66 #[.slice (some ⟨blk, off, none⟩) d.size cap, .int .i64 ((a : Int) + ((b : Int) - (a : Int)) / 4), .int .i64 ((a : Int) + ((b : Int) - (a : Int)) / 4 * 2), .int .i64 ((a : Int) + ((b : Int) - (a : Int)) / 4 * 3), .pointer (some ⟨w.heap.size, 0, none⟩)] (w.alloc (.cells #[.int .i64 0] 3)) fun e w' =>
      ∃ x s' : Nat, e = .returned (.int .i64 x) ∧ (a ≤ x ∧ x < b) ∧ s' < 4 ∧ w'.cell? ⟨w.heap.size, 0, none⟩ = some (.int .i64 (s' : Int)) ∧ ∃ n os, w' = Sort.grow (Sort.ahead w n) os := by
    have e1 : ((a + (b - a) / 4 : Nat) : Int) = (a : Int) + ((b : Int) - (a : Int)) / 4 := by omega
    have e2 : ((a + (b - a) / 4 * 2 : Nat) : Int) = (a : Int) + ((b : Int) - (a : Int)) / 4 * 2 := by omega
    have e3 : ((a + (b - a) / 4 * 3 : Nat) : Int) = (a : Int) + ((b : Int) - (a : Int)) / 4 * 3 := by omega
    rw [e1, e2, e3] at c1
    refine c1.mono ?_
    rintro e w' ⟨x, n', s', rfl, hx, hs', rfl⟩
    exact ⟨x, s', rfl, by omega, by omega, Wc.cell _ _ _, n', Wc.grow _ _ _⟩
  clear c1 e0 hH hbl
  obtain ⟨N, hN⟩ : ∃ N, d.size = N := ⟨_, rfl⟩
  rw [hN] at c2 hsz hb ⊢
  clear hN
  have hge8 : (8 : Int) ≤ (b : Int) - (a : Int) := by omega
  have hlt50 : ¬ (50 : Int) ≤ (b : Int) - (a : Int) := by omega
  go_enter Yba.func58, Yba.ntmps58
  go_wp2_with fail
  go_at_call 66
  refine c2.mono ?_
  rintro e w2 ⟨x, s', rfl, hx, hs', hc, hg⟩
  have HG := hide hg
  clear hg c2
  go_wp2_with fail
  all_goals
    go_ret2
    first
    | exact ⟨x, 0, rfl, hx.1, hx.2, by omega, HG.out⟩
    | exact ⟨x, 1, rfl, hx.1, hx.2, by omega, HG.out⟩

end Go.Proofs.Ybulkbcrm.model
