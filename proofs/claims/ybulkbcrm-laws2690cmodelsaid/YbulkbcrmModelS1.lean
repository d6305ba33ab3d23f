/-
  Seat b2690a: LawS2690CModel: the sort of the keys: cmp.Less and the insertion sort at uint64.
-/
import Derived.Test.YbulkbcrmModelA
import Derived.Sort.Walk13a
import Derived.Sort.WalkC
import Derived.Sort.WalkA
import Derived.Deep.Cut
namespace Go.Proofs.Ybulkbcrm.model
open Go.RowKit Go.Sort

abbrev encU : Int → Value := fun x => Value.int .u64 x

set_option maxHeartbeats 1000000 in
theorem isNaN (x : Int) (w : World) : Calls Yba.prog 27 #[.int .u64 x] w fun e w' => e = .returned (.bool false) ∧ w' = w := by
  go_enter Yba.func27, Yba.ntmps27
  go_wp2
  go_ret
  exact ⟨by simp, rfl⟩

set_option maxHeartbeats 1000000 in
theorem less (x y : Int) (w : World) : Calls Yba.prog 61 #[.int .u64 x, .int .u64 y] w fun e w' => e = .returned (.bool (ltInt x y)) ∧ w' = w := by
  go_enter Yba.func61, Yba.ntmps61
  go_wp2_with (go_at_call 27; refine (isNaN _ _).mono ?_; rintro e w' ⟨rfl, rfl⟩)
  go_ret
  exact ⟨rfl, rfl⟩

/-- The row's world, with the row it holds now, its two families of facts. -/
structure Rw (w : World) (blk off : Nat) (d0 d : Array Int) (wr : World) : Prop where
  at' : At encU w blk off d wr
  size : d.size = d0.size
  cell : ∀ t, t < d0.size → wr.cell? ⟨blk, off + t, none⟩ = some (.int .u64 d[t]!)
  free : ∀ t, t < d0.size → wr.frozen? ⟨blk, off + t, none⟩ = false

theorem Rw.of {w wr : World} {blk off : Nat} {d0 d : Array Int} (h0 : Holds encU w blk off d0) (hb : blk < w.heap.size) (h : At encU w blk off d wr) (hs : d.size = d0.size) : Rw w blk off d0 d wr := by
  have H := (h.holds h0 hs hb).1
  exact ⟨h, hs, fun t ht => (H t (by omega)).1, fun t ht => (H t (by omega)).2⟩

theorem Rw.holds {w wr : World} {blk off : Nat} {d0 d : Array Int} (h : Rw w blk off d0 d wr) : Holds encU wr blk off d := fun j hj => ⟨h.cell j (by rw [← h.size]; exact hj), h.free j (by rw [← h.size]; exact hj)⟩

theorem Rw.drewN {w wr : World} {blk off : Nat} {d0 d : Array Int} (h : Rw w blk off d0 d wr) (q : Nat) : Rw w blk off d0 d (wr.drewN q) :=
  ⟨h.at'.ahead q, h.size, h.cell, h.free⟩

theorem Rw.swap {w wr : World} {blk off : Nat} {d0 d : Array Int} (h0 : Holds encU w blk off d0) (hb : blk < w.heap.size) (h : Rw w blk off d0 d wr) {i j : Nat} (hi : i < d0.size) (hj : j < d0.size) {x y : Value} (hx : x = encU d[j]!) (hy : y = encU d[i]!) (q : Nat) :
    Rw w blk off d0 (swp d i j) (((wr.drewN q).setCell ⟨blk, off + i, none⟩ x).setCell ⟨blk, off + j, none⟩ y) := by
  subst hx hy
  have hs := h.size
  refine Rw.of h0 hb (h.at'.step hb (by rw [size_swp]) ⟨q, ?_⟩) (by rw [size_swp, hs])
  have e : wr.drewN q = putRow encU (Sort.ahead wr q) blk off d := (putRow_self encU (Sort.ahead wr q) blk off d (holds_ahead encU wr q blk off d h.holds)).symm
  rw [e]
  exact putRow_swp encU _ blk off d i j (by omega) (by omega)

set_option maxRecDepth 100000 in
set_option maxHeartbeats 3000000 in
theorem insertionSort (blk off cap a b : Nat) (d : Array Int) (w : World) (hH : Holds encU w blk off d) (hbl : blk < w.heap.size) (hab : a ≤ b) (hb : b ≤ d.size) (hsz : d.size < 1000) :
    Calls Yba.prog 55 #[.slice (some ⟨blk, off, none⟩) d.size cap, .int .i64 a, .int .i64 b] w fun e w' =>
      e = .returned (.tuple #[]) ∧ Rw w blk off d (Sort.insertionSort ltInt d a b) w' := by
  obtain ⟨N, hN⟩ : ∃ N, d.size = N := ⟨_, rfl⟩
  have HH := hide hH
  have HN := hide hN
  have HB := hide hbl
  rw [hN] at hb hsz
  rw [hN]
  clear hH hN hbl
  go_enter Yba.func55, Yba.ntmps55
  go_wp2
  go_loopw [6] (fun vi wr => ∃ (i : Nat) (dk : Array Int), vi = .int .i64 i ∧ a < i ∧ i ≤ b + 1 ∧ Rw w blk off d dk wr ∧
      insOuter ltInt a b i dk = insOuter ltInt a b (a + 1) d) (fun vi _ => b + 1 - (intOf vi).toNat)
  case atStart => exact ⟨a + 1, d, by go_num, by omega, by omega, Rw.of HH.out HB.out (At.refl HH.out) rfl, rfl⟩
  case round =>
    obtain ⟨i, dk, rfl, hai, hib, hR, hO⟩ := hrel
    have HO := hide hO
    have HR := hide hR
    clear hO hR
    go_wp2
    · have hlt : i < b := by assumption
      go_loopw [7] (fun vj wr2 => ∃ (j : Nat) (dj : Array Int), vj = .int .i64 j ∧ a ≤ j ∧ j ≤ i ∧ Rw w blk off d dj wr2 ∧
          insInner ltInt a j dj = insInner ltInt a i dk) (fun vj _ => (intOf vj).toNat)
      case atStart => exact ⟨i, dk, rfl, by omega, Nat.le_refl _, HR.out, rfl⟩
      case round =>
        clear HR
        obtain ⟨j, dj, rfl, haj, hji, hRj, hI⟩ := hrel
        obtain ⟨G, hG⟩ : ∃ G : Nat → Int, ∀ t, G t = dj[t]! := ⟨fun t => dj[t]!, fun _ => rfl⟩
        have hcw : ∀ t, t < N → wr.cell? ⟨blk, off + t, none⟩ = some (.int .u64 (G t)) := fun t ht => by rw [hG]; exact hRj.cell t (by rw [HN.out]; exact ht)
        have hfw : ∀ t, t < N → wr.frozen? ⟨blk, off + t, none⟩ = false := fun t ht => hRj.free t (by rw [HN.out]; exact ht)
        have HRj := hide hRj
        have HG := hide hG
        have HI := hide hI
        clear hRj hG hI
        have OUT : Hid ((j ≤ a ∨ ltInt dj[j]! dj[j - 1]! = false) → ∀ q, ∃ (i' : Nat) (dk' : Array Int), Value.int .i64 ((i : Int) + 1) = .int .i64 (i' : Nat) ∧ a < i' ∧ i' ≤ b + 1 ∧ Rw w blk off d dk' (wr.drewN q) ∧ insOuter ltInt a b i' dk' = insOuter ltInt a b (a + 1) d) := fun hs q =>
          ⟨i + 1, dj, by go_num, by omega, by omega, HRj.out.drewN q, by rw [← HO.out, insOuter_go _ _ _ _ _ hlt, ← HI.out, insInner_stop _ _ _ _ hs]⟩
        go_wp2
        by_cases hja : a < j
        · go_quiet (first | (go_at_call 61; refine Calls.quiet_of_same (less _ _ _)))
          go_wp2
          · have hl : ltInt (G j) (G (j - 1)) = true := by assumption
            go_region
            all_goals go_wp2
            go_roundw
            case rel =>
              refine ⟨j - 1, swp dj j (j - 1), by congr 1; omega, by omega, by omega, ?_, ?_⟩
              · rw [HG.out, HG.out]
                exact HRj.out.swap HH.out HB.out (by rw [HN.out]; omega) (by rw [HN.out]; omega) rfl rfl _
              · rw [← HI.out, insInner_go ltInt a j dj hja (by rw [← HG.out, ← HG.out]; exact hl)]
            case measure => simp [intOf]; omega
          · have hl : ltInt (G j) (G (j - 1)) = false := by assumption
            go_roundw
            case rel => exact OUT.out (Or.inr (by rw [← HG.out, ← HG.out]; exact hl)) nq
            case measure => simp [intOf]; omega
        · go_quiet (first | (go_at_call 61; refine Calls.quiet_of_same (less _ _ _)))
          go_wp2
          go_roundw
          case rel => exact OUT.out (Or.inl (by omega)) nq
          case measure => simp [intOf]; omega
    · have hge : ¬ i < b := by assumption
      go_end0
      refine ⟨rfl, ?_⟩
      have e : Sort.insertionSort ltInt d a b = dk := by unfold Sort.insertionSort; rw [← HO.out, insOuter_stop _ _ _ _ _ hge]
      rw [e]
      exact HR.out

end Go.Proofs.Ybulkbcrm.model
