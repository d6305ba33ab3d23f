/-
  Seat b2690a: LawS2690CModel: the sort of the keys: the insertion sort that may give up (at fewer than fifty elements it only looks).
-/
import Derived.Test.YbulkbcrmModelS2
namespace Go.Proofs.Ybulkbcrm.model
open Go.RowKit Go.Sort

theorem sorted_of_adj (d : Array Int) (a b : Nat) (h : ∀ k, a < k → k < b → ltInt d[k]! d[k - 1]! = false) : SortedIn ltInt a b d := by
  intro i j hi hij hj
  obtain ⟨n, rfl⟩ : ∃ n, j = i + 1 + n := ⟨j - (i + 1), by omega⟩
  clear hij
  induction n with
  | zero => exact h (i + 1) (by omega) hj
  | succ n ih =>
    have h1 := ih (by omega)
    have h2 := h (i + 1 + (n + 1)) (by omega) hj
    rw [show i + 1 + (n + 1) - 1 = i + 1 + n by omega] at h2
    unfold ltInt at *
    simp only [decide_eq_false_iff_not] at *
    omega

set_option maxRecDepth 100000 in
set_option maxHeartbeats 3000000 in
theorem partialSort (blk off cap a b : Nat) (d : Array Int) (w : World) (hH : Holds encU w blk off d) (hab : a < b) (h50 : b < a + 50) (hb : b ≤ d.size) (hsz : d.size < 1000) :
    Calls Yba.prog 60 #[.slice (some ⟨blk, off, none⟩) d.size cap, .int .i64 a, .int .i64 b] w fun e w' =>
      ∃ r : Bool, e = .returned (.bool r) ∧ (r = true → SortedIn ltInt a b d) ∧ ∃ n, w' = Sort.ahead w n := by
  obtain ⟨N, hN⟩ : ∃ N, d.size = N := ⟨_, rfl⟩
  obtain ⟨G, hG⟩ : ∃ G : Nat → Int, ∀ t, G t = d[t]! := ⟨fun t => d[t]!, fun _ => rfl⟩
  have hcw : ∀ t, t < N → w.cell? ⟨blk, off + t, none⟩ = some (.int .u64 (G t)) := fun t ht => by rw [hG]; exact (hH t (by omega)).1
  have HC := hide hcw
  have HG := hide hG
  rw [hN] at hb hsz
  rw [hN]
  clear hH hN hcw hG
  have h50I : (b : Int) - (a : Int) < 50 := by omega
  go_enter Yba.func60, Yba.ntmps60
  go_wp2
  go_loopw [7, 8] (fun s7 s8 wr => s7 = .int .i64 ((a : Int) + 1) ∧ s8 = .int .i64 0 ∧ wr = w) (fun _ _ _ => 0)
  case atStart => exact ⟨by go_num, rfl, rfl⟩
  case round =>
    obtain ⟨rfl, rfl, hw⟩ := hrel
    have hw2 := hw.symm
    clear hw
    subst hw2
    go_wp2
    go_loopw [7] (fun s7 wr2 => ∃ (i q : Nat), s7 = .int .i64 (i : Int) ∧ a < i ∧ i ≤ b ∧ (∀ k, a < k → k < i → ltInt (G k) (G (k - 1)) = false) ∧ wr2 = w.drewN q) (fun s7 _ => b - (intOf s7).toNat)
    case atStart => exact ⟨a + 1, 0, by go_num, by omega, by omega, fun k h1 h2 => by omega, rfl⟩
    case round =>
      obtain ⟨i, q, rfl, hai, hib, hs, hwr⟩ := hrel
      have HS := hide hs
      have HW := hide hwr
      clear hs
      have hcw : ∀ t, t < N → wr.cell? ⟨blk, off + t, none⟩ = some (.int .u64 (G t)) := fun t ht => by rw [hwr]; exact HC.out t ht
      clear hwr
      by_cases hlt : i < b
      · have hltI : (i : Int) < (b : Int) := by omega
        have hnb : ((i : Int) == (b : Int)) = false := by simp; omega
        go_wp2
        go_quiet (first | (go_at_call 61; refine Calls.quiet_of_same (less _ _ _)))
        go_wp2
        · have hl : (!ltInt (G i) (G (i - 1))) = true := by assumption
          go_roundw
          case rel =>
            refine ⟨i + 1, q + nq, by go_num, by omega, by omega, fun k h1 h2 => ?_, ?_⟩
            · by_cases e : k = i
              · subst e; simpa using hl
              · exact HS.out k h1 (by omega)
            · rw [HW.out]; exact ahead_ahead _ q nq
          case measure => simp [intOf]; omega
        · go_wp2
          go_ret
          exact ⟨false, rfl, fun h => (by cases h), q + nq, by rw [HW.out]; exact ahead_ahead _ q nq⟩
      · have hltI : decide ((i : Int) < (b : Int)) = false := decide_eq_false (by omega)
        go_wp2
        go_quiet (first | (go_at_call 61; refine Calls.quiet_of_same (less _ _ _)))
        go_wp2
        go_ret
        refine ⟨true, rfl, fun _ => sorted_of_adj d a b (fun k h1 h2 => ?_), q + nq, by rw [HW.out]; exact ahead_ahead _ q nq⟩
        rw [← HG.out, ← HG.out]
        exact HS.out k h1 (by omega)

end Go.Proofs.Ybulkbcrm.model
