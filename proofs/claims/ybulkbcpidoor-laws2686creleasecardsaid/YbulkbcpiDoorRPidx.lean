/-
  Seat b2686aD: slices.Index at a list of queues.
-/
import Derived.Test.YbulkbcpiDoorRMisc
import Derived.LaidEqlPtr
namespace Go.Proofs.YbulkbcpiDoor.rel
open Go.RowKit

theorem ptrs_form {w : World} {base T : Nat} {v : Value} {l : List Nat} (h : w.ownsRow base T 1 v l.length (l.map qp)) : (v = .slice none 0 0 ∧ l = []) ∨ ∃ g cap, v = .slice (some ⟨g, 0, none⟩) l.length cap ∧ g < w.heap.size ∧ l.length ≤ cap ∧ cap ≤ maxLen ∧ ∀ i b, l[i]? = some b → w.cell? ⟨g, i, none⟩ = some (.pointer (some ⟨b, 0, none⟩)) := by
  rcases h.2 with ⟨rfl, h0⟩ | ⟨g, cap, cur, rfl, hb, hg, h3, h4, h5, h6⟩
  · exact .inl ⟨rfl, List.length_eq_zero_iff.1 h0⟩
  · refine .inr ⟨g, cap, rfl, heap_lt hg, h3, h4, fun i z hz => ?_⟩
    rw [cell_of_row _ _ _ _ _ _ hg]
    have hi := (List.getElem?_eq_some_iff.1 hz).1
    have : (l.map qp)[i]? = some (qp z) := by rw [List.getElem?_map, hz]; rfl
    rw [← h6, List.getElem?_take, if_pos (by omega), Array.getElem?_toList] at this
    exact this

theorem Ybad.info88 : (Ybad.prog.info? 88).map (·.size) = some 8 := by kernel_rfl

theorem ptrEq {w : World} {b z : Nat} {cb cz : Array Value} (hb : w.heap[b]? = some (.cells cb 88 (0, 0))) (hz : w.heap[z]? = some (.cells cz 88 (0, 0))) :
    (binOp .eql 64 (.pointer (some ⟨b, 0, none⟩)) (.pointer (some ⟨z, 0, none⟩))).run Ybad.prog w = .ok (.bool (decide (b = z))) w := by
  cases hq : Ybad.prog.info? 88 with
  | none => have := Ybad.info88; rw [hq] at this; cases this
  | some j =>
    have hs : j.size = 8 := by have := Ybad.info88; rw [hq] at this; simpa using this
    by_cases e : b = z
    · subst e
      rw [decide_eq_true rfl]
      exact run_eql_ptr_same w ⟨b, 0, none⟩ Ybad.underlying64 hq
    · rw [decide_eq_false e]
      exact run_eql_ptr_other w Ybad.underlying64 hq (by omega) (by intro h; injection h with h; exact e h) hb hz

set_option maxRecDepth 50000 in
set_option maxHeartbeats 1000000 in
theorem idxPtr {w : World} {base : Nat} {v : Value} {l : List Nat} (h : w.ownsRow base 64 1 v l.length (l.map qp)) (b : Nat) (hb : b ∈ l) (hbl : ∀ c ∈ l, ∃ cs, w.heap[c]? = some (.cells cs 88 (0, 0))) :
    Calls Ybad.prog 20 #[v, .pointer (some ⟨b, 0, none⟩)] w fun e w' => ∃ i : Nat, e = .returned (.int .i64 i) ∧ l[i]? = some b ∧ w' = w := by
  rcases ptrs_form h with ⟨rfl, rfl⟩ | ⟨g, cap, rfl, hg, hcap, hcm, hc⟩
  · simp at hb
  · have HC : Aside (∀ i z, l[i]? = some z → w.cell? ⟨g, i, none⟩ = some (.pointer (some ⟨z, 0, none⟩))) := hc
    have HB : Aside (b ∈ l) := hb
    have BL : Aside (∀ c ∈ l, ∃ cs, w.heap[c]? = some (.cells cs 88 (0, 0))) := hbl
    obtain ⟨n, hn⟩ : ∃ n, l.length = n := ⟨_, rfl⟩
    rw [hn] at hcap ⊢
    have HN : Aside (l.length = n) := hn
    simp only [maxLen] at hcm
    clear hc h hn hb hbl
    go_enter Ybad.func20, Ybad.ntmps20
    go_wp2
    go_loop [8] (fun i => ∃ k : Nat, k ≤ n ∧ i = .int .i64 (k : Int) ∧ ∀ j, j < k → l[j]? ≠ some b) (fun i => n - (intOf i).toNat)
    case atStart => exact ⟨0, Nat.zero_le _, rfl, fun j hj => by omega⟩
    case round =>
      obtain ⟨k, hk, rfl, hno⟩ := hrel
      have NO : Aside (∀ j, j < k → l[j]? ≠ some b) := hno
      clear hno
      by_cases hlt : k < n
      · obtain ⟨z, hz⟩ : ∃ z, l[k]? = some z := ⟨_, List.getElem?_eq_getElem (by rw [HN.out]; exact hlt)⟩
        have c := HC.out k z hz
        have HZ : Aside (l[k]? = some z) := hz
        have heq : (binOp .eql 64 (.pointer (some ⟨b, 0, none⟩)) (.pointer (some ⟨z, 0, none⟩))).run Ybad.prog w = .ok (.bool (decide (b = z))) w := by
          obtain ⟨cb, h1⟩ := BL.out b HB.out
          obtain ⟨cz, h2⟩ := BL.out z (List.mem_of_getElem? hz)
          exact ptrEq h1 h2
        clear hz
        by_cases hy : b = z
        · rw [decide_eq_true hy] at heq
          have HY : Aside (b = z) := hy
          clear hy
          go_wp2
          go_ret
          exact ⟨k, rfl, HZ.out.trans (congrArg some HY.out.symm), rfl⟩
        · rw [decide_eq_false hy] at heq
          go_wp2
          go_round
          case rel =>
            refine ⟨k + 1, by omega, by go_num, fun j hj e => ?_⟩
            by_cases e2 : j = k
            · subst e2; have := HZ.out.symm.trans e; cases this; exact hy rfl
            · exact NO.out j (by omega) e
          case measure => simp [intOf]; omega
      · exfalso
        obtain ⟨j, hj⟩ := List.mem_iff_getElem?.1 HB.out
        have hjl := (List.getElem?_eq_some_iff.1 hj).1
        rw [HN.out] at hjl
        exact NO.out j (by omega) hj

end Go.Proofs.YbulkbcpiDoor.rel
