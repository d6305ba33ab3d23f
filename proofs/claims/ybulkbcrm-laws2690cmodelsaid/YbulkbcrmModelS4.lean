/-
  Seat b2690a: LawS2690CModel: the sort of the keys: the exchange that breaks patterns.
-/
import Derived.Test.YbulkbcrmModelS3
import Derived.Laws.Bits64
import Derived.Laws.Bits64b
import Derived.Shelf.Small.Bits
import Derived.Shelf.Lay
import Derived.Ground.NamesProg
namespace Go.Proofs.Ybulkbcrm.model
open Go.RowKit Go.Sort Go.Shelf

shelf_lay Lays.n125 Nm 125 at Yba as Yba.lays125

theorem bitsLen16 (n : Nat) (h : 13 ≤ n) (h2 : n ≤ 16) : ∀ w, Calls Yba.prog 26 #[.int .u64 (n : Int)] w fun e w' => ∃ k : Nat, e = .returned (.int .i64 (k : Int)) ∧ (k = 4 ∧ n < 16 ∨ k = 5 ∧ n = 16) ∧ w' = w := fun w => by
  have c := Any.bits_Len Yba.lays125 (n : Int) w (by omega) (by omega)
  change Calls Yba.prog 26 _ _ _ at c
  refine c.mono ?_
  rintro e w' ⟨rfl, rfl⟩
  refine ⟨_, rfl, ?_, rfl⟩
  rw [Int.toNat_natCast]
  have hc : n = 13 ∨ n = 14 ∨ n = 15 ∨ n = 16 := by omega
  rcases hc with rfl | rfl | rfl | rfl
  · exact .inl ⟨by decide, by omega⟩
  · exact .inl ⟨by decide, by omega⟩
  · exact .inl ⟨by decide, by omega⟩
  · exact .inr ⟨by decide, rfl⟩

set_option maxHeartbeats 1000000 in
theorem npo2 (n : Nat) (h : 13 ≤ n) (h2 : n ≤ 16) : ∀ w, Calls Yba.prog 48 #[.int .i64 (n : Int)] w fun e w' => ∃ m : Nat, e = .returned (.int .u64 (m : Int)) ∧ (m = 16 ∨ m = 32) ∧ m ≤ 2 * n ∧ w' = w := fun w => by
  have c := bitsLen16 n h h2 w
  go_enter Yba.func48, Yba.ntmps48
  go_wp2_with fail
  go_at_call 26
  refine c.mono ?_
  rintro e w' ⟨k, rfl, hk, rfl⟩
  rcases hk with ⟨rfl, hn⟩ | ⟨rfl, hn⟩
  · go_wp2_with fail
    go_ret
    exact ⟨16, by simp, by omega, by omega, rfl⟩
  · go_wp2_with fail
    go_ret
    exact ⟨32, by simp, by omega, by omega, rfl⟩

theorem set_set (w : World) (blk off : Nat) (v v' : Value) : (w.setCell ⟨blk, off, none⟩ v).setCell ⟨blk, off, none⟩ v' = w.setCell ⟨blk, off, none⟩ v' := by
  rw [setCell_eq, setCell_eq, mapBlock_mapBlock, setCell_eq]
  congr 1
  funext c
  simp

set_option maxRecDepth 100000 in
set_option maxHeartbeats 1000000 in
theorem next (rb X : Nat) (hX : X < 18446744073709551616) (w : World) (hc : w.cell? ⟨rb, 0, none⟩ = some (.int .u64 (X : Int))) (hf : w.frozen? ⟨rb, 0, none⟩ = false) :
    Calls Yba.prog 49 #[.pointer (some ⟨rb, 0, none⟩)] w fun e w' => ∃ C : Nat, C < 18446744073709551616 ∧ e = .returned (.int .u64 (C : Int)) ∧ w' = (w.setCell ⟨rb, 0, none⟩ (.int .u64 (C : Int))).drewN 3 := by
  obtain ⟨A, hA⟩ : ∃ A : Nat, A = X ^^^ (X * 8192 % 18446744073709551616) := ⟨_, rfl⟩
  obtain ⟨B, hB⟩ : ∃ B : Nat, B = A ^^^ (A / 128) := ⟨_, rfl⟩
  obtain ⟨C, hC⟩ : ∃ C : Nat, C = B ^^^ (B * 131072 % 18446744073709551616) := ⟨_, rfl⟩
  have lA : A < 18446744073709551616 := by rw [hA]; exact Nat.xor_lt_two_pow (n := 64) (by omega) (by omega)
  have lB : B < 18446744073709551616 := by rw [hB]; exact Nat.xor_lt_two_pow (n := 64) (by omega) (by omega)
  have lC : C < 18446744073709551616 := by rw [hC]; exact Nat.xor_lt_two_pow (n := 64) (by omega) (by omega)
  have e1 : bits .xor .u64 (X : Int) (IntKind.u64.wrap ((X : Int) * 8192)) = (A : Int) := by
    rw [IntKind.wrap_u64, show ((X : Int) * 8192 % 18446744073709551616) = ((X * 8192 % 18446744073709551616 : Nat) : Int) by omega, bits_xor_u64_nat _ _ hX (by omega), hA]
  have e2 : bits .xor .u64 (A : Int) ((A : Int) / 128) = (B : Int) := by
    rw [show ((A : Int) / 128) = ((A / 128 : Nat) : Int) by omega, bits_xor_u64_nat _ _ lA (by omega), hB]
  have e3 : bits .xor .u64 (B : Int) (IntKind.u64.wrap ((B : Int) * 131072)) = (C : Int) := by
    rw [IntKind.wrap_u64, show ((B : Int) * 131072 % 18446744073709551616) = ((B * 131072 % 18446744073709551616 : Nat) : Int) by omega, bits_xor_u64_nat _ _ lB (by omega), hC]
  clear hA hB hC
  have hss : ∀ v v', (w.setCell ⟨rb, 0, none⟩ v).setCell ⟨rb, 0, none⟩ v' = w.setCell ⟨rb, 0, none⟩ v' := set_set w rb 0
  go_enter Yba.func49, Yba.ntmps49
  go_wp2
  go_region
  all_goals go_wp2
  all_goals go_region
  all_goals go_wp2
  all_goals go_region
  all_goals go_wp2
  go_ret
  exact ⟨C, lC, rfl, rfl⟩

theorem At.setNew {w wr : World} {blk off : Nat} {d : Array Int} (h : At encU w blk off d wr) {k : Nat} (hk : w.heap.size ≤ k) (v : Value) (q : Nat) : At encU w blk off d ((wr.setCell ⟨k, 0, none⟩ v).drewN q) := by
  obtain ⟨n, os, rfl⟩ := h
  have e : (Sort.grow (putRow encU (Sort.ahead w n) blk off d) os).setCell ⟨k, 0, none⟩ v = Sort.grow (putRow encU (Sort.ahead w n) blk off d) (os.modify (k - (putRow encU (Sort.ahead w n) blk off d).heap.size) (onCells (·.setIfInBounds 0 v))) := by
    rw [setCell_eq, mapBlock_grow_new _ _ _ _ (by simpa using hk)]
  rw [e]
  exact At.ahead ⟨n, _, rfl⟩ q

theorem and_lt (C m : Nat) (hC : C < 18446744073709551616) (hm : m = 16 ∨ m = 32) : ∃ o : Nat, o < m ∧ bits .and .u64 (C : Int) ((m : Int) - 1) = (o : Int) := by
  refine ⟨C &&& (m - 1), ?_, ?_⟩
  · have := @Nat.and_le_right C (m - 1)
    omega
  · rw [show ((m : Int) - 1) = ((m - 1 : Nat) : Int) by omega]
    exact bits_and_u64_nat _ _ hC (by omega)

set_option maxRecDepth 100000 in
set_option maxHeartbeats 3000000 in
theorem breakPatterns (blk off cap a b : Nat) (d : Array Int) (w : World) (hH : Holds encU w blk off d) (hbl : blk < w.heap.size) (h13 : a + 13 ≤ b) (h16 : b ≤ a + 16) (hb : b ≤ d.size) (hsz : d.size < 1000) :
    Calls Yba.prog 57 #[.slice (some ⟨blk, off, none⟩) d.size cap, .int .i64 a, .int .i64 b] w fun e w' =>
      e = .returned (.tuple #[]) ∧ ∃ d', PermIn a b d d' ∧ Rw w blk off d d' w' := by
  obtain ⟨N, hN⟩ : ∃ N, d.size = N := ⟨_, rfl⟩
  obtain ⟨l, hl⟩ : ∃ l : Nat, b - a = l := ⟨_, rfl⟩
  have hbl2 : (b : Int) - (a : Int) = (l : Int) := by omega
  have hge8 : (8 : Int) ≤ (l : Int) := by omega
  have P := npo2 l (by omega) (by omega)
  have HH := hide hH
  have HN := hide hN
  have HB := hide hbl
  rw [hN] at hb hsz
  rw [hN]
  clear hH hN
  go_enter Yba.func57, Yba.ntmps57
  go_wp2_with fail
  go_at_call 48
  refine (P _).mono ?_
  rintro e w2 ⟨m, rfl, hm, hm2, rfl⟩
  clear P
  have R0 := hide (Rw.of (d := d) HH.out HB.out (show At encU w blk off d (w.alloc (.cells #[.int .u64 (l : Int)] 113)) from ⟨0, #[.cells #[.int .u64 (l : Int)] 113], by rw [ahead_zero, putRow_self encU w blk off d HH.out, alloc_eq_grow]⟩) rfl)
  have c0 := hide (World.cell?_alloc_at (w := w) #[.int .u64 (l : Int)] 113 w.heap.size 0 rfl)
  have f0 := hide (World.frozen?_alloc_at (w := w) #[.int .u64 (l : Int)] 113 w.heap.size 0 rfl)
  obtain ⟨B, hB⟩ : ∃ B, w.heap.size = B := ⟨_, rfl⟩
  have HBS := hide hB
  rw [hB] at c0 f0 hbl ⊢
  clear hB
  go_wp2_with fail
  go_loopw [9] (fun s9 wr => ∃ (i : Nat) (dk : Array Int) (X : Nat), s9 = .int .i64 (i : Int) ∧ a + l / 4 * 2 ≤ i + 1 ∧ i ≤ a + l / 4 * 2 + 2 ∧ PermIn a b d dk ∧ Rw w blk off d dk wr ∧ X < 18446744073709551616 ∧ wr.cell? ⟨B, 0, none⟩ = some (.int .u64 (X : Int)) ∧ wr.frozen? ⟨B, 0, none⟩ = false) (fun s9 _ => a + l / 4 * 2 + 2 - (intOf s9).toNat)
  case atStart => exact ⟨a + l / 4 * 2 - 1, d, l, by congr 1; omega, by omega, by omega, permIn_refl _ _ _, R0.out, by omega, c0.out, f0.out⟩
  case round =>
    clear R0 c0 f0
    obtain ⟨i, dk, X, rfl, hi1, hi2, hP, hR, hX, hc, hf⟩ := hrel
    have HP := hide hP
    have HR := hide hR
    clear hP hR
    by_cases hlt : i ≤ a + l / 4 * 2 + 1
    · have hltI : (i : Int) ≤ (a : Int) + (l : Int) / 4 * 2 + 1 := by omega
      have cN := next B X hX wr hc hf
      have HISS := hide (show (wr.cell? ⟨B, 0, none⟩).isSome from by rw [hc]; rfl)
      have HFR := hide hf
      clear hc hf hX
      go_wp2_with fail
      go_at_call 49
      refine cN.mono ?_
      rintro e w3 ⟨C, hC, rfl, hw3⟩
      clear cN
      obtain ⟨o, ho, heo⟩ := and_lt C m hC hm
      have R3 := hide (Rw.of (d := dk) HH.out HB.out (show At encU w blk off dk w3 from by rw [hw3]; exact At.setNew HR.out.at' (by rw [HBS.out]; exact Nat.le_refl _) _ _) HR.out.size)
      have c3 : w3.cell? ⟨B, 0, none⟩ = some (.int .u64 (C : Int)) := by rw [hw3]; exact World.cell?_setCell_same' _ _ _ HISS.out
      have f3 : w3.frozen? ⟨B, 0, none⟩ = false := by rw [hw3]; exact (World.frozen?_setCell _ _ _ _).trans HFR.out
      have HW3 := hide hw3
      clear hw3
      have hmI : (0 : Int) ≤ (m : Int) - 1 := by omega
      obtain ⟨G, hG⟩ : ∃ G : Nat → Int, ∀ t, G t = dk[t]! := ⟨fun t => dk[t]!, fun _ => rfl⟩
      have hcw : ∀ t, t < N → w3.cell? ⟨blk, off + t, none⟩ = some (.int .u64 (G t)) := fun t ht => by rw [hG]; exact R3.out.cell t (by rw [HN.out]; exact ht)
      have hfw : ∀ t, t < N → w3.frozen? ⟨blk, off + t, none⟩ = false := fun t ht => R3.out.free t (by rw [HN.out]; exact ht)
      have HG := hide hG
      clear hG
      have c4 := hide c3
      have f4 := hide f3
      clear c3 f3 HISS HFR HW3
      -- the round's end, wherever the other place lies
      have FIN : Hid (∀ p : Nat, p < l → ∀ q, ∃ (i' : Nat) (dk' : Array Int) (X' : Nat), Value.int .i64 ((i : Int) + 1) = .int .i64 (i' : Int) ∧ a + l / 4 * 2 ≤ i' + 1 ∧ i' ≤ a + l / 4 * 2 + 2 ∧ PermIn a b d dk' ∧ Rw w blk off d dk' (((w3.drewN q).setCell ⟨blk, off + i, none⟩ (.int .u64 (G (a + p)))).setCell ⟨blk, off + (a + p), none⟩ (.int .u64 (G i))) ∧ X' < 18446744073709551616 ∧ (((w3.drewN q).setCell ⟨blk, off + i, none⟩ (.int .u64 (G (a + p)))).setCell ⟨blk, off + (a + p), none⟩ (.int .u64 (G i))).cell? ⟨B, 0, none⟩ = some (.int .u64 (X' : Int)) ∧ (((w3.drewN q).setCell ⟨blk, off + i, none⟩ (.int .u64 (G (a + p)))).setCell ⟨blk, off + (a + p), none⟩ (.int .u64 (G i))).frozen? ⟨B, 0, none⟩ = false) := fun p hp q => by
        refine ⟨i + 1, swp dk i (a + p), C, by go_num, by omega, by omega, permIn_trans _ _ _ _ _ HP.out (swp_permIn _ _ _ _ _ (by omega) (by omega) (by omega) (by omega) (by rw [HP.out.1, HN.out]; omega)), ?_, hC, ?_, ?_⟩
        · rw [HG.out, HG.out]
          exact R3.out.swap HH.out HB.out (by rw [HN.out]; omega) (by rw [HN.out]; omega) rfl rfl q
        · rw [World.cell?_setCell_other _ _ _ _ (fun e => absurd (congrArg Addr.block e) (by show ¬ blk = B; omega)), World.cell?_setCell_other _ _ _ _ (fun e => absurd (congrArg Addr.block e) (by show ¬ blk = B; omega))]
          exact c4.out
        · rw [World.frozen?_setCell, World.frozen?_setCell]
          exact f4.out
      by_cases hol : l ≤ o
      · have holI : (l : Int) ≤ (o : Int) := by omega
        obtain ⟨p, hp⟩ : ∃ p : Nat, (o : Int) - (l : Int) = (p : Int) := ⟨o - l, by omega⟩
        have hpl : p < l := by omega
        by_cases hip : i = a + p
        · subst hip
          go_wp2_with fail
          go_region
          all_goals go_wp2
          go_roundw
          case rel =>
            have h := FIN.out p hpl 1
            simp only [Int.natCast_add] at h
            exact h
          case measure => simp [intOf]; omega
        · go_wp2_with fail
          go_region
          all_goals go_wp2
          go_roundw
          case rel => exact FIN.out p hpl 1
          case measure => simp [intOf]; omega
      · have holI : ¬ (l : Int) ≤ (o : Int) := by omega
        by_cases hip : i = a + o
        · subst hip
          go_wp2_with fail
          go_region
          all_goals go_wp2
          go_roundw
          case rel =>
            have h := FIN.out o (by omega) 1
            simp only [Int.natCast_add] at h
            exact h
          case measure => simp [intOf]; omega
        · go_wp2_with fail
          go_region
          all_goals go_wp2
          go_roundw
          case rel => exact FIN.out o (by omega) 1
          case measure => simp [intOf]; omega
    · have hltI : ¬ (i : Int) ≤ (a : Int) + (l : Int) / 4 * 2 + 1 := by omega
      go_wp2_with fail
      go_end0
      exact ⟨rfl, dk, HP.out, HR.out⟩

end Go.Proofs.Ybulkbcrm.model
