/-
  Seat b2690a: LawS2690CModel: slices.Sort at uint64, sixteen elements or fewer, all different; no element.
-/
import Derived.Test.YbulkbcrmModelS7
namespace Go.Proofs.Ybulkbcrm.model
open Go.RowKit Go.Sort Go.Shelf

theorem bitsAll (n : Nat) (h2 : n ≤ 16) : ∀ w, Calls Yba.prog 26 #[.int .u64 (n : Int)] w fun e w' => ∃ k : Nat, e = .returned (.int .i64 (k : Int)) ∧ n ≤ 12 + k ∧ k < 100 ∧ w' = w := fun w => by
  have c := Any.bits_Len Yba.lays125 (n : Int) w (by omega) (by omega)
  change Calls Yba.prog 26 _ _ _ at c
  refine c.mono ?_
  rintro e w' ⟨rfl, rfl⟩
  have key : n ≤ 12 + Lib.bitLen n ∧ Lib.bitLen n < 100 := by
    have H : ∀ m : Nat, m < 17 → m ≤ 12 + Lib.bitLen m ∧ Lib.bitLen m < 100 := by decide
    exact H n (by omega)
  exact ⟨_, rfl, by rw [Int.toNat_natCast]; exact key.1, by rw [Int.toNat_natCast]; exact key.2, rfl⟩

set_option maxRecDepth 100000 in
set_option maxHeartbeats 1000000 in
theorem sortU (blk off cap : Nat) (d : Array Int) (w : World) (hH : Holds encU w blk off d) (hbl : blk < w.heap.size) (h16 : d.size ≤ 16) (hnd : ND 0 d.size d) :
    Calls Yba.prog 45 #[.slice (some ⟨blk, off, none⟩) d.size cap] w fun e w' =>
      e = .returned (.tuple #[]) ∧ ∃ d', PermIn 0 d.size d d' ∧ SortedIn ltInt 0 d.size d' ∧ Rw w blk off d d' w' := by
  have c1 := bitsAll d.size h16 w
  have c2 : ∀ k : Nat, d.size ≤ 12 + k → k < 100 → _ := fun k h1 h2 => pdq blk off cap k d w hH hbl h16 h1 h2 hnd
  obtain ⟨N, hN⟩ : ∃ N, d.size = N := ⟨_, rfl⟩
  rw [hN] at c1 c2 h16 ⊢
  clear hH hbl hnd hN
  go_enter Yba.func45, Yba.ntmps45
  go_wp2_with fail
  go_at_call 26
  refine c1.mono ?_
  rintro e w2 ⟨k, rfl, hk, hk2, hw⟩
  subst hw
  have c3 := c2 k hk hk2
  clear c1 c2
  go_wp2_with fail
  go_at_call 53
  refine c3.mono ?_
  rintro e w3 ⟨rfl, hr⟩
  have HR := hide hr
  clear hr
  go_wp2_with fail
  go_end0
  exact ⟨rfl, HR.out⟩

set_option maxRecDepth 100000 in
set_option maxHeartbeats 1000000 in
theorem insNil (w : World) : Calls Yba.prog 55 #[.slice none 0 0, .int .i64 0, .int .i64 0] w fun e w' => e = .returned (.tuple #[]) ∧ w' = w := by
  go_enter Yba.func55, Yba.ntmps55
  go_wp2_with fail
  go_loopw [6] (fun vi wr => vi = .int .i64 1 ∧ wr = w) (fun _ _ => 0)
  case atStart => exact ⟨rfl, rfl⟩
  case round =>
    obtain ⟨rfl, hw⟩ := hrel
    subst hw
    go_wp2_with fail
    go_end0
    exact ⟨rfl, rfl⟩

set_option maxRecDepth 100000 in
set_option maxHeartbeats 1000000 in
theorem pdqNil (w : World) (k : Nat) : Calls Yba.prog 53 #[.slice none 0 0, .int .i64 0, .int .i64 0, .int .i64 (k : Int)] w fun e w' => e = .returned (.tuple #[]) ∧ w' = w := by
  have c := insNil w
  go_enter Yba.func53, Yba.ntmps53
  go_wp2_with fail
  go_loopw [1, 2, 3, 8, 9] (fun s1 s2 _ _ _ wx => s1 = .int .i64 0 ∧ s2 = .int .i64 0 ∧ wx = w) (fun _ _ _ _ _ _ => 0)
  case atStart => exact ⟨rfl, rfl, rfl⟩
  case round =>
    obtain ⟨rfl, rfl, hw⟩ := hrel
    subst hw
    go_wp2_with fail
    go_at_call 55
    refine c.mono ?_
    rintro e w2 ⟨rfl, hr⟩
    subst hr
    go_wp2_with fail
    (try simp only [Exit.inBlock, Exit.then])
    refine bodyPost_ret (results_none rfl _ _ _) rfl ?_
    exact ⟨rfl, rfl⟩

set_option maxRecDepth 100000 in
set_option maxHeartbeats 1000000 in
theorem sortNil (w : World) : Calls Yba.prog 45 #[.slice none 0 0] w fun e w' => e = .returned (.tuple #[]) ∧ w' = w := by
  have c1 := bitsAll 0 (by omega) w
  go_enter Yba.func45, Yba.ntmps45
  go_wp2_with fail
  go_at_call 26
  refine c1.mono ?_
  rintro e w2 ⟨k, rfl, hk, hk2, hw⟩
  subst hw
  have c3 := pdqNil w2 k
  clear c1
  go_wp2_with fail
  go_at_call 53
  refine c3.mono ?_
  rintro e w3 ⟨rfl, hr⟩
  subst hr
  go_wp2_with fail
  go_end0
  exact ⟨rfl, rfl⟩

end Go.Proofs.Ybulkbcrm.model
