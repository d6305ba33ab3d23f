/-
  Seat b2680aD: the walks of count, uncount, the build, grantable, has, conflicting.
-/
import Derived.Test.YbulkbcmcDoorCards
import Derived.Test.YbulkbcmcDoorBPlain
import Derived.WalkKit
import Derived.Below
import Derived.Outline
import Derived.WalkSpells
import Derived.RegionTactic
import Derived.ChangeAlike
import Derived.Deep.QuietTactic
import Derived.BigQuiet
namespace Go.Proofs.YbulkbcmcDoor.lawB
open Go.RowKit

theorem hide {p : Prop} (h : p) : Hid p := h

/-- A lockResource in memory, as far as counts and held go. -/
structure Res (w : World) (b : Nat) (c : List Int) (h : Nat) : Prop where
  cell : ∀ j, j < 9 → w.cell? ⟨b, 7 + j, none⟩ = some (.int .i64 (c.getD j 0))
  held : w.cell? ⟨b, 16, none⟩ = some (.int .u32 h)
  fz : ∀ j, j < 10 → w.frozen? ⟨b, 7 + j, none⟩ = false

theorem pow_cast (m : Nat) (hm : m < 9) : ((2 : Int) ^ m % 4294967296) = ((2 ^ m : Nat) : Int) := by
  have := pow_lt m hm
  have e : ((2 ^ m : Nat) : Int) = (2 : Int) ^ m := by simp
  rw [← e]
  generalize 2 ^ m = x at *
  omega

theorem below_set {b o : Nat} {a w : World} (h : Below b a w) (v : Value) : Below b a (w.setCell ⟨b, o, none⟩ v) := h.setCell (p := ⟨b, o, none⟩) (Nat.le_refl b) v

theorem or_cast (h m : Nat) (hh : h < 512) (hm : m < 9) : bits .or .u32 (h : Int) ((2 : Int) ^ m % 4294967296) = ((h ||| 2 ^ m : Nat) : Int) := by
  have := pow_lt m hm
  rw [pow_cast m hm]
  exact u32_or_nat _ _ (by omega) (by omega)

theorem andNot_cast (h m : Nat) (hh : h < 512) (hm : m < 9) : bits .andNot .u32 (h : Int) ((2 : Int) ^ m % 4294967296) = ((h &&& (4294967295 - 2 ^ m) : Nat) : Int) := by
  have := pow_lt m hm
  rw [pow_cast m hm]
  exact u32_andNot_nat _ _ (by omega) (by omega)

theorem and_cast (h m : Nat) (hh : h < 512) (hm : m < 9) : bits .and .u32 (h : Int) ((2 : Int) ^ m % 4294967296) = ((h &&& 2 ^ m : Nat) : Int) := by
  have := pow_lt m hm
  rw [pow_cast m hm]
  exact u32_and_nat _ _ (by omega) (by omega)

theorem res_set {w : World} {b : Nat} {c : List Int} {h : Nat} (r : Res w b c h) (hc : c.length = 9) (m : Nat) (hm : m < 9) (x : Int) : Res (w.setCell ⟨b, 7 + m, none⟩ (.int .i64 x)) b (c.set m x) h := by
  refine ⟨?_, ?_, ?_⟩
  · intro j hj
    rw [getD_set _ _ _ _ (by omega)]
    by_cases e : j = m
    · subst e
      rw [if_pos rfl]
      exact World.cell?_setCell_same _ _ _ (r.cell j hj)
    · rw [if_neg e, World.cell?_setCell_other _ _ _ _ (by simp <;> omega)]
      exact r.cell j hj
  · rw [World.cell?_setCell_other _ _ _ _ (by simp <;> omega)]
    exact r.held
  · intro j hj
    rw [World.frozen?_setCell]
    exact r.fz j hj

theorem res_held {w : World} {b : Nat} {c : List Int} {h : Nat} (r : Res w b c h) (x : Nat) : Res (w.setCell ⟨b, 16, none⟩ (.int .u32 x)) b c x := by
  refine ⟨?_, ?_, ?_⟩
  · intro j hj
    rw [World.cell?_setCell_other _ _ _ _ (by simp <;> omega)]
    exact r.cell j hj
  · exact World.cell?_setCell_same _ _ _ r.held
  · intro j hj
    rw [World.frozen?_setCell]
    exact r.fz j hj

theorem res_drew {w : World} {b : Nat} {c : List Int} {h : Nat} (r : Res w b c h) : Res w.drew b c h := ⟨r.cell, r.held, r.fz⟩

set_option maxHeartbeats 400000 in
theorem count_raw (b m : Nat) (c : Int) (h : Nat) (w : World) (hm : m < 9) (h0 : 0 ≤ c) (h1 : c ≤ 100000) (hh : h < 512)
    (cm : w.cell? ⟨b, 7 + m, none⟩ = some (.int .i64 c)) (ch : w.cell? ⟨b, 16, none⟩ = some (.int .u32 h)) (fm : w.frozen? ⟨b, 7 + m, none⟩ = false) (fh : w.frozen? ⟨b, 16, none⟩ = false) :
    Calls Ybad.prog 7 #[.pointer (some ⟨b, 0, none⟩), .int .u8 (m : Int)] w fun e w' => e = .returned (.tuple #[]) ∧
      w' = ((w.setCell ⟨b, 7 + m, none⟩ (.int .i64 (c + 1))).setCell ⟨b, 16, none⟩ (.int .u32 ((h ||| 2 ^ m : Nat) : Int))).drew := by
  have hm' : (m : Int) < 9 := by omega
  have hor := or_cast h m hh hm
  go_enter Ybad.func7, Ybad.ntmps7
  go_wp2
  go_region
  go_wp2
  go_end0
  exact ⟨rfl, rfl⟩

set_option maxHeartbeats 400000 in
theorem uncount_keep (b m : Nat) (c : Int) (w : World) (hm : m < 9) (h0 : 1 < c) (h1 : c ≤ 100000)
    (cm : w.cell? ⟨b, 7 + m, none⟩ = some (.int .i64 c)) (fm : w.frozen? ⟨b, 7 + m, none⟩ = false) :
    Calls Ybad.prog 13 #[.pointer (some ⟨b, 0, none⟩), .int .u8 (m : Int)] w fun e w' => e = .returned (.tuple #[]) ∧
      w' = (w.setCell ⟨b, 7 + m, none⟩ (.int .i64 (c - 1))).drew := by
  have hm' : (m : Int) < 9 := by omega
  go_enter Ybad.func13, Ybad.ntmps13
  go_wp2
  go_region
  go_wp2
  go_end0
  exact ⟨rfl, rfl⟩

set_option maxHeartbeats 400000 in
theorem uncount_last (b m : Nat) (h : Nat) (w : World) (hm : m < 9) (hh : h < 512)
    (cm : w.cell? ⟨b, 7 + m, none⟩ = some (.int .i64 1)) (ch : w.cell? ⟨b, 16, none⟩ = some (.int .u32 h)) (fm : w.frozen? ⟨b, 7 + m, none⟩ = false) (fh : w.frozen? ⟨b, 16, none⟩ = false) :
    Calls Ybad.prog 13 #[.pointer (some ⟨b, 0, none⟩), .int .u8 (m : Int)] w fun e w' => e = .returned (.tuple #[]) ∧
      w' = ((w.setCell ⟨b, 7 + m, none⟩ (.int .i64 0)).setCell ⟨b, 16, none⟩ (.int .u32 ((h &&& (4294967295 - 2 ^ m) : Nat) : Int))).drew := by
  have hm' : (m : Int) < 9 := by omega
  have hor := andNot_cast h m hh hm
  go_enter Ybad.func13, Ybad.ntmps13
  go_wp2
  go_region
  go_wp2
  go_end0
  exact ⟨rfl, rfl⟩

/-- count: one more holder. -/
theorem count_any (b : Nat) (mi : Int) (c : List Int) (h : Nat) (N : Int) (w : World) (m0 : 0 ≤ mi) (m9 : mi < 9) (r : Res w b c h) (i : Inv c h N) (hN : N ≤ 100000) :
    Calls Ybad.prog 7 #[.pointer (some ⟨b, 0, none⟩), .int .u8 mi] w fun e w' => e = .returned (.tuple #[]) ∧
      ∃ c' h', Res w' b c' h' ∧ Inv c' h' (N + 1) ∧ c' = c.set mi.toNat (c.getD mi.toNat 0 + 1) ∧ Below b w w' ∧ w'.heap.size = w.heap.size := by
  obtain ⟨m, rfl⟩ := Int.eq_ofNat_of_zero_le m0
  have hm : m < 9 := by omega
  have hbd := i.bd m hm
  refine (count_raw b m (c.getD m 0) h w hm hbd.1 (by omega) i.lt (r.cell m hm) r.held (r.fz m (by omega)) (r.fz 9 (by omega))).mono ?_
  rintro e w' ⟨rfl, rfl⟩
  refine ⟨rfl, _, _, res_drew (res_held (res_set r i.len m hm _) _), inv_count i m hm, by simp, ?_, by simp⟩
  exact (below_set (below_set (Below.refl _ _) _) _).drew

/-- uncount: one holder fewer. -/
theorem uncount_any (b : Nat) (mi : Int) (c : List Int) (h : Nat) (N : Int) (w : World) (m0 : 0 ≤ mi) (m9 : mi < 9) (r : Res w b c h) (i : Inv c h N) (hN : N ≤ 100000) (hp : 0 < c.getD mi.toNat 0) :
    Calls Ybad.prog 13 #[.pointer (some ⟨b, 0, none⟩), .int .u8 mi] w fun e w' => e = .returned (.tuple #[]) ∧
      ∃ c' h', Res w' b c' h' ∧ Inv c' h' N ∧ Below b w w' ∧ w'.heap.size = w.heap.size := by
  obtain ⟨m, rfl⟩ := Int.eq_ofNat_of_zero_le m0
  have hm : m < 9 := by omega
  have hbd := i.bd m hm
  simp only [Int.toNat_natCast] at hp
  have hu := inv_uncount i m hm hp
  by_cases h1 : c.getD m 0 = 1
  · have cm := r.cell m hm
    rw [h1] at cm
    refine (uncount_last b m h w hm i.lt cm r.held (r.fz m (by omega)) (r.fz 9 (by omega))).mono ?_
    rintro e w' ⟨rfl, rfl⟩
    rw [h1] at hu
    simp only [Int.sub_self, if_true] at hu
    refine ⟨rfl, _, _, res_drew (res_held (res_set r i.len m hm _) _), hu, ?_, by simp⟩
    exact (below_set (below_set (Below.refl _ _) _) _).drew
  · refine (uncount_keep b m (c.getD m 0) w hm (by omega) (by omega) (r.cell m hm) (r.fz m (by omega))).mono ?_
    rintro e w' ⟨rfl, rfl⟩
    rw [if_neg (by omega)] at hu
    refine ⟨rfl, _, _, res_drew (res_set r i.len m hm _), hu, ?_, by simp⟩
    exact (below_set (Below.refl _ _) _).drew

end Go.Proofs.YbulkbcmcDoor.lawB
