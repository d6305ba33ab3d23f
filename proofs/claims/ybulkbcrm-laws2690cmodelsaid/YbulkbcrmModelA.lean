/-
  Seat b2690a: LawS2690CModel: the drawn steps in memory; 'big'.
-/
import Derived.Test.YbulkbcrmRows
import Derived.WalkKit
import Derived.Below
import Derived.Outline
import Derived.WalkSpells
import Derived.OwnWalk
import Derived.Maps.AppendAt
import Derived.Maps.OwnSet
import Derived.Maps.Views
import Derived.OneCell
import Derived.Deep.LoopGhost
import Derived.Deep.AppendLies
import Derived.Deep.RegionLaw
import Derived.Deep.RegionWith
import Derived.Deep.QuietTactic
import Derived.BigQuiet
import Derived.ArgAppend
namespace Go.Proofs.Ybulkbcrm.model
open Go.RowKit

theorem hide {p : Prop} (h : p) : Hid p := h

/-- A drawn step: slot, low, releases, the marks' row and what it holds. -/
structure StepD : Type where
  s : Nat
  l : Nat
  r : Nat
  mv : Value
  ms : List Nat

def MRow (w : World) (v : Value) (ms : List Nat) : Prop :=
  ∃ a cap, v = .slice a ms.length cap ∧ ∀ j m : Nat, ms[j]? = some m → m < 256 ∧ ∃ b off, a = some ⟨b, off, none⟩ ∧ b < w.heap.size ∧ w.cell? ⟨b, off + j, none⟩ = some (.int .u8 (m : Int))

structure SAt (w : World) (a : Option Addr) (k : Nat) (d : StepD) : Prop where
  bs : d.s < 256 ∧ d.l < 256 ∧ d.r < 256
  at4 : ∃ b off, a = some ⟨b, off, none⟩ ∧ b < w.heap.size ∧ w.cell? ⟨b, off + k * 4, none⟩ = some (.int .u8 (d.s : Int)) ∧ w.cell? ⟨b, off + k * 4 + 1, none⟩ = some (.int .u8 (d.l : Int)) ∧ w.cell? ⟨b, off + k * 4 + 2, none⟩ = some (.int .u8 (d.r : Int)) ∧ w.cell? ⟨b, off + k * 4 + 3, none⟩ = some d.mv
  row : MRow w d.mv d.ms

def SRow (w : World) (a : Option Addr) (ds : List StepD) : Prop := ∀ k d, ds[k]? = some d → SAt w a k d

theorem MRow.below {w w' : World} {v : Value} {ms : List Nat} (h : MRow w v ms) (b : Below w.heap.size w w') : MRow w' v ms := by
  obtain ⟨a, cap, e, h⟩ := h
  refine ⟨a, cap, e, fun j m hj => ?_⟩
  obtain ⟨h1, b', off, h2, h3, h4⟩ := h j m hj
  exact ⟨h1, b', off, h2, Nat.lt_of_lt_of_le h3 b.size, by rw [b.cell (p := ⟨b', off + j, none⟩) h3]; exact h4⟩

theorem SAt.below {w w' : World} {a : Option Addr} {k : Nat} {d : StepD} (h : SAt w a k d) (b : Below w.heap.size w w') : SAt w' a k d := by
  obtain ⟨bb, off, h1, h2, c0, c1, c2, c3⟩ := h.at4
  exact ⟨h.bs, ⟨bb, off, h1, Nat.lt_of_lt_of_le h2 b.size, by rw [b.cell (p := ⟨bb, off + k * 4, none⟩) h2]; exact c0, by rw [b.cell (p := ⟨bb, off + k * 4 + 1, none⟩) h2]; exact c1, by rw [b.cell (p := ⟨bb, off + k * 4 + 2, none⟩) h2]; exact c2, by rw [b.cell (p := ⟨bb, off + k * 4 + 3, none⟩) h2]; exact c3⟩, h.row.below b⟩

def bigP (ds : List StepD) : Bool := decide (300 < ds.length) || ds.any (fun d => decide (300 < d.ms.length))

set_option maxRecDepth 50000 in
set_option maxHeartbeats 1000000 in
theorem big {w : World} {a : Option Addr} {cap : Nat} {ds : List StepD} (h : SRow w a ds) :
    Calls Yba.prog 7 #[.slice a ds.length cap] w fun e w' => e = .returned (.bool (bigP ds)) ∧ Below w.heap.size w w' := by
  obtain ⟨n, hn⟩ : ∃ n, ds.length = n := ⟨_, rfl⟩
  by_cases hl : 300 < n
  · have hlI : (300 : Int) < (n : Int) := by omega
    have E : bigP ds = true := by unfold bigP; rw [hn, decide_eq_true hl]; rfl
    rw [hn, E]
    clear h E
    go_enter Yba.func7, Yba.ntmps7
    go_wp2
    go_ret
    exact ⟨rfl, Below.refl _ _⟩
  · have hlI : ¬ (300 : Int) < (n : Int) := by omega
    obtain ⟨B, hB⟩ : ∃ B, bigP ds = B := ⟨_, rfl⟩
    have HB : Aside (bigP ds = B) := hB
    have HS : Aside (SRow w a ds) := h
    have HN : Aside (ds.length = n) := hn
    rw [hn, hB]
    clear h hn hB
    go_enter Yba.func7, Yba.ntmps7
    go_wp2
    go_loopw [10] (fun kv wr => ∃ k : Nat, k ≤ n ∧ kv = .int .i64 (k : Int) ∧ Below w.heap.size w wr ∧ ∀ j d, j < k → ds[j]? = some d → ¬ 300 < d.ms.length) (fun kv _ => n - (intOf kv).toNat)
    case atStart => exact ⟨0, Nat.zero_le _, rfl, Below.refl _ _, fun j d hj => by omega⟩
    case round =>
      obtain ⟨k, hk, rfl, hbel, hno⟩ := hrel
      have BE := hide hbel
      have NO := hide hno
      clear hbel hno
      by_cases hlt : k < n
      · obtain ⟨d, hd⟩ : ∃ d, ds[k]? = some d := ⟨_, List.getElem?_eq_getElem (by rw [HN.out]; exact hlt)⟩
        have A := (HS.out k d hd).below BE.out
        obtain ⟨b, off, rfl, bl, c0, c1, c2, c3⟩ := A.at4
        obtain ⟨ma, mc, hmv, _⟩ := A.row
        rw [hmv] at c3
        obtain ⟨m, hm⟩ : ∃ m, d.ms.length = m := ⟨_, rfl⟩
        rw [hm] at c3
        by_cases hm3 : 300 < m
        · have hmI : (300 : Int) < (m : Int) := by omega
          have E : B = true := by
            rw [← HB.out]
            unfold bigP
            rw [Bool.or_eq_true]
            exact .inr (List.any_eq_true.2 ⟨d, List.mem_of_getElem? hd, decide_eq_true (by omega)⟩)
          have BE2 := hide (BE.out.alloc BE.out.size (.cells #[.int .u8 (d.s : Int), .int .u8 (d.l : Int), .int .u8 (d.r : Int), .slice ma m mc] 57))
          subst E
          clear A hmv hm hd HS HN HB NO
          go_wp2
          go_ret
          exact ⟨rfl, BE2.out⟩
        · have hmI : ¬ (300 : Int) < (m : Int) := by omega
          have E2 : Aside (∀ j d', j < k + 1 → ds[j]? = some d' → ¬ 300 < d'.ms.length) := by
            intro j d' hj hd'
            by_cases e : j = k
            · subst e
              rw [hd] at hd'
              cases hd'
              omega
            · exact NO.out j d' (by omega) hd'
          have BE2 := hide (BE.out.alloc BE.out.size (.cells #[.int .u8 (d.s : Int), .int .u8 (d.l : Int), .int .u8 (d.r : Int), .slice ma m mc] 57))
          clear A hmv hm hd HS HN HB NO
          go_wp2
          go_roundw
          case rel => exact ⟨k + 1, by omega, by go_num, BE2.out, E2.out⟩
          case measure => simp [intOf]; omega
      · have E : B = false := by
          rw [← HB.out]
          unfold bigP
          rw [HN.out, decide_eq_false hl, Bool.false_or, List.any_eq_false]
          intro d hd
          obtain ⟨j, hj⟩ := List.mem_iff_getElem?.1 hd
          have := (List.getElem?_eq_some_iff.1 hj).1
          rw [decide_eq_false (NO.out j d (by rw [HN.out] at this; omega) hj)]
          simp
        subst E
        go_wp2
        go_ret
        exact ⟨rfl, BE.out⟩

end Go.Proofs.Ybulkbcrm.model
