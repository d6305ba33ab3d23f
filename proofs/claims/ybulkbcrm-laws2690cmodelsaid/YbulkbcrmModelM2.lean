/-
  Seat b2690a: LawS2690CModel: gone, raise, keptOf, the registry's add.
-/
import Derived.Test.YbulkbcrmModelM1
import Derived.Test.YbulkbcrmModelS1
import Derived.Deep.CutBlock
import Derived.Deep.CutRange
namespace Go.Proofs.Ybulkbcrm.model
open Go.RowKit

set_option maxRecDepth 100000 in
set_option maxHeartbeats 1000000 in
theorem gone {w : World} {sb low rel : Nat} {mv : Value} {kept : Nat} {lv hv : Value} (r : Rec) (h : SB w sb low rel mv kept lv hv) :
    Calls Yba.prog 21 #[.pointer (some ⟨sb, 0, none⟩), rcv r] w fun e w' => e = .returned (.tuple #[]) ∧ Fr (fun _ => False) w w' := by
  have c0 := h.c0
  have hl := h.lt
  have F := hide ((Fr.refl (fun _ => False) w).alloc (.cells (rcl r).toArray 52))
  have hnil : ∀ w : World, (binOp BinOp.neq 65 .nilFunc .nilFunc).run Yba.prog w = .ok (.bool false) w := fun _ => by kernel_rfl
  unfold rcl at F
  unfold rcv
  clear h
  go_enter Yba.func21, Yba.ntmps21
  go_wp2_with fail
  go_end0
  exact ⟨rfl, F.out⟩

set_option maxRecDepth 100000 in
set_option maxHeartbeats 1000000 in
theorem compare (x y : Nat) (w : World) : Calls Yba.prog 17 #[.int .u64 x, .int .u64 y] w fun e w' => e = .returned (.int .i64 (if x < y then -1 else if y < x then 1 else 0)) ∧ w' = w := by
  by_cases h1 : x < y
  · have hI : (x : Int) < (y : Int) := by omega
    rw [if_pos h1]
    go_enter Yba.func17, Yba.ntmps17
    go_wp2_with (go_at_call 27; refine (isNaN _ _).mono ?_; rintro e w' ⟨rfl, rfl⟩)
    go_ret
    exact ⟨rfl, rfl⟩
  · have hI : ¬ (x : Int) < (y : Int) := by omega
    rw [if_neg h1]
    by_cases h2 : y < x
    · have hJ : (y : Int) < (x : Int) := by omega
      rw [if_pos h2]
      go_enter Yba.func17, Yba.ntmps17
      go_wp2_with (go_at_call 27; refine (isNaN _ _).mono ?_; rintro e w' ⟨rfl, rfl⟩)
      go_ret
      exact ⟨rfl, rfl⟩
    · have hJ : ¬ (y : Int) < (x : Int) := by omega
      rw [if_neg h2]
      go_enter Yba.func17, Yba.ntmps17
      go_wp2_with (go_at_call 27; refine (isNaN _ _).mono ?_; rintro e w' ⟨rfl, rfl⟩)
      go_ret
      exact ⟨rfl, rfl⟩

/-- The registry's map of marks. -/
def gv (g : Nat → Option Nat) : Nat → Option Value := fun i => (g i).map (fun n : Nat => .int .u64 (n : Int))

def MM (w : World) (mv : Value) (g : Nat → Option Nat) : Prop :=
  (mv = .map none ∧ ∀ i, g i = none) ∨ ∃ m, mv = .map (some m) ∧ PM w 46 .u32 4 m (gv g)

theorem gv_upd (g : Nat → Option Nat) (i x : Nat) : upd (gv g) i (some (.int .u64 (x : Int))) = gv (upd g i (some x)) := by
  funext j
  by_cases e : j = i <;> simp [upd, gv, e]

def raiseG (g : Nat → Option Nat) (l s : Nat) : Nat → Option Nat :=
  match g l with
  | none => upd g l (some s)
  | some o => if o < s then upd g l (some s) else g

theorem alloc_new (w : World) (o : Obj) : (w.alloc o).heap[w.heap.size]? = some o := (MapKept.heap_alloc w o).1

def bx59 (w : World) (b l s : Nat) : Prop := w.heap[b]? = some (.cells #[.int .u32 (l : Int), .int .u64 (s : Int)] 59 (0, 0))

set_option maxRecDepth 100000 in
set_option maxHeartbeats 2000000 in
theorem raise {w : World} {sb low rel : Nat} {mv : Value} {kept : Nat} {lv hv : Value} {g : Nat → Option Nat} (l s : Nat) (h : SB w sb low rel mv kept lv hv) (hm : MM w mv g) (hl : l < 4) :
    Calls Yba.prog 28 #[.pointer (some ⟨sb, 2, none⟩), .agg #[.int .u32 (l : Int), .int .u64 (s : Int)]] w fun e w' => e = .returned (.tuple #[]) ∧
      ∃ mv', SB w' sb low rel mv' kept lv hv ∧ MM w' mv' (raiseG g l s) ∧ Fr (fun k => k = sb ∨ mv = .map (some k)) w w' ∧ (mv' = mv ∨ ∃ m', mv' = .map (some m') ∧ w.heap.size ≤ m') := by
  have c3 := h.c3
  have f3 := h.fz 3
  have hlt := h.lt
  have HS := hide h
  obtain ⟨bb, hb1, hb3, hb2⟩ : ∃ bb : Bool, (∀ w : World, (binOp BinOp.eql 66 mv (.map none)).run Yba.prog w = .ok (.bool bb) w) ∧ (∀ w : World, Sem.run Yba.prog (eqGuard BinOp.eql 66 (Operand.tmp 9) (Operand.const (Value.map none)) mv (Value.map none)) w = .ok () w) ∧ ((bb = true ∧ mv = .map none ∧ ∀ i, g i = none) ∨ (bb = false ∧ ∃ m, mv = .map (some m) ∧ PM w 46 .u32 4 m (gv g))) := by
    rcases hm with ⟨rfl, h0⟩ | ⟨m, rfl, h0⟩
    · exact ⟨true, fun _ => by kernel_rfl, fun _ => by kernel_rfl, .inl ⟨rfl, rfl, h0⟩⟩
    · exact ⟨false, fun _ => by kernel_rfl, fun _ => by kernel_rfl, .inr ⟨rfl, m, rfl, h0⟩⟩
  have HB := hide hb2
  clear h hm hb2
  go_enter Yba.func28, Yba.ntmps28
  go_upto_if 10 with fail
  go_cut [] from 11 (fun wx => ∃ m, SB wx sb low rel (.map (some m)) kept lv hv ∧ PM wx 46 .u32 4 m (gv g) ∧ bx59 wx w.heap.size l s ∧ Fr (fun k => k = sb ∨ mv = .map (some k)) w wx ∧ (mv = .map (some m) ∨ w.heap.size < m))
  case first =>
    rcases HB.out with ⟨rfl, hmv, h0⟩ | ⟨rfl, m, hmv, h0⟩
    · have H0 := hide h0
      have HMV := hide hmv
      have hmm := @run_makeMap Yba.prog
      clear HB h0 hmv
      go_wp2_with fail
      go_meet
      case rel =>
        have e1 := HS.out.set3 (.map (some (w.heap.size + 1)))
        refine ⟨w.heap.size + 1, e1.same ?_, ?_, ?_, ?_, .inr (by omega)⟩
        · rw [Below.heap_alloc _ _ _ (by simp; omega), Below.heap_alloc _ _ _ (by simp; omega)]
        · have e2 := PM.made (f := gv g) ((w.setCell ⟨sb, 3, none⟩ (.map (some (w.heap.size + 1)))).alloc (.cells #[.int .u32 (l : Int), .int .u64 (s : Int)] 59)) 46 .u32 4 (fun i => by simp [gv, H0.out i])
          simp only [World.size_alloc, World.size_setCell] at e2
          exact e2
        · have e2 := alloc_new (w.setCell ⟨sb, 3, none⟩ (.map (some (w.heap.size + 1)))) (.cells #[.int .u32 (l : Int), .int .u64 (s : Int)] 59)
          simp only [World.size_setCell] at e2
          unfold bx59
          rw [Below.heap_alloc _ _ _ (by simp)]
          exact e2
        · exact (((Fr.refl _ w).setCell (.inl (.inl rfl)) _ _).alloc _).alloc _
    · have H0 := hide h0
      have HMV := hide hmv
      clear HB h0 hmv
      go_wp2_with fail
      go_meet
      case rel =>
        have e1 : SB (w.alloc (.cells #[.int .u32 (l : Int), .int .u64 (s : Int)] 59)) sb low rel mv kept lv hv :=
          HS.out.same (by rw [Below.heap_alloc _ _ _ hlt])
        refine ⟨m, HMV.out ▸ e1, H0.out.same (Below.heap_alloc _ _ _ H0.out.lt), ?_, (Fr.refl _ w).alloc _, .inl HMV.out⟩
        exact alloc_new _ _
  case rest =>
    obtain ⟨m, hs, hp, hbx, hfr, hor⟩ := hcut
    have d3 := hs.c3
    have x0 : wc.cell? ⟨w.heap.size, 0, none⟩ = some (.int .u32 (l : Int)) := by simp [World.cell?, show _ = _ from hbx]
    have x1 : wc.cell? ⟨w.heap.size, 1, none⟩ = some (.int .u64 (s : Int)) := by simp [World.cell?, show _ = _ from hbx]
    have L := PM.lookOk (show PM wc.drew 46 .u32 4 m (gv g) from hp) keyed46 Yba.underlying66 (zero30 _) hl (key46 hl)
    have HSC := hide hs
    have HPM := hide hp
    have HFR := hide hfr
    have HOR := hide hor
    clear hs hp hfr hor HB hbx c3 f3 HS hb1 hb3
    have mne : m ≠ sb := by
      rintro rfl
      obtain ⟨es, c, he⟩ := HPM.out.isMap
      have := HSC.out
      unfold SB at this
      rw [he] at this
      cases this
    obtain ⟨ok, hok⟩ : ∃ ok, (g l).isSome = ok := ⟨_, rfl⟩
    have e1 : (gv g l).isSome = ok := by rw [← hok]; cases hg : g l <;> simp [gv, hg]
    obtain ⟨old, hold⟩ : ∃ old : Nat, (g l).getD 0 = old := ⟨_, rfl⟩
    have e2 : (gv g l).getD (.int .u64 0) = .int .u64 (old : Int) := by rw [← hold]; cases hg : g l <;> simp [gv, hg]
    rw [e1, e2] at L
    clear e1 e2
    obtain ⟨W, pu, hp1, hp2⟩ : ∃ w', (Instr.mapUpdate 66 (.map (some m)) (.int .u32 (l : Int)) (.int .u64 (s : Int))).run Yba.prog wc.drew.drew = .ok () w' ∧ PM w' 46 .u32 4 m (gv (upd g l (some s))) ∧ wc.drew.drew.mapTurned w' m := by
      have hp : PM wc.drew.drew 46 .u32 4 m (gv g) := HPM.out
      obtain ⟨w', h1, h2, h3⟩ := hp.put keyed46 Yba.underlying66 hl (key46 hl) (by decide) (.int .u64 (s : Int))
      exact ⟨w', h1, by rw [← gv_upd]; exact h2, h3⟩
    have fin : raiseG g l s = upd g l (some s) → (∃ mv', SB W sb low rel mv' kept lv hv ∧ MM W mv' (raiseG g l s) ∧ Fr (fun k => k = sb ∨ mv = .map (some k)) w W ∧ (mv' = mv ∨ ∃ m', mv' = .map (some m') ∧ w.heap.size ≤ m')) := fun e => by
      have hg := hp2.grown
      refine ⟨.map (some m), HSC.out.same ((hg.block sb HSC.out.lt (fun e => mne (by cases e; rfl)))), .inr ⟨m, rfl, by rw [e]; exact hp1⟩, ?_, ?_⟩
      · refine HFR.out.drew.drew.turned hp2 ?_
        rcases HOR.out with h1 | h1
        · exact .inl (.inr h1)
        · exact .inr (by omega)
      · rcases HOR.out with h1 | h1
        · exact .inl h1.symm
        · exact .inr ⟨m, rfl, by omega⟩
    have FIN := hide fin
    clear fin hp1 hp2
    go_wp2_with fail
    go_region
    cases ok with
    | false =>
      have e0 : raiseG g l s = upd g l (some s) := by
        unfold raiseG
        cases hg : g l with
        | none => rfl
        | some x => rw [hg] at hok; cases hok
      have E0 := hide e0
      clear hok hold e0
      go_wp2_with fail
      go_region
      go_wp2_with fail
      go_end0
      exact ⟨rfl, FIN.out E0.out⟩
    | true =>
      have hgl : g l = some old := by
        cases hg : g l with
        | none => rw [hg] at hok; cases hok
        | some x => rw [hg] at hold; simp at hold; rw [hold]
      by_cases hos : old < s
      · have hosI : (old : Int) < (s : Int) := by omega
        have e0 : raiseG g l s = upd g l (some s) := by
          unfold raiseG
          rw [hgl]
          exact if_pos hos
        have E0 := hide e0
        clear hok hold e0 hgl
        go_wp2_with fail
        go_region
        go_wp2_with fail
        go_end0
        exact ⟨rfl, FIN.out E0.out⟩
      · have hosI : ¬ (old : Int) < (s : Int) := by omega
        have e0 : raiseG g l s = g := by
          unfold raiseG
          rw [hgl]
          exact if_neg hos
        have E0 := hide e0
        clear hok hold e0 hgl
        go_wp2_with fail
        go_end0
        refine ⟨rfl, .map (some m), HSC.out, .inr ⟨m, rfl, by rw [E0.out]; exact HPM.out⟩, HFR.out.drew, ?_⟩
        rcases HOR.out with h1 | h1
        · exact .inl h1.symm
        · exact .inr ⟨m, rfl, by omega⟩

end Go.Proofs.Ybulkbcrm.model
