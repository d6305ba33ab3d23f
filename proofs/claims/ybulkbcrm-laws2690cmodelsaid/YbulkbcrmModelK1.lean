/-
  Seat b2690a: LawS2690CModel: the live slots as a sorted row: maps.Keys, slices.AppendSeq, Collect, Sorted.
-/
import Derived.Test.YbulkbcrmModelM3
import Derived.Test.YbulkbcrmModelM7
import Derived.Test.YbulkbcrmModelS8
import Derived.RangeFuncNested
import Derived.RangeFuncBound
import Derived.RangeFuncCalls
import Derived.RangeFuncLeaves
import Derived.RangeFuncBox
import Derived.Shelf.Abstract
import Derived.Shelf.RegionOpen
import Derived.OwnWalkIn
import Derived.TacticsInMore
import Derived.LoopNIn
import Derived.LoopIn
namespace Go.Proofs.Ybulkbcrm.model
open Go.RowKit Go.Shelf

attribute [local go_sem] Oper.semAt_some

def KeysOf (f : Nat → Option Value) (xs : List Nat) : Prop := xs.Nodup ∧ ∀ i, i ∈ xs ↔ (i < 16 ∧ (f i).isSome = true)

theorem KeysOf.len {f : Nat → Option Value} {xs : List Nat} (h : KeysOf f xs) : xs.length ≤ 16 := nodup_le 16 xs h.1 (fun x hx => ((h.2 x).1 hx).1)

set_option maxRecDepth 100000 in
set_option maxHeartbeats 2000000 in
theorem keys1 (n : Nat) (hn : 1 ≤ n) (Bm b : Nat) (f : Nat → Option Value) (w : World) (hBm : w.cell? ⟨Bm, 0, none⟩ = some (.map (some b))) (hpm : PM w 30 .u64 16 b f) :
    SeqStopsK Fence.wide n Yba.prog 46 #[.pointer (some ⟨Bm, 0, none⟩)] (fun x : Nat => #[Value.int .u64 (x : Int)]) KeepsWalks (KeysOf f) (fun _ => True) 16 w := fun l J Jx W hW hJ _ hY h0 => by
  have hm : W.cell? ⟨Bm, 0, none⟩ = some (.map (some b)) := (hW.cell (p := ⟨Bm, 0, none⟩) (cell_lt hBm)).trans hBm
  have hp : PM W 30 .u64 16 b f := hpm.same (hW.block b hpm.lt)
  obtain ⟨w0, cnt0, hrg, hr0, hg0, hs0⟩ := hp.range keyed30 Yba.underlying69
  have hJ0 : J [] w0 := hJ [] W w0 none h0 hg0 (fun r e => by cases e)
  obtain ⟨r, hr⟩ : ∃ r, W.heap.size = r := ⟨_, rfl⟩
  rw [hr] at hrg hr0
  have HR0 := hide hr0
  have HJ0 := hide hJ0
  clear hp hr0 hg0 hs0 hJ0 hpm hBm
  refine callsIn_of_wp Yba.func46 rfl trivial ?_ rfl
  simp only [Yba.ntmps46, List.size_toArray, List.length_cons, List.length_nil, Nat.reduceAdd, Nat.reduceSub, Array.replicate_succ, Array.replicate_zero, List.push_toArray, List.append_toArray, List.nil_append, List.cons_append]
  gi_wp2
  gi_loopw [3] (fun _ wr => ∃ (left : Nat → Bool) (cnt : Nat) (ss : List Nat), PMr wr 30 .u64 16 b r f left cnt ∧ ss.Nodup ∧ (∀ i, i ∈ ss ↔ (i < 16 ∧ (f i).isSome = true ∧ left i = false)) ∧ J ss wr) (fun _ wr => wr.rangeLeft b r)
  case atStart =>
    refine ⟨_, _, [], HR0.out, by simp, fun i => ⟨fun h => by simp at h, ?_⟩, HJ0.out⟩
    rintro ⟨_, a, b'⟩
    rw [a] at b'
    cases b'
  case round =>
    obtain ⟨left, cnt, ss, hpr, hnd, hmem, hJs⟩ := hrel
    rcases hpr.next keyed30 (fun i hi => key30 hi) 0 with ⟨hc, hlf, hnx⟩ | ⟨i, v, w2, cnt2, hi, hli, hfi, hnx, hr2, hcl, hg2, hs2, hen⟩
    · clear hpr
      gi_wp2
      go_end0
      refine ⟨⟨_, rfl⟩, .inl ⟨ss, ⟨hnd, fun i => ?_⟩, hJs⟩⟩
      rw [hmem i]
      constructor
      · rintro ⟨a1, a2, a3⟩; exact ⟨a1, a2⟩
      · rintro ⟨a1, a2⟩; exact ⟨a1, a2, hlf i a1⟩
    · have hJ2 : J ss w2 := hJ ss wr w2 (some r) hJs hg2 (fun r' e => by cases e; obtain ⟨a1, a2, a3, ho⟩ := hpr.iter; exact ⟨by omega, _, ho, rfl⟩)
      have hni : i ∉ ss := fun h => by have := (hmem i).1 h; rw [hli] at this; simp at this
      have hnd2 : (ss ++ [i]).Nodup := by
        rw [List.nodup_append]
        refine ⟨hnd, by simp, fun a ha b' hb' => ?_⟩
        simp at hb'
        rintro rfl
        exact hni (by rw [← hb']; exact ha)
      have hlen : ss.length < 16 := by
        have := nodup_le 16 _ hnd2 (fun x hx => by
          rcases List.mem_append.1 hx with h | h
          · exact ((hmem x).1 h).1
          · simp at h; omega)
        simp at this
        omega
      obtain ⟨fn, tmps, assign, body, hy, hR⟩ := hY ss i w2 hJ2 hlen
      have hpr' := hide hpr
      clear hpr hg2 hs2
      gi_wp2
      refine hR.mono ?_
      rintro e W3 (⟨rfl, hJ3, hk3⟩ | ⟨rfl, hJx3⟩)
      · gi_wp2
        have hr3 : PMr W3 30 .u64 16 b r f (fun j => left j && !decide (j = i)) cnt2 := by
          obtain ⟨es, c, he⟩ := hr2.pm.isMap
          obtain ⟨a1, a2, a3, ho⟩ := hr2.iter
          exact hr2.same ((hk3.same b _ he rfl).trans he.symm) ((hk3.same r _ ho rfl).trans ho.symm)
        go_roundw
        case rel =>
          refine ⟨_, cnt2, ss ++ [i], hr3, hnd2, fun j => ?_, hJ3⟩
          rw [List.mem_append, hmem j]
          by_cases e : j = i
          · subst e
            simp [hi, hfi]
          · simp [e]
        case measure => rw [hr3.left_eq, hpr'.out.left_eq]; exact hcl
      · gi_wp2
        refine bodyPost_ret (results_none rfl _ _ _) rfl ?_
        exact ⟨⟨_, rfl⟩, .inr ⟨ss ++ [i], trivial, hJx3⟩⟩

set_option maxRecDepth 100000 in
set_option maxHeartbeats 2000000 in
theorem keys1Nil (n : Nat) (Bm : Nat) (f : Nat → Option Value) (w : World) (hBm : w.cell? ⟨Bm, 0, none⟩ = some (.map none)) (hf : ∀ i, f i = none) :
    SeqStopsK Fence.wide n Yba.prog 46 #[.pointer (some ⟨Bm, 0, none⟩)] (fun x : Nat => #[Value.int .u64 (x : Int)]) KeepsWalks (KeysOf f) (fun _ => True) 16 w := fun l J Jx W hW hJ _ hY h0 => by
  have hm : W.cell? ⟨Bm, 0, none⟩ = some (.map none) := (hW.cell (p := ⟨Bm, 0, none⟩) (cell_lt hBm)).trans hBm
  have hrg := run_range_nilMap (P := Yba.prog) W 69 30 52 Yba.underlying69
  have hnx : ∀ ty, (Instr.next (.pointer (some ⟨W.heap.size, 0, none⟩)) false ty).run Yba.prog (W.alloc (.mapIter none 0 #[] 0)) = _ := fun ty => run_next_nilMap W ty 0 0 #[]
  have hJ0 := hide (hJ [] W _ none h0 (World.grownBy_alloc W (.mapIter none 0 #[] 0) none) (fun r e => by cases e))
  clear hBm
  refine callsIn_of_wp Yba.func46 rfl trivial ?_ rfl
  simp only [Yba.ntmps46, List.size_toArray, List.length_cons, List.length_nil, Nat.reduceAdd, Nat.reduceSub, Array.replicate_succ, Array.replicate_zero, List.push_toArray, List.append_toArray, List.nil_append, List.cons_append]
  gi_wp2
  gi_loopw [3] (fun _ wr => wr = W.alloc (.mapIter none 0 #[] 0)) (fun _ _ => 0)
  case atStart => rfl
  case round =>
    subst hrel
    gi_wp2
    go_end0
    exact ⟨⟨_, rfl⟩, .inl ⟨[], ⟨by simp, fun i => by simp [hf i]⟩, hJ0.out⟩⟩

theorem Yba.info30 : (Yba.prog.info? 30).map (fun i => (i.zero, i.size, i.bytes)) = some (some (.int .u64 0), 1, 8) := by kernel_rfl

def encN (x : Nat) : Value := .int .u64 (x : Int)

set_option maxRecDepth 100000 in
set_option maxHeartbeats 2000000 in
theorem appendSeq (Bm : Nat) (f : Nat → Option Value) (w : World) (hseq : SeqStopsK Fence.wide 4 Yba.prog 46 #[.pointer (some ⟨Bm, 0, none⟩)] (fun x : Nat => #[Value.int .u64 (x : Int)]) KeepsWalks (KeysOf f) (fun _ => True) 16 w) :
    Calls Yba.prog 52 #[.slice none 0 0, .func (.func 46) #[] #[.pointer (some ⟨Bm, 0, none⟩)]] w fun e w' => ∃ v xs, e = .returned v ∧ KeysOf f xs ∧ w'.ownsRow w.heap.size 30 1 v xs.length (xs.map encN) ∧ Below w.heap.size w w' := by
  obtain ⟨i0, hi, hz0, hz1, hz2⟩ := info_parts Yba.info30
  refine (callsIn_wide (n := 5)).1 ?_
  refine callsIn_of_wp_marks Yba.func52 rfl trivial ?_ rfl
  simp only [Yba.ntmps52, List.size_toArray, List.length_cons, List.length_nil, Nat.reduceAdd, Nat.reduceSub, Array.replicate_succ, Array.replicate_zero, List.push_toArray, List.append_toArray, List.nil_append, List.cons_append]
  gi_wp2
  have bO := Boxed.new w 61 (.slice none 0 0)
  have hB0 : Below w.heap.size w (w.alloc (.cells #[.slice none 0 0] 61)) := (Below.refl _ w).alloc (Nat.le_refl _) _
  refine wpIn_rangeFunc_ownG rfl (by decide) (gf := 46) (lb := #[.pointer (some ⟨Bm, 0, none⟩)]) rfl trivial (enters_of Yba.func46 (by kernel_rfl) rfl)
    hseq walksK_t walksK_b hB0 (fun _ => rfl)
    (fun pre W => (∃ v, Boxed W w.heap.size 61 v ∧ W.ownsRow w.heap.size 30 1 v pre.length (pre.map encN) ∧ (v = .slice none 0 0 ↔ pre = [])) ∧ Below w.heap.size w W)
    (fun _ _ _ => False)
    (OwnFrom.and (Own.from (holdsRow_own w.heap.size w.heap.size 61 30 1 (fun pre : List Nat => pre.length) (fun pre : List Nat => pre.map encN) (fun pre v => v = .slice none 0 0 ↔ pre = [])) _) (ownFrom_below (Nat.le_refl _) (by simp)))
    (fun _ _ _ _ _ hs _ _ => hs)
    ⟨⟨_, bO, World.ownsRow_nil _ _ _ _, by simp⟩, hB0⟩
    (fun x => { tmps := #[.slice none 0 0, .func (.func 46) #[] #[.pointer (some ⟨Bm, 0, none⟩)], .pointer (some ⟨w.heap.size, 0, none⟩), undef, .slice none 0 0, .int .u64 (x : Int), .func (.func 46) #[] #[.pointer (some ⟨Bm, 0, none⟩)], .int .u64 (x : Int), undef, undef, undef, undef, undef], defers := [] }) ?assign ?body ?done ?stop
  case assign =>
    intro l x W K hK
    gi_wp2
    exact hK
  case body =>
    rintro l pre x W ⟨⟨v, hv, hrow, hnil⟩, hB⟩ hlt
    have hc := hv.cell
    gi_wp2_with (gi_at_builtin; refine wpListIn_append_own _ rfl _ _ 61 rfl w.heap.size 30 i0 (.int .u64 0) 1 8 Yba.underlying61 hi hz0 hz1 hz2 rfl (by decide) _ _ _ rfl (hrow.alloc _) ⟨W.heap.size, 0, none⟩ 1 1 [.int .u64 (x : Int)] rfl rfl (cell_one_new _ _ _) (by simp [Value.oneCell']) (by simp only [maxLen]; omega) (by omega) (by have := hB.size; simp; omega) ?_; intro v' w1 hown' hgrow _; obtain ⟨g', cap', rfl⟩ := ownsRow_succ hown'; obtain ⟨hv1, hv2, hr2, hk2, hb2⟩ := hv.appended (by decide) hrow hB.size (Nat.le_refl _) hown' hgrow; have hc1 := hv1.cell; have hf1 := hv1.frozen)
    refine ⟨hk2.from _, ⟨hk2.size, fun k o h hw => hk2.same k o h (Obj.not_cells_of_walk hw)⟩, ⟨_, hv2, ?_, by simp⟩, hB.trans hb2⟩
    rw [List.length_append, List.map_append]
    simpa [encN] using hr2
  case done =>
    rintro D ys W hD hS ⟨⟨v, hv, hrow, hnil⟩, hB⟩ hK
    have hc := hv.cell
    gi_wp2
    refine ⟨by simp, .inl ⟨_, _, rfl, run_takeDeferred hK, ?_⟩⟩
    exact ⟨_, results_tmp rfl _ _ _, v, ys, rfl, hS, ownsRow_putObj hrow _ hK rfl, hB.trans (belowK_b (w := w) (Nat.le_refl _) W D _ _ (by simp at hD; omega) hK rfl rfl)⟩
  case stop =>
    rintro D c pre W _ _ h _
    exact h.elim

set_option maxRecDepth 100000 in
set_option maxHeartbeats 1000000 in
theorem collect (Bm : Nat) (f : Nat → Option Value) (w : World) (hseq : SeqStopsK Fence.wide 4 Yba.prog 46 #[.pointer (some ⟨Bm, 0, none⟩)] (fun x : Nat => #[Value.int .u64 (x : Int)]) KeepsWalks (KeysOf f) (fun _ => True) 16 w) :
    Calls Yba.prog 44 #[.func (.func 46) #[] #[.pointer (some ⟨Bm, 0, none⟩)]] w fun e w' => ∃ v xs, e = .returned v ∧ KeysOf f xs ∧ w'.ownsRow w.heap.size 30 1 v xs.length (xs.map encN) ∧ Below w.heap.size w w' := by
  have c := appendSeq Bm f w hseq
  clear hseq
  go_enter Yba.func44, Yba.ntmps44
  go_wp2_with fail
  go_at_call 52
  refine c.mono ?_
  rintro e w2 ⟨v, xs, rfl, h⟩
  have H := hide h
  clear c h
  go_wp2_with fail
  go_ret
  exact ⟨v, xs, rfl, H.out⟩

set_option maxRecDepth 100000 in
set_option maxHeartbeats 1000000 in
theorem keys (mb : Option Nat) (w : World) : Calls Yba.prog 33 #[.map mb] w fun e w' => e = .returned (.func (.func 46) #[] #[.pointer (some ⟨w.heap.size, 0, none⟩)]) ∧ w' = w.alloc (.cells #[.map mb] 69) := by
  have hmf : ∀ (fn : Fn) (first cap : Array Value) (w : World), (Instr.makeFunc fn first cap).run Yba.prog w = .ok (.func fn first cap) w := fun _ _ _ _ => rfl
  go_enter Yba.func33, Yba.ntmps33
  go_wp2_with fail
  go_ret
  exact ⟨rfl, rfl⟩

/-- A row of slots. -/
def KRow (w : World) (v : Value) (ys : List Nat) : Prop :=
  ∃ a cap, v = .slice a ys.length cap ∧ ∀ (j y : Nat), ys[j]? = some y → ∃ g cur, a = some ⟨g, 0, none⟩ ∧ w.heap[g]? = some (.cells cur 30 (0, 0)) ∧ cur[j]? = some (.int .u64 (y : Int))

theorem KRow.same {w w' : World} {v : Value} {ys : List Nat} (h : KRow w v ys) (hk : ∀ (g : Nat) (cur : Array Value), w.heap[g]? = some (.cells cur 30 (0, 0)) → w'.heap[g]? = some (.cells cur 30 (0, 0))) : KRow w' v ys := by
  obtain ⟨a, cap, e, h⟩ := h
  refine ⟨a, cap, e, fun j y hj => ?_⟩
  obtain ⟨g, cur, h1, h2, h3⟩ := h j y hj
  exact ⟨g, cur, h1, hk g cur h2, h3⟩

set_option maxRecDepth 100000 in
set_option maxHeartbeats 2000000 in
theorem sorted (Bm : Nat) (f : Nat → Option Value) (w : World) (hseq : SeqStopsK Fence.wide 4 Yba.prog 46 #[.pointer (some ⟨Bm, 0, none⟩)] (fun x : Nat => #[Value.int .u64 (x : Int)]) KeepsWalks (KeysOf f) (fun _ => True) 16 w) :
    Calls Yba.prog 32 #[.func (.func 46) #[] #[.pointer (some ⟨Bm, 0, none⟩)]] w fun e w' => ∃ v ys, e = .returned v ∧ KeysOf f ys ∧ ys.Pairwise (· < ·) ∧ KRow w' v ys ∧ Below w.heap.size w w' := by
  have c := collect Bm f w hseq
  clear hseq
  go_enter Yba.func32, Yba.ntmps32
  go_wp2_with fail
  go_at_call 44
  refine c.mono ?_
  rintro e w2 ⟨v, xs, rfl, hk, hrow, hbel⟩
  clear c
  rcases hrow.2 with ⟨rfl, h0⟩ | ⟨g, cap, cur, rfl, hgB, hg, hnc, hcm, hsz, htk⟩
  · have hx : xs = [] := List.length_eq_zero_iff.1 h0
    have cS := sortNil w2
    have HK := hide hk
    have HB := hide hbel
    clear hk hbel hrow
    go_wp2_with fail
    go_at_call 45
    refine cS.mono ?_
    rintro e w3 ⟨rfl, hw3⟩
    have hw3' := hw3.symm
    subst hw3'
    go_wp2_with fail
    go_ret
    subst hx
    exact ⟨_, [], rfl, HK.out, by simp, ⟨none, 0, rfl, fun j y hj => by simp at hj⟩, HB.out⟩
  · obtain ⟨d, hd⟩ : ∃ d : Array Int, d = (xs.map (fun x : Nat => (x : Int))).toArray := ⟨_, rfl⟩
    have hds : d.size = xs.length := by rw [hd]; simp
    have hl16 := hk.len
    have hcur : ∀ (j x : Nat), xs[j]? = some x → cur[j]? = some (.int .u64 (x : Int)) := fun j x hj => by
      have hjl : j < xs.length := (List.getElem?_eq_some_iff.1 hj).1
      have e1 : (xs.map encN)[j]? = some (.int .u64 (x : Int)) := by rw [List.getElem?_map, hj]; rfl
      rw [← htk, List.getElem?_take_of_lt (by omega), Array.getElem?_toList] at e1
      exact e1
    have hdj : ∀ (j x : Nat), xs[j]? = some x → d[j]! = (x : Int) := fun j x hj => by
      rw [hd, Array.getElem!_eq_getD, Array.getD_eq_getD_getElem?, List.getElem?_toArray, List.getElem?_map, hj]
      rfl
    have hH : Sort.Holds encU w2 g 0 d := fun j hj => by
      obtain ⟨x, hx⟩ : ∃ x, xs[j]? = some x := ⟨_, List.getElem?_eq_getElem (by rw [← hds]; exact hj)⟩
      refine ⟨?_, by simp [World.frozen?, hg]⟩
      rw [Nat.zero_add, cell_of hg (hcur j x hx), hdj j x hx]
    have hnd : ND 0 d.size d := by
      intro i j _ hij hj
      rw [hds] at hj
      rw [hdj i _ (List.getElem?_eq_getElem (by omega)), hdj j _ (List.getElem?_eq_getElem hj)]
      have h1 : List.Pairwise (· ≠ ·) xs := hk.1
      have := List.pairwise_iff_getElem.1 h1 i j (by omega) hj hij
      omega
    have cS := sortU g 0 cap d w2 hH (heap_lt hg) (by omega) hnd
    rw [hds] at cS
    have CS := hide cS
    have HK := hide hk
    have HB := hide hbel
    clear hk hbel hrow cS hH
    go_wp2_with fail
    go_at_call 45
    refine CS.out.mono ?_
    rintro e w3 ⟨rfl, d', hp, hs, hr⟩
    have HP := hide hp
    have HSS := hide hs
    have HRW := hide hr
    clear CS hp hs hr
    go_wp2_with fail
    go_ret
    obtain ⟨nn, os, hw3⟩ := HRW.out.at'
    have hsz' : d'.size = xs.length := by rw [HP.out.1, hds]
    have hperm : d'.toList.Perm (xs.map (fun x : Nat => (x : Int))) := by
      have := HP.out.2.2
      simp only [Array.toList_extract, List.extract_eq_take_drop, List.drop_zero, Nat.sub_zero] at this
      rw [List.take_of_length_le (by simp [hsz']), List.take_of_length_le (by simp [hds])] at this
      rw [hd] at this
      simpa using this
    obtain ⟨ys, hys⟩ : ∃ ys, ys = d'.toList.map Int.toNat := ⟨_, rfl⟩
    have hyx : ys.Perm xs := by
      rw [hys]
      have := hperm.map Int.toNat
      rw [List.map_map] at this
      have e : (xs.map (Int.toNat ∘ fun x : Nat => (x : Int))) = xs := by
        conv => rhs; rw [← List.map_id xs]
        apply List.map_congr_left
        intro x _
        simp
      rw [e] at this
      exact this
    have hnn : ∀ z ∈ d'.toList, 0 ≤ z := fun z hz => by
      have := hperm.mem_iff.1 hz
      obtain ⟨x, _, rfl⟩ := List.mem_map.1 this
      omega
    have hyl : ys.length = xs.length := hyx.length_eq
    have hget : ∀ (j y : Nat), ys[j]? = some y → d'[j]? = some (y : Int) := fun j y hj => by
      rw [hys, List.getElem?_map] at hj
      rw [← Array.getElem?_toList]
      cases hq : d'.toList[j]? with
      | none => rw [hq] at hj; cases hj
      | some z =>
        rw [hq] at hj
        simp at hj
        have := hnn z (List.mem_of_getElem? hq)
        congr 1
        omega
    have hndy : ys.Nodup := hyx.nodup_iff.2 HK.out.1
    have f3 : Fr (fun k => k = g) w2 w3 := by
      rw [hw3]
      refine ⟨rfl, rfl, rfl, by simp, fun k hk hne => ?_⟩
      rw [Sort.heap_grow_old _ _ (by simpa using hk)]
      have : g ≠ k := fun e => hne e.symm
      simp [Sort.putRow, Sort.mapBlock, Sort.ahead, Array.getElem?_modify, this]
    refine ⟨_, ys, rfl, ⟨hndy, fun i => by rw [hyx.mem_iff]; exact HK.out.2 i⟩, ?_, ⟨some ⟨g, 0, none⟩, cap, by simp [hyl], fun j y hj => ⟨g, Sort.putCells encU 0 d' cur, rfl, ?_, ?_⟩⟩, HB.out.trans (f3.below HB.out.size (fun k e => by rw [e]; exact hgB))⟩
    · rw [List.pairwise_iff_getElem]
      intro i j hi hj hij
      have e1 := hget i _ (List.getElem?_eq_getElem hi)
      have e2 := hget j _ (List.getElem?_eq_getElem hj)
      have h1 := HSS.out i j (Nat.zero_le _) hij (by omega)
      rw [Array.getElem!_eq_getD, Array.getElem!_eq_getD, Array.getD_eq_getD_getElem?, Array.getD_eq_getD_getElem?, e1, e2] at h1
      have h2 : List.Pairwise (· ≠ ·) ys := hndy
      have h3 := List.pairwise_iff_getElem.1 h2 i j hi hj hij
      simp [Sort.ltInt] at h1
      omega
    · rw [hw3, Sort.heap_grow_old _ _ (by simpa using heap_lt hg)]
      simp [Sort.putRow, Sort.mapBlock, Sort.ahead, Array.getElem?_modify, hg, Sort.onCells]
    · have hjl : j < ys.length := (List.getElem?_eq_some_iff.1 hj).1
      have hjc : j < cur.size := by omega
      have e1 := hget j y hj
      have e2 : d'[j]! = (y : Int) := by rw [Array.getElem!_eq_getD, Array.getD_eq_getD_getElem?, e1]; rfl
      simp only [Sort.putCells, Array.getElem?_mapIdx, Array.getElem?_eq_getElem hjc, Option.map_some]
      rw [if_pos (by omega), Nat.sub_zero, e2]

end Go.Proofs.Ybulkbcrm.model
