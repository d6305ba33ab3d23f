/-
  Seat b2686aD: slices.Insert of one request.
-/
import Derived.Test.YbulkbcpiDoorRTake
import Derived.Lib.AppendZeros
import Derived.Lib.Overlaps
import Derived.Laws.Externs
namespace Go.Proofs.YbulkbcpiDoor.rel
open Go.RowKit

theorem run_copy4 (w : World) (ty : TypeId) (b o dLen dCap : Nat) (a : Addr) (sLen sCap k : Nat) (cs : List Value) (hk : k = Nat.min sLen dLen) (hl : cs.length = k * 4)
    (hsrc : ∀ j v, cs[j]? = some v → w.cell? (a.add j) = some v) (hc : ∀ j, j < cs.length → (w.cell? ⟨b, o + j, none⟩).isSome = true) (hf : ∀ j, j < cs.length → w.frozen? ⟨b, o + j, none⟩ = false) (h1 : ∀ v ∈ cs, v.oneCell' = true) :
    (Builtin.copy_ #[84, 84] ty #[.slice (some ⟨b, o, none⟩) dLen dCap, .slice (some a) sLen sCap]).run Ybad.prog w = .ok (goInt k) (w.setCells b o cs) := by
  have hld := run_loadCells_list (P := Ybad.prog) w a cs hsrc
  have hst := run_storeCells_cells (P := Ybad.prog) b o cs 0 w (by simpa using hc) (by simpa using hf) h1
  obtain ⟨ti, hi, hz0, hz1, hz2⟩ := info_parts Ybad.info83
  rw [hl] at hld
  simp [Builtin.copy_, run_underlying Ybad.underlying84, Builtin.lenOf, Builtin.firstCells, sizeOf, typeInfo, hi, hz1, ← hk, hld, hst]

theorem wpList_copy_run (w : World) {ops : Array Oper} {rest : List Oper} {o : Oper} {a : Act} {Q : Exit → Act → World → Prop} (hgd : o.guard = none) (d s : Operand) (t t' : TypeId)
    (ho : o.op = .call { callee := .builtin .copy, args := #[d, s], argTypes := #[t, t'] }) (v u : Value) (hd : a.eval d = v) (hs : a.eval s = u) {v' : Value} {w' : World}
    (hr : ∀ ty, (Builtin.copy_ #[t, t'] ty #[v, u]).run Ybad.prog w = .ok v' w') (h : wpList Ybad.prog ops Q rest (a.put o.dst v') w') : wpList Ybad.prog ops Q (o :: rest) a w := by
  refine wpList_plain hgd fun _ hK => ?_
  unfold Oper.wp execOp
  simp only [ho, resolve, invoke, builtin, Sem.run_bind, Sem.run_pure, Result.andThen_ok, List.map_toArray, List.map_cons, List.map_nil, hd, hs, hr]
  exact hK _ _ h

theorem step_copy_run {ops : Array Oper} {o : Oper} {a : Act} {w : World} {K : Act → World → Prop} {Q : Exit → Act → World → Prop} {E : Prop}
    (hg : o.guard = none) (d x : Operand) (dT sT : TypeId) (hop : o.op = Op.call { callee := Callee.builtin Builtin.copy, args := #[d, x], argTypes := #[dT, sT] })
    (v u : Value) (hd : a.eval d = v) (hx : a.eval x = u) {v' : Value} {w' : World} (hr : ∀ ty, (Builtin.copy_ #[dT, sT] ty #[v, u]).run Ybad.prog w = .ok v' w') (hK : K (a.put o.dst v') w') :
    if Region.wanted o (yielded ops a.tmps) = true then Oper.wp Ybad.prog o a w K Q else E := by
  have hw : Region.wanted o (yielded ops a.tmps) = true := by simp [Region.wanted, hg]
  rw [if_pos hw]
  unfold Oper.wp
  simp [execOp, hop, resolve, invoke, builtin, hd, hx, hr, Result.andThen]
  exact hK

/-- What stands behind 'slices.Insert': the new value, its requests, and what has turned. -/
def Insd (w : World) (row : Option Nat) (l : List Req) (v' : Value) (w' : World) : Prop :=
  Seg w' v' l ∧ w.grownBy w' row ∧ ∃ g, v'.ownBlock = some g ∧ (row = some g ∨ w.heap.size ≤ g) ∧ g < w'.heap.size

theorem grownBy_setCells {w : World} {g : Nat} (o : Nat) (vs : List Value) : w.grownBy (w.setCells g o vs) (some g) :=
  ⟨(env_setCells vs o w).1, (env_setCells vs o w).2.1, (env_setCells vs o w).2.2, by rw [size_setCells]; exact Nat.le_refl _, fun k _ h => heap_setCells_ne (fun e => h (by rw [e])) vs o w⟩

set_option maxRecDepth 50000 in
set_option maxHeartbeats 4000000 in
/-- At the end. -/
theorem insertEnd {w : World} {v : Value} {l : List Req} (hs : Seg w v l) (r : Req) (B : Nat) (hB : w.heap[B]? = some (.cells #[.int .i64 r.y, .int .i64 r.m, .bool r.u, .bool false] 83 (0, 0))) (hl : l.length ≤ 8) :
    Calls Ybad.prog 56 #[v, .int .i64 (l.length : Int), .slice (some ⟨B, 0, none⟩) 1 1] w fun e w' => ∃ v', e = .returned v' ∧ Insd w v.ownBlock (l ++ [r]) v' w' := by
  obtain ⟨ti, hi, hz0, hz1, hz2⟩ := info_parts Ybad.info83
  have hnews : ∀ j u, (rc r)[j]? = some u → w.cell? ((⟨B, 0, none⟩ : Addr).add j) = some u := World.news_of_block hB
  have hone : ∀ u ∈ rc r, u.oneCell' = true := by
    intro u hu
    simp [rc] at hu
    rcases hu with rfl | rfl | rfl | rfl <;> rfl
  have NEWS : Aside (∀ j u, (rc r)[j]? = some u → w.cell? ((⟨B, 0, none⟩ : Addr).add j) = some u) := hnews
  have ONE : Aside (∀ u ∈ rc r, u.oneCell' = true) := hone
  rcases hs with ⟨rfl, rfl⟩ | ⟨g, off, cap, cur, rfl, hg, hle, hcap, hsz, hcur⟩
  · clear hnews hone hB
    go_enter Ybad.func56, Ybad.ntmps56
    go_wp2_with (at_builtin; refine wpList_append_grows _ rfl (.tmp 23) (.tmp 24) 84 rfl 83 ti _ 4 24 Ybad.underlying84 hi hz0 hz1 hz2 rfl (by decide) none 0 0 [] rfl (fun _ => ⟨rfl, rfl⟩) rfl (fun b h => by cases h) ⟨B, 0, none⟩ 1 1 (rc r) rfl rfl NEWS.out ONE.out (by omega) (by simp only [maxLen]; omega) (by omega) ?_)
    intro v' w' hown hgrow
    have E1 : Aside (Insd w none ([] ++ [r]) v' w') := by
      obtain ⟨g', cap', rfl, h1, h2⟩ := hown.form (by omega)
      exact ⟨Seg.of_own (by simpa [rcs] using hown), hgrow, g', rfl, .inr h1, h2⟩
    clear hown hgrow
    go_wp2
    go_ret
    exact ⟨_, rfl, E1.out⟩
  · obtain ⟨n, hn⟩ : ∃ n, l.length = n := ⟨_, rfl⟩
    rw [hn] at hle hl ⊢
    have OL : Aside ((rcs l).length = n * 4) := by show (rcs l).length = n * 4; rw [rcs_length, hn]
    have OC : Aside (∀ j u, (rcs l)[j]? = some u → w.cell? ⟨g, off + j, none⟩ = some u) := fun j u hu => by rw [cell_of_row _ _ _ _ _ _ hg]; exact hcur j u hu
    have SP : Aside (n + 1 ≤ cap → ∀ j, j < (rc r).length → (w.cell? ⟨g, off + n * 4 + j, none⟩).isSome = true ∧ w.frozen? ⟨g, off + n * 4 + j, none⟩ = false) := fun h j hj => by
      refine ⟨?_, frozen_of_row _ _ _ _ _ hg⟩
      simp [rc] at hj
      rw [cell_of_row _ _ _ _ _ _ hg, Array.getElem?_eq_getElem (by omega)]
      rfl
    have RM : Aside (n + 1 ≤ cap → Insd w (some g) (l ++ [r]) (.slice (some ⟨g, off, none⟩) (n + 1) cap) (w.setCells g (off + n * 4) (rc r))) := fun h => by
      refine ⟨.inr ⟨g, off, cap, _, by rw [List.length_append, hn]; rfl, heap_setCells_same (rc r) _ w cur hg, by rw [List.length_append, hn]; exact h, hcap, by rw [over_size]; exact hsz, fun j u hu => ?_⟩, grownBy_setCells _ _, g, rfl, .inl rfl, by rw [size_setCells]; exact heap_lt hg⟩
      have hj := (List.getElem?_eq_some_iff.1 hu).1
      rw [rcs_length, List.length_append, hn, List.length_singleton] at hj
      rw [over_get _ _ _ _ (by simp [rc]; omega)]
      rw [rcs_append] at hu
      by_cases h2 : n * 4 ≤ j
      · rw [if_pos (by simp [rc]; omega)]
        rw [List.getElem?_append_right (by rw [OL.out]; exact h2), OL.out] at hu
        rw [show off + j - (off + n * 4) = j - n * 4 by omega]
        simpa [rcs] using hu
      · rw [if_neg (by omega)]
        rw [List.getElem?_append_left (by rw [OL.out]; omega)] at hu
        exact hcur j u hu
    have GR : Aside (∀ v' w', w'.ownsRow w.heap.size 83 4 v' (n + 1) (rcs l ++ rc r) → w.grownBy w' none → Insd w (some g) (l ++ [r]) v' w') := fun v' w' hown hgrow => by
      obtain ⟨g', cap', rfl, h1, h2⟩ := hown.form (by omega)
      refine ⟨Seg.of_own (base := w.heap.size) ?_, hgrow.but _, g', rfl, .inr h1, h2⟩
      rw [List.length_append, hn, rcs_append]
      simpa [rcs] using hown
    clear hnews hone hB hg hcur hsz hcap hn
    by_cases hroom : n + 1 ≤ cap
    · have hcn : ¬ cap = n := by omega
      have E1 : Aside (Insd w (some g) (l ++ [r]) (.slice (some ⟨g, off, none⟩) (n + 1) cap) (w.setCells g (off + n * 4) (rc r))) := RM.out hroom
      go_enter Ybad.func56, Ybad.ntmps56
      go_wp2_with (at_builtin; refine wpList_append_arg _ rfl (.tmp 23) (.tmp 24) 84 rfl 83 ti _ 4 24 Ybad.underlying84 hi hz0 hz1 hz2 rfl (by decide) g off n cap (rcs l) rfl OL.out OC.out ⟨B, 0, none⟩ 1 1 (rc r) rfl rfl NEWS.out ONE.out SP.out (by simp only [maxLen]; omega) (by omega) ?c1 ?c2)
      case c2 => intro h; omega
      go_ret
      exact ⟨_, rfl, E1.out⟩
    · obtain rfl : cap = n := by omega
      have OC2 : Aside (∀ b, some (⟨g, off, none⟩ : Addr) = some b → ∀ j u, (rcs l)[j]? = some u → w.cell? (b.add j) = some u) := fun b e j u hu => by
        cases e
        rw [Addr.add_lit]
        exact OC.out j u hu
      go_enter Ybad.func56, Ybad.ntmps56
      go_wp2_with (at_builtin; refine wpList_append_grows _ rfl (.tmp 23) (.tmp 24) 84 rfl 83 ti _ 4 24 Ybad.underlying84 hi hz0 hz1 hz2 rfl (by decide) (some ⟨g, off, none⟩) cap cap (rcs l) rfl (fun h => by cases h) OL.out OC2.out ⟨B, 0, none⟩ 1 1 (rc r) rfl rfl NEWS.out ONE.out (by omega) (by simp only [maxLen]; omega) (by omega) ?_)
      intro v' w' hown hgrow
      have E1 : Aside (Insd w (some g) (l ++ [r]) v' w') := GR.out v' w' hown hgrow
      clear hown hgrow
      go_wp2
      go_ret
      exact ⟨_, rfl, E1.out⟩

end Go.Proofs.YbulkbcpiDoor.rel
