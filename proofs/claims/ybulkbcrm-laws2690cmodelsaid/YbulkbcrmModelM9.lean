/-
  Seat b2690a: LawS2690CModel: slices.SortFunc at the row of held slots.
-/
import Derived.Test.YbulkbcrmModelM8
import Derived.Shelf.SlSortCmp.NoneTotal
import Derived.Shelf.Lay
import Derived.Ground.SlsfProg
namespace Go.Proofs.Ybulkbcrm.model
open Go.Shelf Go.RowKit Go.Sort

set_option maxRecDepth 100000
shelf_lay_g SlLaysF0.n6 Slsf 6 at Yba 15 as Yba.sortHS
set_option maxRecDepth 512

set_option maxRecDepth 100000 in
set_option maxHeartbeats 1000000 in
theorem add2 (x y : Rec) (W : World) : Calls Yba.prog 16 #[hcv x, hcv y] W fun e w' => e = .returned (.int .i64 (cmpN x.slot y.slot)) ∧ ∃ q os', w' = grow (W.drewN q) os' := by
  obtain ⟨slot, low, rel, log, ra, rl, rc⟩ := x
  obtain ⟨slot2, low2, rel2, log2, ra2, rl2, rc2⟩ := y
  have c : ∀ w, Calls Yba.prog 17 #[.int .u64 slot, .int .u64 slot2] w fun e w' => e = .returned (.int .i64 (cmpN slot slot2)) ∧ w' = w := compare slot slot2
  simp only
  obtain ⟨cc, hcc⟩ : ∃ cc, cmpN slot slot2 = cc := ⟨_, rfl⟩
  rw [hcc]
  simp only [hcc] at c
  clear hcc
  unfold hcv
  go_enter Yba.func16, Yba.ntmps16
  go_wp2_with fail
  go_at_call 17
  refine (c _).mono ?_
  rintro e w2 ⟨rfl, rfl⟩
  go_wp2_with fail
  go_ret
  exact ⟨rfl, 0, _, by rw [alloc_eq_grow, alloc_eq_grow, grow_grow]; rfl⟩

def cfR (x y : Rec) : Int := cmpN x.slot y.slot

theorem ltR (x y : Rec) : ltOf cfR x y = decide (x.slot < y.slot) := by
  unfold ltOf cfR cmpN
  by_cases h1 : x.slot < y.slot
  · simp [h1]
  · by_cases h2 : y.slot < x.slot <;> simp [h1, h2]

theorem swoR : SWO (ltOf cfR) where
  irrefl x := by rw [ltR]; simp
  trans x y z h1 h2 := by rw [ltR] at *; simp at *; omega
  ntrans x y z h1 h2 := by rw [ltR] at *; simp at *; omega

theorem hcl_some (l : List Rec) (j : Nat) (hj : j < l.length * 13) : ∃ r, l[j / 13]? = some r ∧ (hcs l)[j]? = (hcl r)[j % 13]? := by
  have h1 : j / 13 < l.length := by omega
  refine ⟨l[j / 13], List.getElem?_eq_getElem h1, ?_⟩
  have h2 := hcs_at l (j / 13) _ (List.getElem?_eq_getElem h1) (j % 13) (Nat.mod_lt _ (by omega))
  rw [show j / 13 * 13 + j % 13 = j by omega] at h2
  exact h2

theorem flat_hcs (ih : Inhabited Rec) (d : Array Rec) : flatK hcl 13 d = (hcs d.toList).toArray := by
  refine ext_get! (by simp [hcs_length]) fun t ht => ?_
  have ht' : t < d.size * 13 := by simpa using ht
  rw [get_flatK _ _ _ t ht']
  obtain ⟨r, h1, h2⟩ := hcl_some d.toList t (by simpa using ht')
  have h3 : d[t / 13]! = r := by
    rw [Array.getElem?_toList] at h1
    rw [Array.getElem!_eq_getD, Array.getD_eq_getD_getElem?, h1]
    rfl
  rw [h3]
  have hm : t % 13 < (hcl r).length := by rw [hcl_length]; exact Nat.mod_lt _ (by omega)
  rw [List.getElem?_eq_getElem hm] at h2
  have h4 : (hcs d.toList).toArray[t]? = some (hcl r)[t % 13] := by rw [List.getElem?_toArray]; exact h2
  rw [List.getElem!_eq_getElem?_getD, List.getElem?_eq_getElem hm, Array.getElem!_eq_getD, Array.getD_eq_getD_getElem?, h4]

/-- The row, sorted. -/
theorem sortHeld {w : World} {g off : Nat} (cap : Nat) {xs : List Rec} {cur : Array Value} (hg : w.heap[g]? = some (.cells cur 80 (0, 0))) (hc : ∀ j u, (hcs xs)[j]? = some u → cur[off + j]? = some u) (hn : xs.length ≤ 100) :
    Calls Yba.prog 15 #[.slice (some ⟨g, off, none⟩) xs.length cap, .func (Fn.func 16) #[] #[]] w fun e w' => e = .returned (.tuple #[]) ∧
      ∃ ys, ys.Perm xs ∧ (∀ (i j : Nat) (a b : Rec), ys[i]? = some a → ys[j]? = some b → i < j → a.slot ≤ b.slot) ∧ Fr (fun k => k = g) w w' ∧
        ∃ cur', w'.heap[g]? = some (.cells cur' 80 (0, 0)) ∧ cur'.size = cur.size ∧ (∀ j u, (hcs ys)[j]? = some u → cur'[off + j]? = some u) ∧ ∀ j, j < off ∨ off + xs.length * 13 ≤ j → cur'[j]? = cur[j]? := by
  have ih : Inhabited Rec := ⟨zrec⟩
  obtain ⟨d, hd⟩ : ∃ d : Array Rec, d = xs.toArray := ⟨_, rfl⟩
  have hdl : d.toList = xs := by rw [hd]
  have hds : d.size = xs.length := by rw [hd]; simp
  have eg : ∀ args w, (callFunc 16 args).run Yba.prog w = .ok (.enter 16 args) w := enters_of Yba.func16 (by kernel_rfl) rfl
  have hH : HoldsK hcl 13 w g off d := by
    intro j hj
    rw [flat_hcs, hdl] at hj ⊢
    have hj' : j < (hcs xs).length := by simpa using hj
    have e1 := hc j _ (List.getElem?_eq_getElem hj')
    refine ⟨?_, by simp [World.frozen?, hg]⟩
    rw [cell_of hg e1]
    simp [hj']
  have hcon := AnyQ.slices_SortFunc Yba.sortHS 13 Yba.isAgg80 Yba.sizeOf80 hcl hcl_length (fun x v hv => hcl_one v hv) cfR swoR 16 #[] g off cap d w eg (fun _ _ _ _ x y => add2 x y _) hH (heap_lt hg) (by omega)
  change Calls Yba.prog 15 _ _ _ at hcon
  rw [hds] at hcon
  refine hcon.mono ?_
  rintro e w' ⟨rfl, d', n, os, hp, hs, rfl⟩
  have hsz : d'.size = xs.length := by rw [hp.1, hds]
  refine ⟨rfl, d'.toList, ?_, ?_, ?_, putCells id off (flatK hcl 13 d') cur, ?_, ?_, ?_, ?_⟩
  · have := hp.2.2
    rw [← hds] at this
    simp only [hds, Array.toList_extract, List.extract_eq_take_drop, List.drop_zero, Nat.sub_zero, hdl] at this
    rw [List.take_of_length_le (by simp [hsz]), List.take_of_length_le (Nat.le_refl _)] at this
    exact this
  · intro i j a b hi hj hij
    rw [Array.getElem?_toList] at hi hj
    have hjl : j < xs.length := by rw [← hsz]; exact (Array.getElem?_eq_some_iff.1 hj).1
    have := hs i j (Nat.zero_le _) hij hjl
    rw [ltR, Array.getElem!_eq_getD, Array.getElem!_eq_getD, Array.getD_eq_getD_getElem?, Array.getD_eq_getD_getElem?, hi, hj] at this
    simp at this
    exact this
  · refine ⟨rfl, rfl, rfl, by simp [sortWorldK, putRowK], fun k hk hne => ?_⟩
    unfold sortWorldK putRowK
    rw [heap_grow_old _ _ (by simpa using hk)]
    have : g ≠ k := fun e => hne e.symm
    simp [putRow, mapBlock, Sort.ahead, Array.getElem?_modify, this]
  · unfold sortWorldK putRowK
    rw [heap_grow_old _ _ (by simpa using heap_lt hg)]
    simp [putRow, mapBlock, Sort.ahead, Array.getElem?_modify, hg, onCells]
  · simp [putCells]
  · intro j u hu
    have hj : j < (hcs d'.toList).length := (List.getElem?_eq_some_iff.1 hu).1
    have hj2 : j < xs.length * 13 := by rw [hcs_length] at hj; simpa [hsz] using hj
    have hjx : j < (hcs xs).length := by rw [hcs_length]; exact hj2
    have hb := hc j _ (List.getElem?_eq_getElem hjx)
    have hlt := (Array.getElem?_eq_some_iff.1 hb).1
    have e2 : (flatK hcl 13 d')[j]! = u := by
      rw [flat_hcs, Array.getElem!_eq_getD, Array.getD_eq_getD_getElem?, List.getElem?_toArray, hu]
      rfl
    simp only [putCells, Array.getElem?_mapIdx, size_flatK, hsz, hb, Option.map_some]
    rw [if_pos (by omega), show off + j - off = j by omega, e2]
    rfl
  · intro j hj
    simp only [putCells, Array.getElem?_mapIdx, size_flatK, hsz]
    cases cur[j]? with
    | none => rfl
    | some v => simp only [Option.map_some]; rw [if_neg (by omega)]

end Go.Proofs.Ybulkbcrm.model
