/-
  Seat b2686aD: slices.Delete of one element.
-/
import Derived.Test.YbulkbcpiDoorRApp
namespace Go.Proofs.YbulkbcpiDoor.rel
open Go.RowKit

/-! ### cells set one by one, in a block that is known whole -/

def over (cur : Array Value) (o : Nat) : List Value → Array Value
  | [] => cur
  | v :: r => over (cur.setIfInBounds o v) (o + 1) r

theorem over_size : ∀ (vs : List Value) (o : Nat) (cur : Array Value), (over cur o vs).size = cur.size
  | [], _, _ => rfl
  | v :: r, o, cur => by rw [over, over_size r]; simp

theorem over_get : ∀ (vs : List Value) (o : Nat) (cur : Array Value) (j : Nat), o + vs.length ≤ cur.size → (over cur o vs)[j]? = if o ≤ j ∧ j < o + vs.length then vs[j - o]? else cur[j]?
  | [], o, cur, j, _ => by simp only [over]; rw [if_neg (by simp)]
  | v :: r, o, cur, j, h => by
    simp only [List.length_cons] at h
    rw [over, over_get r (o + 1) _ j (by simp; omega)]
    by_cases h1 : o + 1 ≤ j ∧ j < o + 1 + r.length
    · rw [if_pos h1, if_pos (by simp; omega), show j - o = (j - (o + 1)) + 1 by omega]
      rfl
    · rw [if_neg h1]
      by_cases h2 : j = o
      · subst h2
        rw [if_pos (by simp)]
        rw [Nat.sub_self, Array.getElem?_setIfInBounds_self_of_lt (by omega)]
        rfl
      · rw [if_neg (by simp; omega), Array.getElem?_setIfInBounds_ne (by omega)]

theorem heap_setCells_same {b : Nat} {e : TypeId} {fz : Nat × Nat} : ∀ (vs : List Value) (o : Nat) (w : World) (cur : Array Value), w.heap[b]? = some (.cells cur e fz) → (w.setCells b o vs).heap[b]? = some (.cells (over cur o vs) e fz)
  | [], _, _, _, h => h
  | v :: r, o, _, _, h => heap_setCells_same r (o + 1) _ _ (hset_same h o v)

theorem heap_setCells_ne {b k : Nat} (hk : b ≠ k) : ∀ (vs : List Value) (o : Nat) (w : World), (w.setCells b o vs).heap[k]? = w.heap[k]?
  | [], _, _ => rfl
  | v :: r, o, w => (heap_setCells_ne hk r (o + 1) _).trans (hset_other w ⟨b, o, none⟩ v hk)

theorem size_setCells {b : Nat} : ∀ (vs : List Value) (o : Nat) (w : World), (w.setCells b o vs).heap.size = w.heap.size
  | [], _, _ => rfl
  | v :: r, o, w => (size_setCells r (o + 1) _).trans (by simp)

theorem env_setCells {b : Nat} : ∀ (vs : List Value) (o : Nat) (w : World), (w.setCells b o vs).os = w.os ∧ (w.setCells b o vs).tape = w.tape ∧ (w.setCells b o vs).output = w.output
  | [], _, _ => ⟨rfl, rfl, rfl⟩
  | v :: r, o, w => env_setCells r (o + 1) (w.setCell ⟨b, o, none⟩ v)

/-- Only block g has turned. -/
structure Only (w w' : World) (g : Nat) : Prop where
  os : w'.os = w.os
  tape : w'.tape = w.tape
  output : w'.output = w.output
  size : w'.heap.size = w.heap.size
  block : ∀ k, k ≠ g → w'.heap[k]? = w.heap[k]?

theorem Only.refl (w : World) (g : Nat) : Only w w g := ⟨rfl, rfl, rfl, rfl, fun _ _ => rfl⟩
theorem Only.setCells {w w' : World} {g : Nat} (h : Only w w' g) (o : Nat) (vs : List Value) : Only w (w'.setCells g o vs) g :=
  ⟨(env_setCells vs o w').1.trans h.os, (env_setCells vs o w').2.1.trans h.tape, (env_setCells vs o w').2.2.trans h.output, (size_setCells vs o w').trans h.size, fun k hk => (heap_setCells_ne (Ne.symm hk) vs o w').trans (h.block k hk)⟩
theorem Only.drew {w w' : World} {g : Nat} (h : Only w w' g) : Only w w'.drew g := ⟨h.os, h.tape, h.output, h.size, h.block⟩
theorem Only.fr {ow : Nat → Option Nat} {w w' : World} {g s : Nat} (h : Only w w' g) (hf : Fresh ow w) (ho : ow g = some s) : Fr ow w ow w' [s] :=
  ⟨h.os, h.tape, h.output, by rw [h.size]; exact Nat.le_refl _, fun _ _ => rfl, fun k hk => hf k (by rw [← h.size]; exact hk), fun k _ hn => h.block k (fun e => by subst e; exact hn s ho (by simp))⟩

/-! ### clear -/

theorem run_clear_any {P : Program} (w : World) (t e ty : TypeId) (z : Value) (ht : P.underlying t = some (.slice e)) (hv : ∀ w, (zeroValue e).run P w = .ok z w) (b o n c : Nat) (zs : List Value) (hzs : (Builtin.zeroCells z.cells n).toList = zs) (h1 : ∀ u ∈ zs, u.oneCell' = true) (hn : 0 < n)
    (hc : ∀ j, j < zs.length → (w.cell? ⟨b, o + j, none⟩).isSome = true) (hf : ∀ j, j < zs.length → w.frozen? ⟨b, o + j, none⟩ = false) :
    (Builtin.clear_ #[t] ty #[.slice (some ⟨b, o, none⟩) n c]).run P w = .ok (.tuple #[]) (w.setCells b o zs) := by
  have hst := run_storeCells_cells (P := P) b o zs 0 w (by simpa using hc) (by simpa using hf) h1
  simp only [Nat.add_zero] at hst
  obtain ⟨m, rfl⟩ : ∃ m, n = m + 1 := ⟨n - 1, by omega⟩
  simp [Builtin.clear_, run_underlying ht, hv, hzs, hst]

def z4 : List Value := [.int .i64 0, .int .i64 0, .bool false, .bool false]
theorem zero83 (w : World) : (zeroValue 83).run Ybad.prog w = .ok (.agg #[.int .i64 0, .int .i64 0, .bool false, .bool false]) w := by kernel_rfl

/-! ### slices.Delete at requests -/

theorem take_over {cur : Array Value} {l : List Req} {n i : Nat} (hl : l.length = n) (hi : i < n) (hsz : n * 4 ≤ cur.size) (hcur : cur.toList.take (n * 4) = rcs l) :
    (over (over cur (i * 4) (rcs (l.drop (i + 1)))) ((n - 1) * 4) z4).toList.take ((n - 1) * 4) = rcs (l.eraseIdx i) := by
  have hlen : (rcs (l.drop (i + 1))).length = (n - (i + 1)) * 4 := by rw [rcs_length, List.length_drop, hl]
  have e1 : l.eraseIdx i = l.take i ++ l.drop (i + 1) := List.eraseIdx_eq_take_drop_succ l i
  rw [e1, rcs_append, ← rcs_take, ← hcur, List.take_take, Nat.min_eq_left (by omega)]
  apply List.ext_getElem?
  intro j
  rw [List.getElem?_take]
  by_cases hj : j < (n - 1) * 4
  · rw [if_pos hj, Array.getElem?_toList, over_get _ _ _ _ (by rw [over_size]; simp [z4]; omega), if_neg (by omega), over_get _ _ _ _ (by rw [hlen]; omega)]
    by_cases h2 : i * 4 ≤ j
    · rw [if_pos (by rw [hlen]; omega), List.getElem?_append_right (by simp; omega)]
      congr 1
      simp
      omega
    · rw [if_neg (by omega), List.getElem?_append_left (by simp; omega), List.getElem?_take, if_pos (by omega), Array.getElem?_toList]
  · rw [if_neg hj, List.getElem?_eq_none]
    rw [List.length_append, hlen, List.length_take, Array.length_toList]
    omega

set_option maxRecDepth 1000000 in
set_option maxHeartbeats 2000000 in
theorem delReq {w : World} {g cap n i : Nat} {cur : Array Value} {l : List Req} (hg : w.heap[g]? = some (.cells cur 83 (0, 0))) (hl : l.length = n) (hi : i < n) (hcap : n ≤ cap) (hsz : cur.size = cap * 4) (hcur : cur.toList.take (n * 4) = rcs l) :
    Calls Ybad.prog 30 #[.slice (some ⟨g, 0, none⟩) n cap, .int .i64 i, .int .i64 ((i : Int) + 1)] w fun e w' => e = .returned (.slice (some ⟨g, 0, none⟩) (n - 1) cap) ∧ ∃ cur', w'.heap[g]? = some (.cells cur' 83 (0, 0)) ∧ cur'.size = cur.size ∧ cur'.toList.take ((n - 1) * 4) = rcs (l.eraseIdx i) ∧ Only w w' g := by
  obtain ⟨ti, hti, hz0, hz1, hz2⟩ := info_parts Ybad.info83
  obtain ⟨news, hnews⟩ : ∃ news, news = rcs (l.drop (i + 1)) := ⟨_, rfl⟩
  have hlen : news.length = (n - (i + 1)) * 4 := by rw [hnews, rcs_length, List.length_drop, hl]
  have hn4 : n * 4 ≤ cur.size := by omega
  have hget : ∀ t, t < (n - (i + 1)) * 4 → news[t]? = cur[(i + 1) * 4 + t]? := by
    intro t ht
    rw [hnews, ← rcs_drop, ← hcur, List.getElem?_drop, List.getElem?_take, if_pos (by omega), Array.getElem?_toList]
  have hcell : ∀ j, j < cur.size → (w.drew.cell? ⟨g, j, none⟩).isSome = true ∧ w.drew.frozen? ⟨g, j, none⟩ = false := fun j hj =>
    ⟨by show (w.cell? ⟨g, j, none⟩).isSome = true; rw [cell_of_row _ _ _ _ _ _ hg, Array.getElem?_eq_getElem hj]; rfl, frozen_of_row _ _ _ _ _ hg⟩
  obtain ⟨A, hA, hsrc⟩ : ∃ A : Addr, (if cap = i + 1 then some (⟨g, 0, none⟩ : Addr) else some ⟨g, (i + 1) * 4, none⟩) = some A ∧ Hid (∀ t u, news[t]? = some u → w.drew.cell? (A.add t) = some u) := by
    by_cases h : cap = i + 1
    · refine ⟨⟨g, 0, none⟩, by simp [h], fun t u hu => ?_⟩
      have h0 : news.length = 0 := by rw [hlen]; omega
      rw [List.length_eq_zero_iff.1 h0] at hu
      simp at hu
    · refine ⟨⟨g, (i + 1) * 4, none⟩, by simp [h], fun t u hu => ?_⟩
      have ht : t < (n - (i + 1)) * 4 := by
        have := (List.getElem?_eq_some_iff.1 hu).1
        rwa [hlen] at this
      rw [hget t ht] at hu
      rw [Addr.add_lit]
      exact (cell_of_row _ _ _ _ _ _ hg).trans hu
  have s1 : Hid (news.length = (n - (i + 1)) * 4) := hlen
  have s2 : Hid (∀ u ∈ news, u.oneCell' = true) := by rw [hnews]; exact rcs_oneCell _
  have s3 : Hid (∀ t, t < news.length → (w.drew.cell? ⟨g, 0 + i * 4 + t, none⟩).isSome = true ∧ w.drew.frozen? ⟨g, 0 + i * 4 + t, none⟩ = false) := by
    intro t ht
    rw [hlen] at ht
    exact hcell _ (by omega)
  obtain ⟨W1, hW1⟩ : ∃ W1, W1 = w.drew.setCells g (0 + i * 4) news := ⟨_, rfl⟩
  have hg1 : W1.heap[g]? = some (.cells (over cur (i * 4) news) 83 (0, 0)) := by rw [hW1, Nat.zero_add]; exact heap_setCells_same news (i * 4) w.drew cur hg
  have hsum : i + (n - (i + 1)) = n - 1 := by omega
  have hcl : ∀ ty, (Builtin.clear_ #[84] ty #[.slice (some ⟨g, (n - 1) * 4, none⟩) (n - (n - 1)) (cap - (n - 1))]).run Ybad.prog W1 = .ok (.tuple #[]) (W1.setCells g ((n - 1) * 4) z4) := fun ty => by
    rw [show n - (n - 1) = 1 by omega]
    refine run_clear_any W1 84 83 ty _ Ybad.underlying84 zero83 g ((n - 1) * 4) 1 _ z4 (by simp [Builtin.zeroCells, Value.cells, z4]; rfl) (by intro u hu; simp [z4] at hu; rcases hu with rfl | rfl <;> rfl) (by omega) (fun j hj => ?_) (fun j _ => frozen_of_row _ _ _ _ _ hg1)
    rw [cell_of_row _ _ _ _ _ _ hg1, Array.getElem?_eq_getElem (by rw [over_size]; simp [z4] at hj; omega)]
    rfl
  have END : Aside (∃ cur', (W1.setCells g ((n - 1) * 4) z4).heap[g]? = some (.cells cur' 83 (0, 0)) ∧ cur'.size = cur.size ∧ cur'.toList.take ((n - 1) * 4) = rcs (l.eraseIdx i) ∧ Only w (W1.setCells g ((n - 1) * 4) z4) g) := by
    refine ⟨_, heap_setCells_same z4 _ W1 _ hg1, by rw [over_size, over_size], ?_, ?_⟩
    · rw [hnews]; exact take_over hl hi hn4 hcur
    · rw [hW1]; exact ((Only.refl w g).drew.setCells _ _).setCells _ _
  have hW : Hid (W1 = w.drew.setCells g (0 + i * 4) news) := hW1
  have hic : i ≤ cap := by omega
  have hp0 : (0 : Int) ≤ (i : Int) + 1 := by omega
  have hp1 : (i : Int) + 1 ≤ (n : Int) := by omega
  have hp2 : ((i : Int) + 1).toNat = i + 1 := by omega
  clear hg hcur hnews hlen hget hcell hW1 hg1 hn4 hl
  have hne1 : ((i : Int) == (i : Int) + 1) = false := by rw [beq_eq_false_iff_ne]; omega
  go_enter Ybad.func30, Ybad.ntmps30
  go_wp2_with fail
  go_region_law (refine step_append_room rfl (.tmp 22) (.tmp 25) 84 rfl 83 ti 4 Ybad.underlying84 hti hz1 g 0 i cap (by simp [Act.eval, Act.put]) A (n - (i + 1)) (cap - (i + 1)) news (by simp [Act.eval, Act.put]) s1.out hsrc.out s2.out (by omega) s3.out ?_; rw [← hW.out])
  go_wp2
  go_ret
  exact ⟨rfl, END.out⟩

def z1 : List Value := [.pointer none]

theorem take_over1 {cur : Array Value} {l : List Nat} {n i : Nat} (hl : l.length = n) (hi : i < n) (hsz : n ≤ cur.size) (hcur : cur.toList.take (n) = l.map qp) :
    (over (over cur i ((l.drop (i + 1)).map qp)) ((n - 1)) z1).toList.take ((n - 1)) = (l.eraseIdx i).map qp := by
  have hlen : ((l.drop (i + 1)).map qp).length = (n - (i + 1)) := by rw [List.length_map, List.length_drop, hl]
  have e1 : l.eraseIdx i = l.take i ++ l.drop (i + 1) := List.eraseIdx_eq_take_drop_succ l i
  rw [e1, List.map_append, List.map_take, ← hcur, List.take_take, Nat.min_eq_left (by omega)]
  apply List.ext_getElem?
  intro j
  rw [List.getElem?_take]
  by_cases hj : j < (n - 1)
  · rw [if_pos hj, Array.getElem?_toList, over_get _ _ _ _ (by rw [over_size]; simp [z1]; omega), if_neg (by omega), over_get _ _ _ _ (by rw [hlen]; omega)]
    by_cases h2 : i ≤ j
    · rw [if_pos (by rw [hlen]; omega), List.getElem?_append_right (by simp; omega)]
      congr 1
      simp
      omega
    · rw [if_neg (by omega), List.getElem?_append_left (by simp; omega), List.getElem?_take, if_pos (by omega), Array.getElem?_toList]
  · rw [if_neg hj, List.getElem?_eq_none]
    rw [List.length_append, hlen, List.length_take, Array.length_toList]
    omega

set_option maxRecDepth 1000000 in
set_option maxHeartbeats 2000000 in
theorem delPtr {w : World} {g cap n i : Nat} {cur : Array Value} {l : List Nat} (hg : w.heap[g]? = some (.cells cur 64 (0, 0))) (hl : l.length = n) (hi : i < n) (hcap : n ≤ cap) (hsz : cur.size = cap) (hcur : cur.toList.take (n) = l.map qp) :
    Calls Ybad.prog 21 #[.slice (some ⟨g, 0, none⟩) n cap, .int .i64 i, .int .i64 ((i : Int) + 1)] w fun e w' => e = .returned (.slice (some ⟨g, 0, none⟩) (n - 1) cap) ∧ ∃ cur', w'.heap[g]? = some (.cells cur' 64 (0, 0)) ∧ cur'.size = cur.size ∧ cur'.toList.take ((n - 1)) = (l.eraseIdx i).map qp ∧ Only w w' g := by
  obtain ⟨ti, hti, hz0, hz1, hz2⟩ := info_parts Ybad.info64
  obtain ⟨news, hnews⟩ : ∃ news, news = (l.drop (i + 1)).map qp := ⟨_, rfl⟩
  have hlen : news.length = (n - (i + 1)) := by rw [hnews, List.length_map, List.length_drop, hl]
  have hn4 : n ≤ cur.size := by omega
  have hget : ∀ t, t < (n - (i + 1)) → news[t]? = cur[(i + 1) + t]? := by
    intro t ht
    rw [hnews, List.map_drop, ← hcur, List.getElem?_drop, List.getElem?_take, if_pos (by omega), Array.getElem?_toList]
  have hcell : ∀ j, j < cur.size → (w.drew.cell? ⟨g, j, none⟩).isSome = true ∧ w.drew.frozen? ⟨g, j, none⟩ = false := fun j hj =>
    ⟨by show (w.cell? ⟨g, j, none⟩).isSome = true; rw [cell_of_row _ _ _ _ _ _ hg, Array.getElem?_eq_getElem hj]; rfl, frozen_of_row _ _ _ _ _ hg⟩
  obtain ⟨A, hA, hsrc⟩ : ∃ A : Addr, (if cap = i + 1 then some (⟨g, 0, none⟩ : Addr) else some ⟨g, (i + 1), none⟩) = some A ∧ Hid (∀ t u, news[t]? = some u → w.drew.cell? (A.add t) = some u) := by
    by_cases h : cap = i + 1
    · refine ⟨⟨g, 0, none⟩, by simp [h], fun t u hu => ?_⟩
      have h0 : news.length = 0 := by rw [hlen]; omega
      rw [List.length_eq_zero_iff.1 h0] at hu
      simp at hu
    · refine ⟨⟨g, (i + 1), none⟩, by simp [h], fun t u hu => ?_⟩
      have ht : t < (n - (i + 1)) := by
        have := (List.getElem?_eq_some_iff.1 hu).1
        rwa [hlen] at this
      rw [hget t ht] at hu
      rw [Addr.add_lit]
      exact (cell_of_row _ _ _ _ _ _ hg).trans hu
  have s1 : Hid (news.length = (n - (i + 1)) * 1) := by rw [Nat.mul_one]; exact hlen
  have s2 : Hid (∀ u ∈ news, u.oneCell' = true) := by rw [hnews]; intro u hu; obtain ⟨x, _, rfl⟩ := List.mem_map.1 hu; rfl
  have s3 : Hid (∀ t, t < news.length → (w.drew.cell? ⟨g, 0 + i * 1 + t, none⟩).isSome = true ∧ w.drew.frozen? ⟨g, 0 + i * 1 + t, none⟩ = false) := by
    intro t ht
    rw [hlen] at ht
    exact hcell _ (by omega)
  obtain ⟨W1, hW1⟩ : ∃ W1, W1 = w.drew.setCells g (0 + i * 1) news := ⟨_, rfl⟩
  have hg1 : W1.heap[g]? = some (.cells (over cur i news) 64 (0, 0)) := by rw [hW1, Nat.zero_add, Nat.mul_one]; exact heap_setCells_same news i w.drew cur hg
  have hsum : i + (n - (i + 1)) = n - 1 := by omega
  have hcl : ∀ ty, (Builtin.clear_ #[58] ty #[.slice (some ⟨g, (n - 1), none⟩) (n - (n - 1)) (cap - (n - 1))]).run Ybad.prog W1 = .ok (.tuple #[]) (W1.setCells g ((n - 1)) z1) := fun ty => by
    rw [show n - (n - 1) = 1 by omega]
    refine run_clear_any W1 58 64 ty _ Ybad.underlying58 zero64 g ((n - 1)) 1 _ z1 (by simp [Builtin.zeroCells, Value.cells, z1]) (by intro u hu; simp [z1] at hu; subst hu; rfl) (by omega) (fun j hj => ?_) (fun j _ => frozen_of_row _ _ _ _ _ hg1)
    rw [cell_of_row _ _ _ _ _ _ hg1, Array.getElem?_eq_getElem (by rw [over_size]; simp [z1] at hj; omega)]
    rfl
  have END : Aside (∃ cur', (W1.setCells g ((n - 1)) z1).heap[g]? = some (.cells cur' 64 (0, 0)) ∧ cur'.size = cur.size ∧ cur'.toList.take ((n - 1)) = (l.eraseIdx i).map qp ∧ Only w (W1.setCells g ((n - 1)) z1) g) := by
    refine ⟨_, heap_setCells_same z1 _ W1 _ hg1, by rw [over_size, over_size], ?_, ?_⟩
    · rw [hnews]; exact take_over1 hl hi hn4 hcur
    · rw [hW1]; exact ((Only.refl w g).drew.setCells _ _).setCells _ _
  have hW : Hid (W1 = w.drew.setCells g (0 + i * 1) news) := hW1
  have hic : i ≤ cap := by omega
  have hp0 : (0 : Int) ≤ (i : Int) + 1 := by omega
  have hp1 : (i : Int) + 1 ≤ (n : Int) := by omega
  have hp2 : ((i : Int) + 1).toNat = i + 1 := by omega
  clear hg hcur hnews hlen hget hcell hW1 hg1 hn4 hl
  have hne1 : ((i : Int) == (i : Int) + 1) = false := by rw [beq_eq_false_iff_ne]; omega
  go_enter Ybad.func21, Ybad.ntmps21
  go_wp2_with fail
  go_region_law (refine step_append_room rfl (.tmp 22) (.tmp 25) 58 rfl 64 ti 1 Ybad.underlying58 hti hz1 g 0 i cap (by simp [Act.eval, Act.put]) A (n - (i + 1)) (cap - (i + 1)) news (by simp [Act.eval, Act.put]) s1.out hsrc.out s2.out (by omega) s3.out ?_; rw [← hW.out])
  go_wp2
  go_ret
  exact ⟨rfl, END.out⟩

end Go.Proofs.YbulkbcpiDoor.rel
