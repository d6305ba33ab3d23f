/-
  Seat b2690a: LawS2690CModel: the plain model: its rows in memory; how they stand to the Standing.
-/
import Derived.Test.YbulkbcrmModelP1
namespace Go.Proofs.Ybulkbcrm.model
open Go.RowKit

theorem Yba.info46 : (Yba.prog.info? 46).map (fun i => (i.zero, i.size, i.bytes)) = some (some (.int .u32 0), 1, 4) := by kernel_rfl
theorem Yba.info64 : (Yba.prog.info? 64).map (fun i => (i.zero, i.size, i.bytes)) = some (some (.agg #[.int .u64 0, .int .i64 0]), 2, 16) := by kernel_rfl
theorem Yba.info3 : (Yba.prog.info? 3).map (fun i => (i.zero, i.size, i.bytes)) = some (some (.int .i64 0), 1, 8) := by kernel_rfl

def e32 (x : Nat) : Value := .int .u32 (x : Int)
def e64 (x : Nat) : Value := .int .u64 (x : Int)
def ecl (p : Nat × Nat) : List Value := [.int .u64 (p.1 : Int), .int .i64 (p.2 : Int)]

theorem ecs_length (es : List (Nat × Nat)) : (es.flatMap ecl).length = es.length * 2 := by
  induction es with
  | nil => rfl
  | cons q l ih => rw [List.flatMap_cons, List.length_append, ih]; simp only [ecl, List.length_cons, List.length_nil]; omega

theorem ecs_at (es : List (Nat × Nat)) : ∀ j p, es[j]? = some p → (es.flatMap ecl)[j * 2]? = some (.int .u64 (p.1 : Int)) ∧ (es.flatMap ecl)[j * 2 + 1]? = some (.int .i64 (p.2 : Int)) := by
  induction es with
  | nil => intro j p h; simp at h
  | cons q l ih =>
    intro j p h
    cases j with
    | zero => simp at h; subst h; simp [List.flatMap_cons, ecl]
    | succ j =>
      have := ih j p (by simpa using h)
      rw [List.flatMap_cons, show (j + 1) * 2 = j * 2 + 2 by omega]
      simp only [ecl, List.cons_append, List.nil_append]
      exact this

theorem ecs_set2 (es : List (Nat × Nat)) : ∀ j p (x : Nat), es[j]? = some p → (es.flatMap ecl).set (j * 2 + 1) (.int .i64 (x : Int)) = (es.set j (p.1, x)).flatMap ecl := by
  induction es with
  | nil => intro j p x h; simp at h
  | cons q l ih =>
    intro j p x h
    cases j with
    | zero => simp at h; subst h; simp [List.flatMap_cons, ecl]
    | succ j =>
      have := ih j p x (by simpa using h)
      rw [List.flatMap_cons, show (j + 1) * 2 + 1 = (j * 2 + 1) + 2 by omega]
      simp only [ecl, List.cons_append, List.nil_append, List.set_cons_succ, List.flatMap_cons]
      rw [this]

theorem ecs_set (es : List (Nat × Nat)) : ∀ j (p q : Nat × Nat), es[j]? = some p → ((es.flatMap ecl).set (j * 2) (.int .u64 (q.1 : Int))).set (j * 2 + 1) (.int .i64 (q.2 : Int)) = (es.set j q).flatMap ecl := by
  induction es with
  | nil => intro j p q h; simp at h
  | cons r l ih =>
    intro j p q h
    cases j with
    | zero => simp [List.flatMap_cons, ecl]
    | succ j =>
      have := ih j p q (by simpa using h)
      rw [List.flatMap_cons, show (j + 1) * 2 + 1 = (j * 2 + 1) + 2 by omega, show (j + 1) * 2 = j * 2 + 2 by omega]
      simp only [ecl, List.cons_append, List.nil_append, List.set_cons_succ, List.flatMap_cons]
      rw [this]

/-- A cell of an owned row is set. -/
theorem own_set {w : World} {base : Nat} {e : TypeId} {size : Nat} {g n cap : Nat} {xs : List Value} (h : w.ownsRow base e size (.slice (some ⟨g, 0, none⟩) n cap) n xs) {i : Nat} (hi : i < xs.length) (u : Value) :
    (w.setCell ⟨g, i, none⟩ u).ownsRow base e size (.slice (some ⟨g, 0, none⟩) n cap) n (xs.set i u) := by
  refine ⟨by rw [List.length_set]; exact h.1, ?_⟩
  rcases h.2 with ⟨e1, _⟩ | ⟨g', cap', cur, e1, h1, h2, h3, h4, h5, h6⟩
  · cases e1
  · cases e1
    refine .inr ⟨g, cap, cur.setIfInBounds i u, rfl, h1, hset_same h2 i u, h3, h4, by simpa using h5, ?_⟩
    rw [← h6]
    apply List.ext_getElem?
    intro j
    simp only [Array.toList_setIfInBounds, List.getElem?_take, List.getElem?_set]
    have hl := h.1
    by_cases hj : j < n * size
    · by_cases hji : i = j
      · subst hji
        have h7 : i < cur.size := by
          have := congrArg List.length h6
          rw [List.length_take, Array.length_toList] at this
          omega
        simp [hj, h7]
        exact Nat.lt_min.2 ⟨hj, h7⟩
      · simp [hj, hji]
    · have : i ≠ j := by omega
      simp [hj, this]

theorem own_cell {w : World} {base : Nat} {e : TypeId} {size : Nat} {a : Option Addr} {n cap : Nat} {xs : List Value} (h : w.ownsRow base e size (.slice a n cap) n xs) {i : Nat} {u : Value} (hu : xs[i]? = some u) :
    ∃ g, a = some ⟨g, 0, none⟩ ∧ w.cell? ⟨g, i, none⟩ = some u ∧ w.frozen? ⟨g, i, none⟩ = false ∧ base ≤ g := by
  have hi := (List.getElem?_eq_some_iff.1 hu).1
  rcases h.2 with ⟨e1, h0⟩ | ⟨g', cap', cur, e1, h1, h2, h3, h4, h5, h6⟩
  · have := h.1
    subst h0
    omega
  · cases e1
    refine ⟨g', rfl, cell_of h2 ?_, by simp [World.frozen?, h2], h1⟩
    rw [← h6, List.getElem?_take] at hu
    split at hu
    · rw [Array.getElem?_toList] at hu; exact hu
    · cases hu

theorem own_ne {w : World} {base base' : Nat} {e e' : TypeId} {size size' : Nat} {v v' : Value} {n n' : Nat} {xs xs' : List Value} (h : w.ownsRow base e size v n xs) (h' : w.ownsRow base' e' size' v' n' xs') (hne : e ≠ e') {g : Nat} (hg : v.ownBlock = some g) : v'.ownBlock ≠ some g := fun hg' => by
  rcases h.2 with ⟨rfl, _⟩ | ⟨g1, _, cur, rfl, _, h2, _⟩
  · cases hg
  · rcases h'.2 with ⟨rfl, _⟩ | ⟨g2, _, cur2, rfl, _, h3, _⟩
    · cases hg'
    · cases hg
      cases hg'
      rw [h2] at h3
      cases h3
      exact hne rfl

theorem own_box {w : World} {base : Nat} {e : TypeId} {size : Nat} {v : Value} {n : Nat} {xs : List Value} (h : w.ownsRow base e size v n xs) {b : Nat} {cs : Array Value} {t : TypeId} (hb : w.heap[b]? = some (.cells cs t (0, 0))) (hne : e ≠ t) : v.ownBlock ≠ some b := fun hg => by
  rcases h.2 with ⟨rfl, _⟩ | ⟨g1, _, cur, rfl, _, h2, _⟩
  · cases hg
  · cases hg
    rw [h2] at hb
    cases hb
    exact hne rfl

theorem own_same {w w' : World} {base : Nat} {e : TypeId} {size : Nat} {v : Value} {n : Nat} {xs : List Value} (h : w.ownsRow base e size v n xs) (hb : ∀ g, v.ownBlock = some g → w'.heap[g]? = w.heap[g]?) : w'.ownsRow base e size v n xs := by
  refine ⟨h.1, ?_⟩
  rcases h.2 with hn | ⟨g, cap, cur, rfl, h1, h2, h3⟩
  · exact .inl hn
  · exact .inr ⟨g, cap, cur, rfl, h1, by rw [hb g rfl]; exact h2, h3⟩

/-- The model's rows, and the state in hand. -/
structure MW (B : Nat) (w : World) (bx : Nat) (r : Rec) (lsv : Value) (ls : List Nat) (lvv : Value) (lv : List Nat) (ev : Value) (es : List (Nat × Nat)) (wx : World) : Prop where
  box : wx.heap[bx]? = some (.cells (rcl r).toArray 52 (0, 0))
  rls : wx.ownsRow B 46 1 lsv ls.length (ls.map e32)
  rlv : wx.ownsRow B 30 1 lvv lv.length (lv.map e64)
  rent : wx.ownsRow B 64 2 ev es.length (es.flatMap ecl)
  bel : Below B w wx
  bs : B ≤ wx.heap.size

section
variable {B : Nat} {w : World} {bx : Nat} {r : Rec} {lsv : Value} {ls : List Nat} {lvv : Value} {lv : List Nat} {ev : Value} {es : List (Nat × Nat)} {wx : World}

theorem MW.alloc (h : MW B w bx r lsv ls lvv lv ev es wx) (o : Obj) : MW B w bx r lsv ls lvv lv ev es (wx.alloc o) :=
  ⟨(Below.heap_alloc _ _ _ (heap_lt h.box)).trans h.box, h.rls.alloc _, h.rlv.alloc _, h.rent.alloc _, h.bel.alloc h.bs _, by have := h.bs; simp; omega⟩
theorem MW.drew (h : MW B w bx r lsv ls lvv lv ev es wx) : MW B w bx r lsv ls lvv lv ev es wx.drew := ⟨h.box, h.rls, h.rlv, h.rent, h.bel.drew, h.bs⟩

theorem MW.fr (h : MW B w bx r lsv ls lvv lv ev es wx) {C : Nat} {w' : World} (f : Below C wx w') (hC : wx.heap.size ≤ C) : MW B w bx r lsv ls lvv lv ev es w' := by
  have hk : ∀ k o, wx.heap[k]? = some o → w'.heap[k]? = wx.heap[k]? := fun k o ho => f.block k (Nat.lt_of_lt_of_le (heap_lt ho) hC)
  have hr : ∀ {e size v n xs}, wx.ownsRow B e size v n xs → w'.ownsRow B e size v n xs := fun h => own_same h (fun g hg => by
    rcases h.2 with ⟨rfl, _⟩ | ⟨g1, _, cur, rfl, _, h2, _⟩
    · cases hg
    · cases hg; exact hk _ _ h2)
  exact ⟨(hk _ _ h.box).trans h.box, hr h.rls, hr h.rlv, hr h.rent, h.bel.trans (f.mono (Nat.le_trans h.bs hC)), Nat.le_trans h.bs f.size⟩

theorem below_row2 {X V W : World} {row : Option Nat} {e : TypeId} {size : Nat} {v : Value} {k : Nat} {xs : List Value} {o : Obj} {bel : Below B X V} (hB : B ≤ V.heap.size) (hrow : V.ownsRow B e size v k xs) (hg : (V.alloc o).grownBy W row) (hr : row = v.ownBlock) : Below B X W := below_row bel hB hrow hg hr

/-- Something is appended to one of the three rows. -/
theorem MW.app {e : TypeId} {size : Nat} {v : Value} {n : Nat} {xs : List Value} {o : Obj} {w' : World} (h : MW B w bx r lsv ls lvv lv ev es wx) (hrow : wx.ownsRow B e size v n xs) (hg : (wx.alloc o).grownBy w' v.ownBlock) :
    (e ≠ 52 → w'.heap[bx]? = some (.cells (rcl r).toArray 52 (0, 0))) ∧ (e ≠ 46 → w'.ownsRow B 46 1 lsv ls.length (ls.map e32)) ∧ (e ≠ 30 → w'.ownsRow B 30 1 lvv lv.length (lv.map e64)) ∧ (e ≠ 64 → w'.ownsRow B 64 2 ev es.length (es.flatMap ecl)) ∧ Below B w w' ∧ B ≤ w'.heap.size := by
  have hs := hg.size
  simp at hs
  have hbs := h.bs
  have hk : ∀ k, k < wx.heap.size → v.ownBlock ≠ some k → w'.heap[k]? = wx.heap[k]? := fun k hk hn => by
    rw [hg.block k (by simp; omega) (fun e => hn e.symm), Below.heap_alloc _ _ _ hk]
  have hlt : ∀ {e size v n xs} {g : Nat}, wx.ownsRow B e size v n xs → v.ownBlock = some g → g < wx.heap.size := fun h hg => by
    rcases h.2 with ⟨rfl, _⟩ | ⟨g1, _, cur, rfl, _, h2, _⟩
    · cases hg
    · cases hg; exact heap_lt h2
  refine ⟨fun hne => ?_, fun hne => own_same h.rls (fun g hg' => hk g (hlt h.rls hg') (own_ne h.rls hrow hne.symm hg')), fun hne => own_same h.rlv (fun g hg' => hk g (hlt h.rlv hg') (own_ne h.rlv hrow hne.symm hg')), fun hne => own_same h.rent (fun g hg' => hk g (hlt h.rent hg') (own_ne h.rent hrow hne.symm hg')), below_row h.bel h.bs hrow hg rfl, by omega⟩
  rw [hk bx (heap_lt h.box) (own_box hrow h.box hne)]
  exact h.box

/-- A cell of the row of marks is set. -/
theorem MW.setLv {g n cap : Nat} (h : MW B w bx r lsv ls (.slice (some ⟨g, 0, none⟩) n cap) lv ev es wx) {j : Nat} (hj : j < lv.length) (hn : n = lv.length) (x : Nat) :
    MW B w bx r lsv ls (.slice (some ⟨g, 0, none⟩) n cap) (lv.set j x) ev es (wx.setCell ⟨g, j, none⟩ (.int .u64 (x : Int))) := by
  subst hn
  have hg : (Value.slice (some ⟨g, 0, none⟩) lv.length cap).ownBlock = some g := rfl
  have h1 := own_set h.rlv (i := j) (by simpa using hj) (.int .u64 (x : Int))
  have hgB : B ≤ g := by
    obtain ⟨_, e, _, _, hb⟩ := own_cell h.rlv (i := j) (List.getElem?_eq_getElem (by simpa using hj))
    cases e
    exact hb
  refine ⟨?_, own_same h.rls (fun g' hg' => hset_other _ _ _ (fun e => own_ne h.rls h.rlv (by decide) hg' (by rw [hg]; exact congrArg some e))), ?_, own_same h.rent (fun g' hg' => hset_other _ _ _ (fun e => own_ne h.rent h.rlv (by decide) hg' (by rw [hg]; exact congrArg some e))), h.bel.setCell hgB _, by have := h.bs; simp; exact this⟩
  · rw [hset_other _ _ _ (fun e => own_box h.rlv h.box (by decide) (by rw [hg]; exact congrArg some e))]
    exact h.box
  · rw [List.length_set, List.map_set]
    exact h1
end

end Go.Proofs.Ybulkbcrm.model
