/-
  Seat b2690a: LawS2690CModel: what Add does to the plain Standing.
-/
import Derived.Test.YbulkbcrmModelN2
namespace Go.Proofs.Ybulkbcrm.model
open Go.RowKit

/-- The least of low and the marks. -/
def kMin (low : Nat) (g : Nat → Option Nat) : Nat := ((List.range 4).filterMap g).foldl min low

theorem foldl_min (l : List Nat) : ∀ k, (l.foldl min k ≤ k ∧ ∀ n ∈ l, l.foldl min k ≤ n) ∧ (l.foldl min k = k ∨ l.foldl min k ∈ l) := by
  induction l with
  | nil => intro k; simp
  | cons a r ih =>
    intro k
    obtain ⟨⟨h1, h2⟩, h3⟩ := ih (min k a)
    simp only [List.foldl_cons]
    refine ⟨⟨by omega, fun n hn => ?_⟩, ?_⟩
    · rcases List.mem_cons.1 hn with rfl | hn
      · omega
      · exact h2 n hn
    · rcases h3 with h3 | h3
      · rcases Nat.le_total k a with h | h
        · left; omega
        · right; rw [show r.foldl min (min k a) = a by omega]; simp
      · right; simp [h3]

theorem kMin_is (low : Nat) (g : Nat → Option Nat) : IsMin low g (kMin low g) := by
  obtain ⟨⟨h1, h2⟩, h3⟩ := foldl_min ((List.range 4).filterMap g) low
  refine ⟨h1, fun i hi n hn => h2 n (List.mem_filterMap.2 ⟨i, by simp; omega, hn⟩), ?_⟩
  rcases h3 with h3 | h3
  · exact .inl h3
  · obtain ⟨i, hi, hg⟩ := List.mem_filterMap.1 h3
    simp at hi
    exact .inr ⟨i, hi, hg⟩

theorem isMin_unique {low : Nat} {g : Nat → Option Nat} {k k' : Nat} (h : IsMin low g k) (h' : IsMin low g k') : k = k' := by
  have a : k ≤ k' := by
    rcases h'.2.2 with e | ⟨i, hi, e⟩
    · rw [e]; exact h.1
    · exact h.2.1 i hi _ e
  have b : k' ≤ k := by
    rcases h.2.2 with e | ⟨i, hi, e⟩
    · rw [e]; exact h'.1
    · exact h'.2.1 i hi _ e
  omega

/-- The low rises: the states below it are held from now on. -/
def lowP (st : PSt) (r : Rec) : PSt := if st.low < r.low then { st with low := r.low, L := cutL st.L (fun i => decide (i < r.low)), held := st.held ++ (List.range r.low).filterMap st.L } else st
def regP (st : PSt) (r : Rec) (ms : List (Nat × Nat)) : PSt := { st with rel := regR st.rel r.rel, g := regG st.rel st.g r.rel ms }
def keptP (st : PSt) : PSt := if st.kept < kMin st.low st.g then { st with kept := kMin st.low st.g, held := st.held.filter (fun q => !decide (q.slot < kMin st.low st.g)) } else st
def putP (st : PSt) (r : Rec) : PSt := if r.slot < st.low then st else { st with L := upd st.L r.slot (some r) }
def addP (st : PSt) (r : Rec) (ms : List (Nat × Nat)) : PSt := putP (keptP (regP (lowP st r) r ms)) r

/-- What stands between two calls of Add. -/
structure Inv (st : PSt) : Prop where
  ok : Lok st.L
  asc : Asc st.held
  above : ∀ i, i < st.low → st.L i = none
  under : ∀ r, r ∈ st.held → r.slot < st.low
  low : st.low < 16

theorem Asc.nodup {l : List Rec} (h : Asc l) : (l.map (·.slot)).Nodup := by
  have h0 : l.Pairwise (fun a b => a.slot < b.slot) := by
    rw [List.pairwise_iff_getElem]
    intro i j hi hj hij
    exact h i j _ _ (List.getElem?_eq_getElem hi) (List.getElem?_eq_getElem hj) hij
  show List.Pairwise (· ≠ ·) _
  rw [List.pairwise_map]
  exact h0.imp (fun {a b} h => by omega)

theorem Inv.len {st : PSt} (h : Inv st) : st.held.length ≤ 16 := by
  have := nodup_le 16 _ h.asc.nodup (fun x hx => by
    simp at hx
    obtain ⟨q, hq, rfl⟩ := hx
    have := h.under q hq
    have := h.low
    omega)
  simpa using this

theorem asc_range {L : Nat → Option Rec} (ok : Lok L) (n : Nat) : Asc ((List.range n).filterMap L) := by
  have h : ((List.range n).filterMap L).Pairwise (fun a b => a.slot < b.slot) := by
    rw [List.pairwise_filterMap]
    refine List.Pairwise.imp ?_ List.pairwise_lt_range
    intro a b hab x hx y hy
    have e1 := (ok.slot a x hx).1
    have e2 := (ok.slot b y hy).1
    omega
  intro i j a b hi hj hij
  rw [List.pairwise_iff_getElem] at h
  obtain ⟨hi1, hi2⟩ := List.getElem?_eq_some_iff.1 hi
  obtain ⟨hj1, hj2⟩ := List.getElem?_eq_some_iff.1 hj
  have := h i j hi1 hj1 hij
  rw [hi2, hj2] at this
  exact this

theorem asc_append {l m : List Rec} (h1 : Asc l) (h2 : Asc m) (h : ∀ a ∈ l, ∀ b ∈ m, a.slot < b.slot) : Asc (l ++ m) := by
  intro i j a b hi hj hij
  by_cases hjl : j < l.length
  · rw [List.getElem?_append_left hjl] at hj
    rw [List.getElem?_append_left (by omega)] at hi
    exact h1 i j a b hi hj hij
  · rw [List.getElem?_append_right (by omega)] at hj
    by_cases hil : i < l.length
    · rw [List.getElem?_append_left hil] at hi
      exact h a (List.mem_of_getElem? hi) b (List.mem_of_getElem? hj)
    · rw [List.getElem?_append_right (by omega)] at hi
      exact h2 _ _ a b hi hj (by omega)

theorem asc_filter {l : List Rec} (h : Asc l) (p : Rec → Bool) : Asc (l.filter p) := by
  have h0 : l.Pairwise (fun a b => a.slot < b.slot) := by
    rw [List.pairwise_iff_getElem]
    intro i j hi hj hij
    exact h i j _ _ (List.getElem?_eq_getElem hi) (List.getElem?_eq_getElem hj) hij
  have h1 := h0.filter p
  intro i j a b hi hj hij
  rw [List.pairwise_iff_getElem] at h1
  obtain ⟨hi1, hi2⟩ := List.getElem?_eq_some_iff.1 hi
  obtain ⟨hj1, hj2⟩ := List.getElem?_eq_some_iff.1 hj
  have := h1 i j hi1 hj1 hij
  rw [hi2, hj2] at this
  exact this

theorem Inv.lowP {st : PSt} (h : Inv st) {r : Rec} (hr : r.low < 16) : Inv (lowP st r) := by
  unfold model.lowP
  split
  · rename_i hlt
    refine ⟨⟨fun i q hq => ?_⟩, ?_, fun i hi => ?_, fun q hq => ?_, hr⟩
    · simp only [cutL] at hq
      split at hq
      · cases hq
      · exact h.ok.slot i q hq
    · refine asc_append h.asc (asc_range h.ok _) (fun a ha b hb => ?_)
      obtain ⟨i, hi, hb⟩ := List.mem_filterMap.1 hb
      have e := (h.ok.slot i b hb).1
      have := h.under a ha
      rcases Nat.lt_or_ge i st.low with h1 | h1
      · rw [h.above i h1] at hb; cases hb
      · omega
    · simp only at hi
      simp [cutL, hi]
    · rcases List.mem_append.1 hq with hq | hq
      · have := h.under q hq
        simp only
        omega
      · obtain ⟨i, hi, hb⟩ := List.mem_filterMap.1 hq
        have e := (h.ok.slot i q hb).1
        simp at hi
        simp only
        omega
  · exact h

theorem Inv.regP {st : PSt} (h : Inv st) (r : Rec) (ms : List (Nat × Nat)) : Inv (regP st r ms) := ⟨h.ok, h.asc, h.above, h.under, h.low⟩

theorem Inv.keptP {st : PSt} (h : Inv st) : Inv (keptP st) := by
  unfold model.keptP
  split
  · exact ⟨h.ok, asc_filter h.asc _, h.above, fun r hr => h.under r ((List.mem_filter.1 hr).1), h.low⟩
  · exact h

theorem Inv.putP {st : PSt} (h : Inv st) {r : Rec} (hr : r.slot < 16) : Inv (putP st r) := by
  unfold model.putP
  split
  · exact h
  · rename_i hlt
    refine ⟨⟨fun i q hq => ?_⟩, h.asc, fun i hi => ?_, h.under, h.low⟩
    · by_cases e : i = r.slot
      · subst e
        simp [upd] at hq
        subst hq
        exact ⟨rfl, hr⟩
      · simp [upd, e] at hq
        exact h.ok.slot i q hq
    · have : i ≠ r.slot := by simp only at hi; omega
      simp [upd, this]
      exact h.above i hi

/-- What evict took, sorted, is the row of the states below. -/
theorem took_sorted {L : Nat → Option Rec} (ok : Lok L) {n : Nat} {xs ys : List Rec} (h : Took L (fun i => i < n) xs) (hp : ys.Perm xs) (hs : ∀ (i j : Nat) (a b : Rec), ys[i]? = some a → ys[j]? = some b → i < j → a.slot ≤ b.slot) : ys = (List.range n).filterMap L := by
  have hA := asc_range ok n
  have hnd : (ys.map (·.slot)).Nodup := (hp.map _).nodup_iff.2 h.nd
  have hys : ys.Pairwise (fun a b => a.slot < b.slot) := by
    rw [List.pairwise_iff_getElem]
    intro i j hi hj hij
    have h1 := hs i j _ _ (List.getElem?_eq_getElem hi) (List.getElem?_eq_getElem hj) hij
    have h2 : ys[i].slot ≠ ys[j].slot := fun e => by
      have h3 : List.Pairwise (fun a b : Rec => a.slot ≠ b.slot) ys := by
        have h4 : List.Pairwise (· ≠ ·) (ys.map (·.slot)) := hnd
        rw [List.pairwise_map] at h4
        exact h4
      rw [List.pairwise_iff_getElem] at h3
      exact h3 i j hi hj hij e
    omega
  have hzs : ((List.range n).filterMap L).Pairwise (fun a b => a.slot < b.slot) := by
    rw [List.pairwise_iff_getElem]
    intro i j hi hj hij
    exact hA i j _ _ (List.getElem?_eq_getElem hi) (List.getElem?_eq_getElem hj) hij
  have hmem : ∀ r, r ∈ ys ↔ r ∈ (List.range n).filterMap L := by
    intro r
    rw [hp.mem_iff, h.mem r, List.mem_filterMap]
    constructor
    · rintro ⟨i, h1, h2⟩; exact ⟨i, by simpa using h1, h2⟩
    · rintro ⟨i, h1, h2⟩; exact ⟨i, by simpa using h1, h2⟩
  have key : ∀ (l m : List Rec), l.Pairwise (fun a b => a.slot < b.slot) → m.Pairwise (fun a b => a.slot < b.slot) → (∀ r, r ∈ l ↔ r ∈ m) → l = m := by
    intro l
    induction l with
    | nil =>
      intro m _ _ h
      cases m with
      | nil => rfl
      | cons b m => exact absurd ((h b).2 (by simp)) (by simp)
    | cons a l ih =>
      intro m h1 h2 h
      cases m with
      | nil => exact absurd ((h a).1 (by simp)) (by simp)
      | cons b m =>
        obtain ⟨ha, hl⟩ := List.pairwise_cons.1 h1
        obtain ⟨hb, hm⟩ := List.pairwise_cons.1 h2
        have e : a = b := by
          rcases List.mem_cons.1 ((h a).1 (by simp)) with e | e
          · exact e
          · rcases List.mem_cons.1 ((h b).2 (by simp)) with e2 | e2
            · exact e2.symm
            · have := ha b e2
              have := hb a e
              omega
        subst e
        rw [ih m hl hm (fun r => ?_)]
        constructor
        · intro hr
          rcases List.mem_cons.1 ((h r).1 (by simp [hr])) with e | e
          · subst e; have := ha r hr; omega
          · exact e
        · intro hr
          rcases List.mem_cons.1 ((h r).2 (by simp [hr])) with e | e
          · subst e; have := hb r hr; omega
          · exact e
  exact key ys _ hys hzs hmem

theorem drop_filter (k : Nat) : ∀ (l : List Rec) (i : Nat), (∀ (j : Nat) (r : Rec), l[j]? = some r → (j < i ↔ r.slot < k)) → l.drop i = l.filter (fun q => !decide (q.slot < k)) := by
  intro l
  induction l with
  | nil => intro i _; simp
  | cons a r ih =>
    intro i h
    have h0 := h 0 a rfl
    cases i with
    | zero =>
      have hk : ¬ a.slot < k := fun e => by have := h0.2 e; omega
      have := ih 0 (fun j q hq => by have := h (j + 1) q (by simpa using hq); omega)
      simp only [List.drop_zero] at this ⊢
      rw [List.filter_cons_of_pos (by simp; omega), ← this]
    | succ i =>
      have hk : a.slot < k := h0.1 (by omega)
      rw [List.filter_cons_of_neg (by simp [hk])]
      exact ih i (fun j q hq => by have := h (j + 1) q (by simpa using hq); omega)

end Go.Proofs.Ybulkbcrm.model
