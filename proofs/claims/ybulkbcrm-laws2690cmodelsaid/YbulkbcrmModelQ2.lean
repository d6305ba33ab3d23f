/-
  Seat b2690a: LawS2690CModel: the plain model beside the Standing: no Go in sight.
-/
import Derived.Test.YbulkbcrmModelQ1
namespace Go.Proofs.Ybulkbcrm.model

/-- Learners and marks, in two rows, are the registry's marks. -/
structure Enc (ls lv : List Nat) (g : Nat → Option Nat) : Prop where
  len : ls.length = lv.length
  nd : ls.Nodup
  small : ∀ l ∈ ls, l < 4
  at' : ∀ (j l : Nat), ls[j]? = some l → g l = lv[j]?
  out : ∀ l, l ∉ ls → g l = none

theorem enc_none : Enc [] [] (fun _ => none) := ⟨rfl, by simp, fun _ h => by simp at h, fun j l h => by simp at h, fun _ _ => rfl⟩

theorem Enc.size {ls lv : List Nat} {g : Nat → Option Nat} (h : Enc ls lv g) : ls.length ≤ 4 := nodup_le 4 ls h.nd h.small

theorem nodup_idx {l : List Nat} (h : l.Nodup) {i j x : Nat} (hi : l[i]? = some x) (hj : l[j]? = some x) : i = j := by
  have h1 : List.Pairwise (· ≠ ·) l := h
  obtain ⟨i1, i2⟩ := List.getElem?_eq_some_iff.1 hi
  obtain ⟨j1, j2⟩ := List.getElem?_eq_some_iff.1 hj
  rcases Nat.lt_trichotomy i j with h2 | h2 | h2
  · exact absurd (i2.trans j2.symm) (List.pairwise_iff_getElem.1 h1 i j i1 j1 h2)
  · exact h2
  · exact absurd (j2.trans i2.symm) (List.pairwise_iff_getElem.1 h1 j i j1 i1 h2)

/-- The learner has a mark at j: it rises. -/
theorem Enc.rise {ls lv : List Nat} {g : Nat → Option Nat} (h : Enc ls lv g) {l s j v : Nat} (hj : ls[j]? = some l) (hv : lv[j]? = some v) : Enc ls (if v < s then lv.set j s else lv) (raiseG g l s) := by
  have hg : g l = some v := (h.at' j l hj).trans hv
  have hjl : j < lv.length := (List.getElem?_eq_some_iff.1 hv).1
  unfold raiseG
  rw [hg]
  simp only
  by_cases hvs : v < s
  · rw [if_pos hvs, if_pos hvs]
    refine ⟨by rw [List.length_set]; exact h.len, h.nd, h.small, fun k m hk => ?_, fun m hm => ?_⟩
    · by_cases e : k = j
      · subst e
        rw [hj] at hk
        cases hk
        rw [List.getElem?_set_self hjl]
        simp [upd]
      · have hml : m ≠ l := fun e2 => e (nodup_idx h.nd hk (by rw [e2]; exact hj))
        rw [List.getElem?_set_ne (Ne.symm e)]
        simp [upd, hml]
        exact h.at' k m hk
    · have hml : m ≠ l := fun e2 => hm (by rw [e2]; exact List.mem_of_getElem? hj)
      simp [upd, hml]
      exact h.out m hm
  · rw [if_neg hvs, if_neg hvs]
    exact h

theorem Enc.add {ls lv : List Nat} {g : Nat → Option Nat} (h : Enc ls lv g) {l s : Nat} (hl : l ∉ ls) (h4 : l < 4) : Enc (ls ++ [l]) (lv ++ [s]) (raiseG g l s) := by
  have hg : g l = none := h.out l hl
  unfold raiseG
  rw [hg]
  refine ⟨by simp [h.len], ?_, fun m hm => ?_, fun k m hk => ?_, fun m hm => ?_⟩
  · rw [List.nodup_append]
    refine ⟨h.nd, by simp, fun a ha b hb => ?_⟩
    simp at hb
    rintro rfl
    exact hl (by rw [← hb]; exact ha)
  · rcases List.mem_append.1 hm with hm | hm
    · exact h.small m hm
    · simp at hm; omega
  · by_cases hk2 : k < ls.length
    · rw [List.getElem?_append_left hk2] at hk
      rw [List.getElem?_append_left (by rw [← h.len]; exact hk2)]
      have hml : m ≠ l := fun e => hl (by rw [← e]; exact List.mem_of_getElem? hk)
      simp [upd, hml]
      exact h.at' k m hk
    · rw [List.getElem?_append_right (by omega)] at hk
      have : k - ls.length = 0 := by
        have := (List.getElem?_eq_some_iff.1 hk).1
        simp at this
        omega
      rw [this] at hk
      simp at hk
      subst hk
      rw [List.getElem?_append_right (by rw [← h.len]; omega), ← h.len, this]
      simp [upd]
  · simp at hm
    simp [upd, hm.2]
    exact h.out m hm.1

theorem Enc.isMin {ls lv : List Nat} {g : Nat → Option Nat} (h : Enc ls lv g) {low k : Nat} (h1 : k ≤ low) (h2 : ∀ v ∈ lv, k ≤ v) (h3 : k = low ∨ k ∈ lv) : k = kMin low g := by
  refine isMin_unique ⟨h1, fun i hi n hn => ?_, ?_⟩ (kMin_is low g)
  · by_cases hm : i ∈ ls
    · obtain ⟨j, hj⟩ := List.mem_iff_getElem?.1 hm
      have := h.at' j i hj
      rw [hn] at this
      exact h2 n (List.mem_of_getElem? this.symm)
    · rw [h.out i hm] at hn; cases hn
  · rcases h3 with h3 | h3
    · exact .inl h3
    · obtain ⟨j, hj⟩ := List.mem_iff_getElem?.1 h3
      have hjl : j < ls.length := by rw [h.len]; exact (List.getElem?_eq_some_iff.1 hj).1
      have hls := List.getElem?_eq_getElem hjl
      refine .inr ⟨ls[j], h.small _ (List.getElem_mem hjl), ?_⟩
      rw [h.at' j _ hls, hj]

/-! ### the entries -/

def ekey (r : Rec) : Nat × Nat := (r.slot, r.log)

/-- What stands beside the invariant: nothing held lies below kept. -/
structure Inv2 (st : PSt) : Prop where
  inv : Inv st
  kl : st.kept ≤ st.low
  hk : ∀ r ∈ st.held, st.kept ≤ r.slot

theorem range_cut (L : Nat → Option Rec) (n : Nat) (hn : n ≤ 16) : (List.range 16).filterMap L = (List.range n).filterMap L ++ (List.range 16).filterMap (cutL L (fun i => decide (i < n))) := by
  have e : List.range 16 = List.range n ++ (List.range' n (16 - n)) := by
    have := List.range'_append_1 (s := 0) (m := n) (n := 16 - n)
    rw [Nat.zero_add, show n + (16 - n) = 16 by omega] at this
    rw [List.range_eq_range', List.range_eq_range', this]
  have e1 : (List.range n).filterMap (cutL L (fun i => decide (i < n))) = [] := by
    rw [List.filterMap_eq_nil_iff]
    intro i hi
    simp at hi
    simp [cutL, hi]
  have e2 : (List.range' n (16 - n)).filterMap (cutL L (fun i => decide (i < n))) = (List.range' n (16 - n)).filterMap L := by
    have key : ∀ (l : List Nat), (∀ i ∈ l, ¬ i < n) → l.filterMap (cutL L (fun i => decide (i < n))) = l.filterMap L := by
      intro l
      induction l with
      | nil => intro _; rfl
      | cons a r ih =>
        intro hh
        have ha : cutL L (fun i => decide (i < n)) a = L a := by
          have := hh a (by simp)
          simp [cutL, this]
        rw [List.filterMap_cons, List.filterMap_cons, ha, ih (fun i hi => hh i (by simp [hi]))]
    exact key _ (fun i hi => by have := List.mem_range'_1.1 hi; omega)
  conv => lhs; rw [e, List.filterMap_append]
  conv => rhs; rw [e, List.filterMap_append, e1, e2, List.nil_append]

theorem out_lowP (st : PSt) (r : Rec) (hr : r.low < 16) : outP (lowP st r) = outP st := by
  unfold lowP
  split
  · unfold outP
    simp only
    rw [List.append_assoc, ← range_cut st.L r.low (by omega)]
  · rfl

theorem Inv2.lowP {st : PSt} (h : Inv2 st) {r : Rec} (hr : r.low < 16) : Inv2 (lowP st r) := by
  refine ⟨h.inv.lowP hr, ?_, ?_⟩
  · unfold model.lowP
    have := h.kl
    split
    · simp only; omega
    · exact this
  · unfold model.lowP
    split
    · intro q hq
      simp only
      rcases List.mem_append.1 hq with hq | hq
      · exact h.hk q hq
      · obtain ⟨i, hi, hb⟩ := List.mem_filterMap.1 hq
        have e := (h.inv.ok.slot i q hb).1
        have := h.kl
        rcases Nat.lt_or_ge i st.low with h1 | h1
        · rw [h.inv.above i h1] at hb; cases hb
        · omega
    · exact h.hk

theorem live_above {st : PSt} (h : Inv st) {r : Rec} (hr : r ∈ (List.range 16).filterMap st.L) : st.low ≤ r.slot := by
  obtain ⟨i, _, hb⟩ := List.mem_filterMap.1 hr
  have e := (h.ok.slot i r hb).1
  rcases Nat.lt_or_ge i st.low with h1 | h1
  · rw [h.above i h1] at hb; cases hb
  · omega

theorem out_keptP {st : PSt} (h : Inv2 st) : outP (keptP st) = (outP st).filter (fun q => decide ((keptP st).kept ≤ q.slot)) := by
  have hlive : ∀ q ∈ (List.range 16).filterMap st.L, decide ((keptP st).kept ≤ q.slot) = true := fun q hq => by
    have h1 := live_above h.inv hq
    have h2 := h.kl
    have h3 := (kMin_is st.low st.g).1
    have : (keptP st).kept ≤ st.low := by
      unfold keptP
      split
      · exact h3
      · exact h2
    exact decide_eq_true (by omega)
  unfold outP
  rw [List.filter_append]
  have e1 : (keptP st).L = st.L := by unfold keptP; split <;> rfl
  rw [e1, List.filter_eq_self.2 hlive]
  congr 1
  unfold keptP
  split
  · simp only
    apply List.filter_congr
    intro q _
    by_cases hq : q.slot < kMin st.low st.g
    · rw [decide_eq_true hq, decide_eq_false (by omega)]; rfl
    · rw [decide_eq_false hq, decide_eq_true (by omega)]; rfl
  · exact (List.filter_eq_self.2 (fun q hq => decide_eq_true (h.hk q hq))).symm

theorem Inv2.keptP {st : PSt} (h : Inv2 st) : Inv2 (keptP st) := by
  have h3 := (kMin_is st.low st.g).1
  refine ⟨h.inv.keptP, ?_, ?_⟩
  · have := h.kl
    unfold model.keptP
    split
    · exact h3
    · exact this
  · unfold model.keptP
    split
    · intro q hq
      have := (List.mem_filter.1 hq).2
      simp at this
      exact this
    · exact h.hk

theorem Inv2.putP {st : PSt} (h : Inv2 st) {r : Rec} (hr : r.slot < 16) : Inv2 (putP st r) := by
  refine ⟨h.inv.putP hr, ?_, ?_⟩
  · unfold model.putP
    split
    · exact h.kl
    · exact h.kl
  · unfold model.putP
    split
    · exact h.hk
    · exact h.hk

theorem out_asc {st : PSt} (h : Inv st) : Asc (outP st) := asc_append h.asc (asc_range h.ok _) (fun a ha b hb => by
  have := h.under a ha
  have := live_above h hb
  omega)

end Go.Proofs.Ybulkbcrm.model
