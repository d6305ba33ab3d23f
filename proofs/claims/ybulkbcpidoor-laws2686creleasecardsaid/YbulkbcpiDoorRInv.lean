/-
  Seat b2686aD: the invariant of the manager's state, with no Go in sight.
-/
import Derived.Test.YbulkbcpiDoorRGrant2
namespace Go.Proofs.YbulkbcpiDoor.rel
open Go.RowKit

structure QOK (gr wt : List Req) : Prop where
  gnd : (gr.map Req.y).Nodup
  glt : ∀ r ∈ gr, r.y < 4 ∧ r.m < 2
  wnd : (wt.map Req.y).Nodup
  wlt : ∀ r ∈ wt, r.y < 4 ∧ r.m < 2
  upg : ∀ r ∈ wt, (r.u = true ↔ has gr r.y = true) ∧ (r.u = true → r.m = 1)

def ne (l : List Req) : Nat := if l = [] then 0 else 1

structure Inv (E X : Nat → Prop) (s : St) : Prop where
  qok : ∀ i, i < 3 → QOK (s.gr i) (s.wt i)
  hold : ∀ i, i < 3 → ∀ y, y < 4 → (has (s.gr i) y = true ↔ i ∈ s.hl y)
  hnd : ∀ y, y < 4 → (s.hl y).Nodup ∧ ∀ i ∈ s.hl y, i < 3
  wait : ∀ i, i < 3 → ∀ y, y < 4 → (has (s.wt i) y = true ↔ s.wl y = some i)
  wl3 : ∀ y, y < 4 → ∀ i, s.wl y = some i → i < 3
  emp : ∀ i, i < 3 → ¬ E i → s.gr i = [] → s.wt i = []
  lo : s.lo = ne (s.gr 0) + ne (s.gr 1) + ne (s.gr 2)
  wa : s.wa = (s.wt 0).length + (s.wt 1).length + (s.wt 2).length
  qn : ∀ i, i < 3 → s.qb i = none → s.gr i = [] ∧ s.wt i = []
  tn : ∀ y, y < 4 → ¬ X y → s.tb y = none → s.hl y = [] ∧ s.wl y = none

theorem QOK.len {gr wt : List Req} (h : QOK gr wt) : gr.length ≤ 4 ∧ wt.length ≤ 4 := by
  constructor
  · have := nodup_len 4 (gr.map Req.y) h.gnd (fun x hx => by rw [List.mem_map] at hx; obtain ⟨r, hr, rfl⟩ := hx; exact (h.glt r hr).1)
    simpa using this
  · have := nodup_len 4 (wt.map Req.y) h.wnd (fun x hx => by rw [List.mem_map] at hx; obtain ⟨r, hr, rfl⟩ := hx; exact (h.wlt r hr).1)
    simpa using this

theorem ne_le (l : List Req) : ne l ≤ 1 := by unfold ne; split <;> omega

section
variable {E X : Nat → Prop} {s : St}

theorem Inv.lo3 (h : Inv E X s) : s.lo ≤ 3 := by
  have h0 := ne_le (s.gr 0)
  have h1 := ne_le (s.gr 1)
  have h2 := ne_le (s.gr 2)
  rw [h.lo]; omega

theorem Inv.wa12 (h : Inv E X s) : s.wa ≤ 12 := by
  have h0 := (h.qok 0 (by omega)).len.2
  have h1 := (h.qok 1 (by omega)).len.2
  have h2 := (h.qok 2 (by omega)).len.2
  rw [h.wa]; omega

theorem Inv.hl3 (h : Inv E X s) {y : Nat} (hy : y < 4) : (s.hl y).length ≤ 3 := nodup_len 3 _ (h.hnd y hy).1 (h.hnd y hy).2

theorem Inv.lo1 (h : Inv E X s) {i : Nat} (hi : i < 3) (hg : s.gr i ≠ []) : 1 ≤ s.lo := by
  rw [h.lo]
  have : ne (s.gr i) = 1 := by simp [ne, hg]
  rcases (by omega : i = 0 ∨ i = 1 ∨ i = 2) with rfl | rfl | rfl <;> omega

theorem Inv.wa1 (h : Inv E X s) {i : Nat} (hi : i < 3) (hg : s.wt i ≠ []) : 1 ≤ s.wa := by
  rw [h.wa]
  have : 1 ≤ (s.wt i).length := by cases hc : s.wt i with | nil => exact absurd hc hg | cons a l => simp
  rcases (by omega : i = 0 ∨ i = 1 ∨ i = 2) with rfl | rfl | rfl <;> omega

/-- One queue and one record have turned. -/
theorem Inv.step (h : Inv E X s) {i y : Nat} (hi : i < 3) {gr' wt' : List Req} {hl' : List Nat} {wl' : Option Nat} {E' X' : Nat → Prop} {s' : St}
    (eg : ∀ j, s'.gr j = if j = i then gr' else s.gr j) (ew : ∀ j, s'.wt j = if j = i then wt' else s.wt j) (eh : ∀ z, s'.hl z = if z = y then hl' else s.hl z) (el : ∀ z, s'.wl z = if z = y then wl' else s.wl z)
    (ok : QOK gr' wt') (o1 : ∀ z, z < 4 → z ≠ y → (has gr' z = true ↔ has (s.gr i) z = true) ∧ (has wt' z = true ↔ has (s.wt i) z = true))
    (h1 : y < 4 → (has gr' y = true ↔ i ∈ hl')) (h2 : y < 4 → ∀ j, j < 3 → j ≠ i → (j ∈ hl' ↔ j ∈ s.hl y)) (h3 : y < 4 → hl'.Nodup ∧ ∀ j ∈ hl', j < 3)
    (w1 : y < 4 → (has wt' y = true ↔ wl' = some i)) (w2 : y < 4 → ∀ j, j < 3 → j ≠ i → (wl' = some j ↔ s.wl y = some j)) (w3 : y < 4 → ∀ j, wl' = some j → j < 3)
    (e1 : ¬ E' i → gr' = [] → wt' = []) (e2 : ∀ j, j < 3 → j ≠ i → E j → E' j) (l1 : s'.lo + ne (s.gr i) = s.lo + ne gr') (l2 : s'.wa + (s.wt i).length = s.wa + wt'.length)
    (q1 : ∀ j, j < 3 → s'.qb j = none → (j = i → gr' = [] ∧ wt' = []) ∧ (j ≠ i → s.qb j = none)) (t1 : ∀ z, z < 4 → ¬ X' z → s'.tb z = none → (z = y → hl' = [] ∧ wl' = none) ∧ (z ≠ y → ¬ X z ∧ s.tb z = none)) : Inv E' X' s' := by
  refine ⟨fun j hj => ?_, fun j hj z hz => ?_, fun z hz => ?_, fun j hj z hz => ?_, fun z hz j e => ?_, fun j hj hE hg => ?_, ?_, ?_, fun j hj hq => ?_, fun z hz hX ht => ?_⟩
  · rw [eg, ew]
    by_cases e : j = i
    · rw [if_pos e, if_pos e]; exact ok
    · rw [if_neg e, if_neg e]; exact h.qok j hj
  · rw [eg, eh]
    by_cases e : j = i
    · subst e
      rw [if_pos rfl]
      by_cases ez : z = y
      · subst ez; rw [if_pos rfl]; exact h1 hz
      · rw [if_neg ez, (o1 z hz ez).1]; exact h.hold j hj z hz
    · rw [if_neg e]
      by_cases ez : z = y
      · subst ez; rw [if_pos rfl, h2 hz j hj e]; exact h.hold j hj z hz
      · rw [if_neg ez]; exact h.hold j hj z hz
  · rw [eh]
    by_cases ez : z = y
    · subst ez; rw [if_pos rfl]; exact h3 hz
    · rw [if_neg ez]; exact h.hnd z hz
  · rw [ew, el]
    by_cases e : j = i
    · subst e
      rw [if_pos rfl]
      by_cases ez : z = y
      · subst ez; rw [if_pos rfl]; exact w1 hz
      · rw [if_neg ez, (o1 z hz ez).2]; exact h.wait j hj z hz
    · rw [if_neg e]
      by_cases ez : z = y
      · subst ez; rw [if_pos rfl, w2 hz j hj e]; exact h.wait j hj z hz
      · rw [if_neg ez]; exact h.wait j hj z hz
  · rw [el] at e
    by_cases ez : z = y
    · subst ez; rw [if_pos rfl] at e; exact w3 hz j e
    · rw [if_neg ez] at e; exact h.wl3 z hz j e
  · rw [eg] at hg
    rw [ew]
    by_cases e : j = i
    · subst e; rw [if_pos rfl] at hg ⊢; exact e1 hE hg
    · rw [if_neg e] at hg ⊢; exact h.emp j hj (fun hh => hE (e2 j hj e hh)) hg
  · have hl := h.lo
    rw [eg, eg, eg]
    rcases (by omega : i = 0 ∨ i = 1 ∨ i = 2) with rfl | rfl | rfl
    · simp only [if_true, show ¬ (1 : Nat) = 0 by omega, show ¬ (2 : Nat) = 0 by omega, if_false]; omega
    · simp only [if_true, show ¬ (0 : Nat) = 1 by omega, show ¬ (2 : Nat) = 1 by omega, if_false]; omega
    · simp only [if_true, show ¬ (0 : Nat) = 2 by omega, show ¬ (1 : Nat) = 2 by omega, if_false]; omega
  · have hl := h.wa
    rw [ew, ew, ew]
    rcases (by omega : i = 0 ∨ i = 1 ∨ i = 2) with rfl | rfl | rfl
    · simp only [if_true, show ¬ (1 : Nat) = 0 by omega, show ¬ (2 : Nat) = 0 by omega, if_false]; omega
    · simp only [if_true, show ¬ (0 : Nat) = 1 by omega, show ¬ (2 : Nat) = 1 by omega, if_false]; omega
    · simp only [if_true, show ¬ (0 : Nat) = 2 by omega, show ¬ (1 : Nat) = 2 by omega, if_false]; omega
  · obtain ⟨a, b⟩ := q1 j hj hq
    rw [eg, ew]
    by_cases e : j = i
    · rw [if_pos e, if_pos e]; exact a e
    · rw [if_neg e, if_neg e]; exact h.qn j hj (b e)
  · obtain ⟨a, b⟩ := t1 z hz hX ht
    rw [eh, el]
    by_cases e : z = y
    · rw [if_pos e, if_pos e]; exact a e
    · rw [if_neg e, if_neg e]; exact h.tn z hz (b e).1 (b e).2

end

/-! ### lists of requests -/

theorem has_app (l : List Req) (r : Req) (y : Nat) : has (l ++ [r]) y = true ↔ has l y = true ∨ r.y = y := by
  simp only [has_iff, List.mem_append, List.mem_singleton]
  constructor
  · rintro ⟨q, h | rfl, e⟩
    · exact .inl ⟨q, h, e⟩
    · exact .inr e
  · rintro (⟨q, h, e⟩ | e)
    · exact ⟨q, .inl h, e⟩
    · exact ⟨r, .inr rfl, e⟩

theorem has_mem {l : List Req} {y : Nat} : has l y = true ↔ y ∈ l.map Req.y := by
  simp only [has_iff, List.mem_map]

theorem map_set {l : List Req} {k : Nat} {r : Req} (h : l[k]? = some r) (m : Nat) (u : Bool) : (l.set k ⟨r.y, m, u⟩).map Req.y = l.map Req.y := by
  rw [List.map_set]
  apply List.ext_getElem?
  intro j
  rw [List.getElem?_set]
  split
  · next e =>
    subst e
    rw [List.getElem?_map, h]
    have := (List.getElem?_eq_some_iff.1 h).1
    simp [this]
  · rfl

theorem mem_set' {l : List Req} {k : Nat} {r q : Req} {m : Nat} {u : Bool} (h : q ∈ l.set k ⟨r.y, m, u⟩) : q ∈ l ∨ (q.y = r.y ∧ q.m = m ∧ q.u = u) := by
  rcases List.mem_or_eq_of_mem_set h with h | h
  · exact .inl h
  · subst h; exact .inr ⟨rfl, rfl, rfl⟩

theorem has_erase {l : List Req} {k : Nat} {r : Req} (h : l[k]? = some r) (hn : (l.map Req.y).Nodup) (y : Nat) : has (l.eraseIdx k) y = true ↔ has l y = true ∧ y ≠ r.y := by
  rw [has_mem, has_mem]
  have hk := (List.getElem?_eq_some_iff.1 h).1
  have e : (l.eraseIdx k).map Req.y = (l.map Req.y).erase r.y := by
    rw [ChangeMaps.map_eraseIdx]
    rw [List.erase_eq_eraseIdx_of_idxOf]
    have : (l.map Req.y)[k]'(by simpa using hk) = r.y := by
      have := (List.getElem?_eq_some_iff.1 h).2
      simp [this]
    rw [← this]
    exact (hn.idxOf_getElem k (by simpa using hk))
  rw [e, hn.mem_erase_iff]
  exact ⟨fun h => ⟨h.2, h.1⟩, fun h => ⟨h.2, h.1⟩⟩

theorem mem_eraseIdx' {l : List Req} {k : Nat} {q : Req} (h : q ∈ l.eraseIdx k) : q ∈ l := List.mem_of_mem_eraseIdx h

theorem nodup_erase {l : List Req} {k : Nat} (hn : (l.map Req.y).Nodup) : ((l.eraseIdx k).map Req.y).Nodup := by
  rw [ChangeMaps.map_eraseIdx]
  exact hn.sublist (List.eraseIdx_sublist _ _)

theorem has_ins (l : List Req) (p : Nat) (r : Req) (y : Nat) : has (insAt l p r) y = true ↔ has l y = true ∨ r.y = y := by
  rw [has_iff, has_iff]
  have hm : ∀ q, q ∈ insAt l p r ↔ q ∈ l ∨ q = r := by
    intro q
    have hl : q ∈ l ↔ q ∈ l.take p ∨ q ∈ l.drop p := by
      rw [← List.mem_append, List.take_append_drop]
    simp only [insAt, List.mem_append, List.mem_cons]
    rw [hl]
    constructor
    · rintro (h | h | h)
      · exact .inl (.inl h)
      · exact .inr h
      · exact .inl (.inr h)
    · rintro ((h | h) | h)
      · exact .inl h
      · exact .inr (.inr h)
      · exact .inr (.inl h)
  constructor
  · rintro ⟨q, h, e⟩
    rcases (hm q).1 h with h | h
    · exact .inl ⟨q, h, e⟩
    · subst h; exact .inr e
  · rintro (⟨q, h, e⟩ | e)
    · exact ⟨q, (hm q).2 (.inl h), e⟩
    · exact ⟨r, (hm r).2 (.inr rfl), e⟩

theorem mem_ins {l : List Req} {p : Nat} {r q : Req} (h : q ∈ insAt l p r) : q ∈ l ∨ q = r := by
  simp only [insAt, List.mem_append, List.mem_cons] at h
  rcases h with h | h | h
  · exact .inl (List.mem_of_mem_take h)
  · exact .inr h
  · exact .inl (List.mem_of_mem_drop h)

theorem nodup_ins {l : List Req} {p : Nat} {r : Req} (hn : (l.map Req.y).Nodup) (hr : has l r.y = false) : ((insAt l p r).map Req.y).Nodup := by
  have hp : (insAt l p r).Perm (r :: l) := by
    unfold insAt
    refine List.perm_middle.trans ?_
    rw [List.take_append_drop]
  rw [(hp.map Req.y).nodup_iff, List.map_cons, List.nodup_cons]
  refine ⟨fun hm => ?_, hn⟩
  have := has_mem.2 hm
  rw [hr] at this
  cases this

theorem has_cons (r : Req) (l : List Req) (y : Nat) : has (r :: l) y = true ↔ r.y = y ∨ has l y = true := by
  simp only [has_iff, List.mem_cons]
  constructor
  · rintro ⟨q, rfl | h, e⟩
    · exact .inl e
    · exact .inr ⟨q, h, e⟩
  · rintro (e | ⟨q, h, e⟩)
    · exact ⟨r, .inl rfl, e⟩
    · exact ⟨q, .inr h, e⟩

end Go.Proofs.YbulkbcpiDoor.rel
