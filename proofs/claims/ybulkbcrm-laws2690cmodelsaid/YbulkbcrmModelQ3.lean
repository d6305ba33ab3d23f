/-
  Seat b2690a: LawS2690CModel: the model's entries beside the Standing.
-/
import Derived.Test.YbulkbcrmModelQ2
namespace Go.Proofs.Ybulkbcrm.model

structure EntOK (es : List (Nat × Nat)) (rs : List Rec) : Prop where
  nd : (es.map (·.1)).Nodup
  mem : ∀ p, p ∈ es ↔ ∃ r, r ∈ rs ∧ ekey r = p

theorem entOK_nil : EntOK [] [] := ⟨by simp, fun p => by simp⟩

theorem EntOK.filter {es : List (Nat × Nat)} {rs : List Rec} (h : EntOK es rs) (k : Nat) : EntOK (es.filter (fun p => decide (k ≤ p.1))) (rs.filter (fun q => decide (k ≤ q.slot))) := by
  refine ⟨(List.filter_sublist.map _).nodup h.nd, fun p => ?_⟩
  rw [List.mem_filter, h.mem p]
  constructor
  · rintro ⟨⟨r, h1, rfl⟩, h2⟩
    exact ⟨r, List.mem_filter.2 ⟨h1, h2⟩, rfl⟩
  · rintro ⟨r, h1, rfl⟩
    exact ⟨⟨r, (List.mem_filter.1 h1).1, rfl⟩, (List.mem_filter.1 h1).2⟩

theorem EntOK.slots {es : List (Nat × Nat)} {st : PSt} (h : EntOK es (outP st)) (inv : Inv st) : ∀ p ∈ es, p.1 < 16 := fun p hp => by
  obtain ⟨r, hr, rfl⟩ := (h.mem p).1 hp
  rcases List.mem_append.1 hr with h1 | h1
  · have := inv.under r h1
    have := inv.low
    show r.slot < 16
    omega
  · obtain ⟨i, hi, hb⟩ := List.mem_filterMap.1 h1
    have e := inv.ok.slot i r hb
    show r.slot < 16
    omega

theorem EntOK.len {es : List (Nat × Nat)} {st : PSt} (h : EntOK es (outP st)) (inv : Inv st) : es.length ≤ 16 := by
  have := nodup_le 16 _ h.nd (fun x hx => by
    obtain ⟨p, hp, rfl⟩ := List.mem_map.1 hx
    exact h.slots inv p hp)
  simpa using this

def putF (s i : Nat) (p : Nat × Nat) : Nat × Nat := if p.1 = s then (p.1, i) else p

theorem put_mem {st : PSt} (inv : Inv st) {r : Rec} (hr : r.slot < 16) (hl : ¬ r.slot < st.low) (p : Nat × Nat) : (∃ q, q ∈ outP (putP st r) ∧ ekey q = p) ↔ ((∃ q, q ∈ outP st ∧ ekey q = p) ∧ p.1 ≠ r.slot) ∨ p = ekey r := by
  have e : putP st r = { st with L := upd st.L r.slot (some r) } := if_neg hl
  rw [e]
  unfold outP
  simp only [List.mem_append, List.mem_filterMap, List.mem_range]
  constructor
  · rintro ⟨q, (h1 | ⟨i, hi, hq⟩), rfl⟩
    · have := inv.under q h1
      exact .inl ⟨⟨q, .inl h1, rfl⟩, by show q.slot ≠ r.slot; omega⟩
    · by_cases e2 : i = r.slot
      · simp [upd, e2] at hq
        rw [← hq]
        exact .inr rfl
      · simp [upd, e2] at hq
        have := (inv.ok.slot i q hq).1
        exact .inl ⟨⟨q, .inr ⟨i, hi, hq⟩, rfl⟩, by show q.slot ≠ r.slot; omega⟩
  · rintro (⟨⟨q, (h1 | ⟨i, hi, hq⟩), rfl⟩, hne⟩ | rfl)
    · exact ⟨q, .inl h1, rfl⟩
    · have e3 := (inv.ok.slot i q hq).1
      have hne' : i ≠ r.slot := fun e4 => hne (show q.slot = r.slot by omega)
      exact ⟨q, .inr ⟨i, hi, by simp [upd, hne', hq]⟩, rfl⟩
    · exact ⟨r, .inr ⟨r.slot, hr, by simp [upd]⟩, rfl⟩

theorem EntOK.putIn {es : List (Nat × Nat)} {st : PSt} (h : EntOK es (outP st)) (inv : Inv st) {r : Rec} (hr : r.slot < 16) (hl : ¬ r.slot < st.low) (hin : ∃ p ∈ es, p.1 = r.slot) : EntOK (es.map (putF r.slot r.log)) (outP (putP st r)) := by
  have e1 : (es.map (putF r.slot r.log)).map (·.1) = es.map (·.1) := by
    rw [List.map_map]
    apply List.map_congr_left
    intro p _
    simp only [Function.comp, putF]
    split <;> rfl
  refine ⟨by rw [e1]; exact h.nd, fun p => ?_⟩
  rw [put_mem inv hr hl p, ← h.mem p, List.mem_map]
  constructor
  · rintro ⟨q, hq, rfl⟩
    unfold putF
    split
    · rename_i e2
      exact .inr (by rw [e2]; rfl)
    · rename_i e2
      exact .inl ⟨hq, e2⟩
  · rintro (⟨hp, hne⟩ | rfl)
    · exact ⟨p, hp, by simp [putF, hne]⟩
    · obtain ⟨p, hp, hs⟩ := hin
      exact ⟨p, hp, by simp [putF, hs, ekey]⟩

theorem EntOK.putNew {es : List (Nat × Nat)} {st : PSt} (h : EntOK es (outP st)) (inv : Inv st) {r : Rec} (hr : r.slot < 16) (hl : ¬ r.slot < st.low) (hin : ∀ p ∈ es, p.1 ≠ r.slot) : EntOK (es ++ [(r.slot, r.log)]) (outP (putP st r)) := by
  refine ⟨?_, fun p => ?_⟩
  · rw [List.map_append, List.nodup_append]
    refine ⟨h.nd, by simp, fun a ha b hb => ?_⟩
    obtain ⟨p, hp, rfl⟩ := List.mem_map.1 ha
    simp at hb
    rw [hb]
    exact hin p hp
  · rw [put_mem inv hr hl p, ← h.mem p, List.mem_append]
    constructor
    · rintro (hp | hp)
      · exact .inl ⟨hp, hin p hp⟩
      · simp at hp
        exact .inr hp
    · rintro (⟨hp, _⟩ | hp)
      · exact .inl hp
      · exact .inr (by simp [hp, ekey])

theorem putF_none {es : List (Nat × Nat)} {s i : Nat} (h : ∀ p ∈ es, p.1 ≠ s) : es.map (putF s i) = es := by
  conv => rhs; rw [← List.map_id es]
  apply List.map_congr_left
  intro p hp
  simp [putF, h p hp]

/-- Sorted by slot, the entries are those of the Standing, in its order. -/
theorem ent_sorted {es : List (Nat × Nat)} {st : PSt} (h : EntOK es (outP st)) (inv : Inv st) {es' : List (Nat × Nat)} (hp : es'.Perm es) (hs : es'.Pairwise (fun a b => a.1 ≤ b.1)) : es' = (outP st).map ekey := by
  have hnd : (es'.map (·.1)).Nodup := (hp.map _).nodup_iff.2 h.nd
  have h1 : es'.Pairwise (fun a b => a.1 < b.1) := by
    have h2 : List.Pairwise (· ≠ ·) (es'.map (·.1)) := hnd
    rw [List.pairwise_map] at h2
    exact (hs.and h2).imp (fun {a b} h => by omega)
  have h3 : ((outP st).map ekey).Pairwise (fun a b => a.1 < b.1) := by
    rw [List.pairwise_map, List.pairwise_iff_getElem]
    intro i j hi hj hij
    exact out_asc inv i j _ _ (List.getElem?_eq_getElem hi) (List.getElem?_eq_getElem hj) hij
  have hmem : ∀ p, p ∈ es' ↔ p ∈ (outP st).map ekey := fun p => by
    rw [hp.mem_iff, h.mem p, List.mem_map]
  have key : ∀ (l m : List (Nat × Nat)), l.Pairwise (fun a b => a.1 < b.1) → m.Pairwise (fun a b => a.1 < b.1) → (∀ r, r ∈ l ↔ r ∈ m) → l = m := by
    intro l
    induction l with
    | nil =>
      intro m _ _ h
      cases m with
      | nil => rfl
      | cons b m => exact absurd ((h b).2 (by simp)) (by simp)
    | cons a l ih =>
      intro m h1 h2 h
      cases m with
      | nil => exact absurd ((h a).1 (by simp)) (by simp)
      | cons b m =>
        obtain ⟨ha, hl⟩ := List.pairwise_cons.1 h1
        obtain ⟨hb, hm⟩ := List.pairwise_cons.1 h2
        have e : a = b := by
          rcases List.mem_cons.1 ((h a).1 (by simp)) with e | e
          · exact e
          · rcases List.mem_cons.1 ((h b).2 (by simp)) with e2 | e2
            · exact e2.symm
            · have := ha b e2
              have := hb a e
              omega
        subst e
        rw [ih m hl hm (fun r => ?_)]
        constructor
        · intro hr
          rcases List.mem_cons.1 ((h r).1 (by simp [hr])) with e | e
          · subst e; have := ha r hr; omega
          · exact e
        · intro hr
          rcases List.mem_cons.1 ((h r).2 (by simp [hr])) with e | e
          · subst e; have := hb r hr; omega
          · exact e
  exact key es' _ h1 h3 hmem

/-- Every state that stands is one that was given. -/
theorem out_from (ps : List SM) (r : Rec) (hr : r ∈ outP (compP ps)) : ∃ (j : Nat) (p : SM), ps[j]? = some p ∧ p.1 = r := by
  have key : ∀ (l : List SM) (st : PSt) (Q : Rec → Prop), (∀ q, q ∈ st.held ∨ (∃ i, st.L i = some q) → Q q) → (∀ p ∈ l, Q p.1) → ∀ q, q ∈ (l.foldl (fun st p => addP st p.1 p.2) st).held ∨ (∃ i, (l.foldl (fun st p => addP st p.1 p.2) st).L i = some q) → Q q := by
    intro l
    induction l with
    | nil => intro st Q h0 _; exact h0
    | cons a l ih =>
      intro st Q h0 hl
      refine ih _ Q (fun q hq => ?_) (fun p hp => hl p (by simp [hp]))
      have hlow : ∀ q, q ∈ (lowP st a.1).held ∨ (∃ i, (lowP st a.1).L i = some q) → Q q := by
        unfold lowP
        split
        · rintro q (h | ⟨i, h⟩)
          · rcases List.mem_append.1 h with h | h
            · exact h0 q (.inl h)
            · obtain ⟨i, _, hb⟩ := List.mem_filterMap.1 h
              exact h0 q (.inr ⟨i, hb⟩)
          · simp only [cutL] at h
            split at h
            · cases h
            · exact h0 q (.inr ⟨i, h⟩)
        · exact h0
      have hkept : ∀ q, q ∈ (keptP (regP (lowP st a.1) a.1 a.2)).held ∨ (∃ i, (keptP (regP (lowP st a.1) a.1 a.2)).L i = some q) → Q q := by
        unfold keptP
        split
        · rintro q (h | h)
          · exact hlow q (.inl (List.mem_filter.1 h).1)
          · exact hlow q (.inr h)
        · exact hlow
      simp only [addP, putP] at hq
      split at hq
      · exact hkept q hq
      · rcases hq with h | ⟨i, h⟩
        · exact hkept q (.inl h)
        · by_cases e : i = a.1.slot
          · simp [upd, e] at h
            rw [← h]
            exact hl a (by simp)
          · simp [upd, e] at h
            exact hkept q (.inr ⟨i, h⟩)
  have := key ps st0 (fun q => ∃ (j : Nat) (p : SM), ps[j]? = some p ∧ p.1 = q) (fun q hq => by
    rcases hq with h | ⟨i, h⟩
    · simp [st0] at h
    · simp [st0] at h) (fun p hp => by
    obtain ⟨j, hj⟩ := List.mem_iff_getElem?.1 hp
    exact ⟨j, p, hj, rfl⟩) r
  refine this ?_
  rcases List.mem_append.1 hr with h | h
  · exact .inl h
  · obtain ⟨i, _, hb⟩ := List.mem_filterMap.1 h
    exact .inr ⟨i, hb⟩

end Go.Proofs.Ybulkbcrm.model
