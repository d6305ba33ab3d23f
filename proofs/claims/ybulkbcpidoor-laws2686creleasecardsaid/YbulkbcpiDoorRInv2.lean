/-
  Seat b2686aD: each step keeps the invariant.
-/
import Derived.Test.YbulkbcpiDoorRInv
namespace Go.Proofs.YbulkbcpiDoor.rel
open Go.RowKit

theorem if_own {α : Type} (f : Nat → α) (y z : Nat) : f z = if z = y then f y else f z := by
  split
  · next e => rw [e]
  · rfl

section
variable {E X : Nat → Prop} {s : St} {i : Nat}

/-- What a state says, whatever its spare blocks. -/
theorem Inv.frame (h : Inv E X s) {E' X' : Nat → Prop} {s' : St} (eg : s'.gr = s.gr) (ew : s'.wt = s.wt) (eh : s'.hl = s.hl) (el : s'.wl = s.wl) (e1 : s'.lo = s.lo) (e2 : s'.wa = s.wa) (hE : ∀ j, j < 3 → ¬ E' j → s.gr j = [] → s.wt j = [])
    (q1 : ∀ j, j < 3 → s'.qb j = none → s.gr j = [] ∧ s.wt j = []) (t1 : ∀ z, z < 4 → ¬ X' z → s'.tb z = none → s.hl z = [] ∧ s.wl z = none) : Inv E' X' s' :=
  ⟨by rw [eg, ew]; exact h.qok, by rw [eg, eh]; exact h.hold, by rw [eh]; exact h.hnd, by rw [ew, el]; exact h.wait, by rw [el]; exact h.wl3, by rw [eg, ew]; exact hE, by rw [eg, e1]; exact h.lo, by rw [ew, e2]; exact h.wa, by rw [eg, ew]; exact q1, by rw [eh, el]; exact t1⟩

theorem inv_grantU (h : Inv E X s) (hi : i < 3) {k : Nat} {r : Req} (hk : (s.gr i)[k]? = some r) : Inv E X (s.setQ i ((s.gr i).set k ⟨r.y, 1, r.u⟩) (s.wt i) s.lo s.wa) := by
  have ok := h.qok i hi
  have hr : r ∈ s.gr i := List.mem_of_getElem? hk
  have hy := (ok.glt r hr).1
  have hm := map_set hk 1 r.u
  have hh : ∀ z, has ((s.gr i).set k ⟨r.y, 1, r.u⟩) z = true ↔ has (s.gr i) z = true := fun z => by rw [has_mem, has_mem, hm]
  have hne : (s.gr i).set k ⟨r.y, 1, r.u⟩ = [] ↔ s.gr i = [] := by simp
  refine h.step (y := r.y) (hl' := s.hl r.y) (wl' := s.wl r.y) hi (fun j => rfl) (fun j => rfl) (if_own _ _) (if_own _ _) ⟨by rw [hm]; exact ok.gnd, fun q hq => ?_, ok.wnd, ok.wlt, fun q hq => by rw [hh]; exact ok.upg q hq⟩
    (fun z _ _ => ⟨hh z, Iff.rfl⟩) (fun _ => by rw [hh]; exact h.hold i hi r.y hy) (fun _ j _ _ => Iff.rfl) (fun _ => h.hnd r.y hy) (fun _ => h.wait i hi r.y hy) (fun _ j _ _ => Iff.rfl) (fun _ => h.wl3 r.y hy)
    (fun hE hg => h.emp i hi hE (hne.1 hg)) (fun _ _ _ e => e) ?_ rfl (fun j hj hq => ⟨fun e => ?_, fun _ => hq⟩) (fun z hz hX ht => ⟨fun e => by subst e; exact h.tn _ hz hX ht, fun _ => ⟨hX, ht⟩⟩)
  · rcases mem_set' hq with h1 | ⟨h1, h2, _⟩
    · exact ok.glt q h1
    · rw [h1, h2]; exact ⟨hy, by omega⟩
  · have : ne ((s.gr i).set k ⟨r.y, 1, r.u⟩) = ne (s.gr i) := by unfold ne; simp only [hne]
    rw [this]; rfl
  · subst e
    have := h.qn j hj hq
    rw [this.1] at hr
    cases hr

theorem inv_grantN (h : Inv E X s) (hi : i < 3) {r : Req} (hy : r.y < 4) (hm : r.m < 2) (hno : has (s.gr i) r.y = false) (hwl : s.wl r.y = none) (hq : s.qb i ≠ none) {tb' : Nat → Option Nat} {st' : List Nat} (ht : (tb' r.y).isSome = true) (ht2 : ∀ z, z ≠ r.y → tb' z = s.tb z) :
    Inv E X (St.setT { s.setQ i (s.gr i ++ [r]) (s.wt i) (s.lo + if (s.gr i).length = 0 then 1 else 0) s.wa with tb := tb', st := st' } r.y (s.hl r.y ++ [i]) (s.wl r.y)) := by
  have ok := h.qok i hi
  have hni : i ∉ s.hl r.y := fun hh => by have := (h.hold i hi r.y hy).2 hh; rw [hno] at this; cases this
  have hnw : has (s.wt i) r.y = false := by
    cases hc : has (s.wt i) r.y with
    | false => rfl
    | true => have := (h.wait i hi r.y hy).1 hc; rw [hwl] at this; cases this
  have hqw : ∀ q ∈ s.wt i, q.y ≠ r.y := fun q hq e => by
    have : has (s.wt i) r.y = true := has_iff.2 ⟨q, hq, e⟩
    rw [hnw] at this; cases this
  refine h.step (y := r.y) (hl' := s.hl r.y ++ [i]) (wl' := s.wl r.y) hi (fun j => rfl) (fun j => rfl) (fun j => rfl) (fun j => rfl) ⟨?_, fun q hq => ?_, ok.wnd, ok.wlt, fun q hq => ⟨?_, (ok.upg q hq).2⟩⟩
    (fun z _ hz => ⟨?_, Iff.rfl⟩) (fun _ => ?_) (fun _ j _ hj => ?_) (fun _ => ⟨?_, fun j hj => ?_⟩) (fun _ => h.wait i hi r.y hy) (fun _ j _ _ => Iff.rfl) (fun _ => h.wl3 r.y hy)
    (fun hE hg => by simp at hg) (fun _ _ _ e => e) ?_ rfl (fun j hj hq' => ⟨fun e => by subst e; exact absurd hq' hq, fun _ => hq'⟩) (fun z hz hX ht' => ⟨fun e => ?_, fun e => ⟨hX, by rw [← ht2 z e]; exact ht'⟩⟩)
  · rw [List.map_append, List.nodup_append]
    refine ⟨ok.gnd, by simp, fun a ha b hb => ?_⟩
    simp at hb
    subst hb
    rintro rfl
    rw [has_mem.2 ha] at hno
    cases hno
  · rw [List.mem_append, List.mem_singleton] at hq
    rcases hq with hq | rfl
    · exact ok.glt q hq
    · exact ⟨hy, hm⟩
  · rw [has_app, (ok.upg q hq).1]
    exact ⟨fun a => .inl a, fun a => a.resolve_right (fun e => hqw q hq e.symm)⟩
  · rw [has_app]
    exact ⟨fun a => a.resolve_right (fun e => hz e.symm), fun a => .inl a⟩
  · rw [has_app]
    exact ⟨fun _ => by simp, fun _ => .inr rfl⟩
  · simp [hj]
  · rw [List.nodup_append]
    exact ⟨(h.hnd _ hy).1, by simp, fun a ha b hb => by simp at hb; subst hb; rintro rfl; exact hni ha⟩
  · rw [List.mem_append, List.mem_singleton] at hj
    rcases hj with hj | rfl
    · exact (h.hnd _ hy).2 j hj
    · exact hi
  · show (s.lo + if (s.gr i).length = 0 then 1 else 0) + ne (s.gr i) = s.lo + ne (s.gr i ++ [r])
    unfold ne
    cases hg : s.gr i with
    | nil => simp
    | cons a l => simp
  · subst e
    have ht' : tb' r.y = none := ht'
    rw [ht'] at ht
    cases ht

theorem inv_wait (h : Inv E X s) (hi : i < 3) {r : Req} (hy : r.y < 4) (hm : r.m < 2) (hu : (r.u = true ↔ has (s.gr i) r.y = true) ∧ (r.u = true → r.m = 1)) (hwl : s.wl r.y = none) (hg : s.gr i ≠ []) (p : Nat) {tb' : Nat → Option Nat} {st' : List Nat} (ht : (tb' r.y).isSome = true) (ht2 : ∀ z, z ≠ r.y → tb' z = s.tb z) :
    Inv E X (St.setT { s.setQ i (s.gr i) (insAt (s.wt i) p r) s.lo (s.wa + 1) with tb := tb', st := st' } r.y (s.hl r.y) (some i)) := by
  have ok := h.qok i hi
  have hnw : has (s.wt i) r.y = false := by
    cases hc : has (s.wt i) r.y with
    | false => rfl
    | true => have := (h.wait i hi r.y hy).1 hc; rw [hwl] at this; cases this
  refine h.step (y := r.y) (hl' := s.hl r.y) (wl' := some i) hi (fun j => rfl) (fun j => rfl) (fun j => rfl) (fun j => rfl) ⟨ok.gnd, ok.glt, nodup_ins ok.wnd hnw, fun q hq => ?_, fun q hq => ?_⟩
    (fun z _ hz => ⟨Iff.rfl, ?_⟩) (fun _ => h.hold i hi r.y hy) (fun _ j _ hj => Iff.rfl) (fun _ => h.hnd r.y hy) (fun _ => ?_) (fun _ j _ hj => ?_) (fun _ j e => by cases e; exact hi)
    (fun hE hg' => absurd hg' hg) (fun _ _ _ e => e) rfl ?_ (fun j hj hq' => ⟨fun e => by subst e; exact absurd (h.qn _ hj hq').1 hg, fun _ => hq'⟩) (fun z hz hX ht' => ⟨fun e => ?_, fun e => ⟨hX, by rw [← ht2 z e]; exact ht'⟩⟩)
  · rcases mem_ins hq with hq | rfl
    · exact ok.wlt q hq
    · exact ⟨hy, hm⟩
  · rcases mem_ins hq with hq | rfl
    · exact ok.upg q hq
    · exact hu
  · rw [has_ins]
    exact ⟨fun a => a.resolve_right (fun e => hz e.symm), fun a => .inl a⟩
  · rw [has_ins]
    exact ⟨fun _ => rfl, fun _ => .inr rfl⟩
  · constructor
    · intro e; cases e; exact absurd rfl hj
    · intro e; rw [hwl] at e; cases e
  · show s.wa + 1 + (s.wt i).length = s.wa + (insAt (s.wt i) p r).length
    rw [len_insAt]; omega
  · subst e
    have ht' : tb' r.y = none := ht'
    rw [ht'] at ht
    cases ht

theorem inv_take (h : Inv E X s) (hi : i < 3) {r : Req} {wt : List Req} (hw : s.wt i = r :: wt) (hE : E i) : Inv E X (St.setT (s.setQ i (s.gr i) wt s.lo (s.wa - 1)) r.y (s.hl r.y) none) := by
  have ok := h.qok i hi
  rw [hw] at ok
  have hy := (ok.wlt r (by simp)).1
  have hnd := ok.wnd
  rw [List.map_cons, List.nodup_cons] at hnd
  have hno : has wt r.y = false := by
    cases hc : has wt r.y with
    | false => rfl
    | true => exact absurd (has_mem.1 hc) hnd.1
  have hwl : s.wl r.y = some i := (h.wait i hi r.y hy).1 (by rw [hw]; exact (has_cons _ _ _).2 (.inl rfl))
  refine h.step (y := r.y) (hl' := s.hl r.y) (wl' := none) hi (fun j => rfl) (fun j => rfl) (fun j => rfl) (fun j => rfl) ⟨ok.gnd, ok.glt, hnd.2, fun q hq => ok.wlt q (by simp [hq]), fun q hq => ok.upg q (by simp [hq])⟩
    (fun z _ hz => ⟨Iff.rfl, ?_⟩) (fun _ => h.hold i hi r.y hy) (fun _ j _ hj => Iff.rfl) (fun _ => h.hnd r.y hy) (fun _ => ?_) (fun _ j _ hj => ?_) (fun _ j e => by cases e)
    (fun hE' _ => absurd hE hE') (fun _ _ _ e => e) rfl ?_ (fun j hj hq' => ⟨fun e => ?_, fun _ => hq'⟩) (fun z hz hX ht' => ⟨fun e => ?_, fun e => ⟨hX, ht'⟩⟩)
  · rw [hw, has_cons]
    exact ⟨fun a => .inr a, fun a => a.resolve_left (fun e => hz e.symm)⟩
  · rw [hno]
    exact ⟨fun a => (by cases a), fun a => (by cases a)⟩
  · constructor
    · intro e; cases e
    · intro e; rw [hwl] at e; cases e; exact absurd rfl hj
  · show s.wa - 1 + (s.wt i).length = s.wa + wt.length
    have := h.wa1 hi (by rw [hw]; simp)
    rw [hw, List.length_cons]; omega
  · subst e
    have := (h.qn _ hj hq').2
    rw [hw] at this
    cases this
  · subst e
    have := (h.tn _ hz hX ht').2
    rw [hwl] at this
    cases this

theorem inv_remove (h : Inv E X s) (hi : i < 3) {k y : Nat} {r : Req} (hk : (s.gr i)[k]? = some r) (hry : r.y = y) (hwl : s.wl y = none) :
    Inv (fun j => E j ∨ j = i) X (St.setT (s.setQ i ((s.gr i).eraseIdx k) (s.wt i) (s.lo - if (s.gr i).length = 1 then 1 else 0) s.wa) y ((s.hl y).erase i) (s.wl y)) := by
  have ok := h.qok i hi
  have hr : r ∈ s.gr i := List.mem_of_getElem? hk
  have hy : y < 4 := by rw [← hry]; exact (ok.glt r hr).1
  have hg : s.gr i ≠ [] := fun e => by rw [e] at hr; cases hr
  have hh := has_erase hk ok.gnd
  have hnd := (h.hnd y hy).1
  have hnw : ∀ q ∈ s.wt i, q.y ≠ y := fun q hq e => by
    have : has (s.wt i) y = true := has_iff.2 ⟨q, hq, e⟩
    have := (h.wait i hi y hy).1 this
    rw [hwl] at this; cases this
  refine h.step (y := y) (hl' := (s.hl y).erase i) (wl' := s.wl y) hi (fun j => rfl) (fun j => rfl) (fun j => rfl) (fun j => rfl) ⟨nodup_erase ok.gnd, fun q hq => ok.glt q (mem_eraseIdx' hq), ok.wnd, ok.wlt, fun q hq => ⟨?_, (ok.upg q hq).2⟩⟩
    (fun z _ hz => ⟨?_, Iff.rfl⟩) (fun _ => ?_) (fun _ j _ hj => ?_) (fun _ => ⟨hnd.erase i, fun j hj => (h.hnd y hy).2 j (List.mem_of_mem_erase hj)⟩) (fun _ => h.wait i hi y hy) (fun _ j _ hj => Iff.rfl) (fun _ => h.wl3 y hy)
    (fun hE' _ => absurd (.inr rfl) hE') (fun _ _ _ e => .inl e) ?_ rfl (fun j hj hq' => ⟨fun e => by subst e; exact absurd (h.qn _ hj hq').1 hg, fun _ => hq'⟩) (fun z hz hX ht' => ⟨fun e => ?_, fun e => ⟨hX, ht'⟩⟩)
  · rw [hh, (ok.upg q hq).1, hry]
    exact ⟨fun a => ⟨a, hnw q hq⟩, fun a => a.1⟩
  · rw [hh, hry]
    exact ⟨fun a => a.1, fun a => ⟨a, hz⟩⟩
  · rw [hh, hry, hnd.mem_erase_iff]
    exact ⟨fun a => absurd rfl a.2, fun a => absurd rfl a.1⟩
  · rw [hnd.mem_erase_iff]
    exact ⟨fun a => a.2, fun a => ⟨hj, a⟩⟩
  · show (s.lo - if (s.gr i).length = 1 then 1 else 0) + ne (s.gr i) = s.lo + ne ((s.gr i).eraseIdx k)
    have h1 := h.lo1 hi hg
    have hkl := (List.getElem?_eq_some_iff.1 hk).1
    have hlen : ((s.gr i).eraseIdx k).length = (s.gr i).length - 1 := by rw [List.length_eraseIdx, if_pos hkl]
    have e1 : ne (s.gr i) = 1 := by simp [ne, hg]
    by_cases hc : (s.gr i).length = 1
    · have : (s.gr i).eraseIdx k = [] := List.length_eq_zero_iff.1 (by rw [hlen, hc])
      rw [if_pos hc, e1, this]
      simp [ne]; omega
    · have : (s.gr i).eraseIdx k ≠ [] := fun e => by rw [e] at hlen; simp at hlen; omega
      rw [if_neg hc, e1]
      simp [ne, this]
  · subst e
    have := (h.tn _ hz hX ht').1
    have hm : i ∈ s.hl z := (h.hold i hi z hz).1 (has_iff.2 ⟨r, hr, hry⟩)
    rw [this] at hm
    cases hm

end

end Go.Proofs.YbulkbcpiDoor.rel
