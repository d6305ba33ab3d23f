/-
  Seat b2686aD: one grant out of the queue.
-/
import Derived.Test.YbulkbcpiDoorRGs
namespace Go.Proofs.YbulkbcpiDoor.rel
open Go.RowKit

/-- s2 is s1 with y granted on i. -/
structure GP (s1 s2 : St) (i y : Nat) : Prop where
  gr : ∀ j, j < 3 → ∀ z, (has (s2.gr j) z = true ↔ has (s1.gr j) z = true ∨ (j = i ∧ z = y))
  wl : s2.wl = s1.wl
  wt : s2.wt = s1.wt
  wa : s2.wa = s1.wa
  qb : s2.qb = s1.qb

theorem gp_gs {E X : Nat → Prop} {s s2 : St} {i : Nat} {r : Req} {wt : List Req} (I : Inv E X s) (hi : i < 3) (hw : s.wt i = r :: wt) (g : GP (St.setT (s.setQ i (s.gr i) wt s.lo (s.wa - 1)) r.y (s.hl r.y) none) s2 i r.y) : Gs s s2 [(r.y, i)] := by
  have ok := I.qok i hi
  rw [hw] at ok
  have hy := (ok.wlt r (by simp)).1
  have hwl : s.wl r.y = some i := (I.wait i hi r.y hy).1 (by rw [hw]; exact (has_cons _ _ _).2 (.inl rfl))
  have hgr : ∀ j, (St.setT (s.setQ i (s.gr i) wt s.lo (s.wa - 1)) r.y (s.hl r.y) none).gr j = s.gr j := fun j => by
    show (if j = i then s.gr i else s.gr j) = s.gr j
    split
    · next e => rw [e]
    · rfl
  refine ⟨fun j hj z _ h => (g.gr j hj z).2 (.inl (by rw [hgr]; exact h)), fun j hj z _ h => ?_, fun p hp => ?_, by simp, fun z hz hn => ?_, ?_⟩
  · rcases (g.gr j hj z).1 h with h | ⟨rfl, rfl⟩
    · exact .inl (by rw [hgr] at h; exact h)
    · exact .inr (by simp)
  · simp at hp
    subst hp
    refine ⟨hy, hi, hwl, (g.gr i hi r.y).2 (.inr ⟨rfl, rfl⟩), ?_⟩
    rw [g.wl]
    show (if r.y = r.y then none else s.wl r.y) = none
    simp
  · simp at hn
    rw [g.wl]
    show (if z = r.y then none else s.wl z) = s.wl z
    rw [if_neg hn]
  · rw [g.wa]
    show s.wa - 1 + [(r.y, i)].length = s.wa
    have := I.wa1 hi (by rw [hw]; simp)
    simp
    omega

section
variable {ow : Nat → Option Nat} {w : World} {M qm tm : Nat} {s : St} {i b : Nat} {E : Nat → Prop}

def GQ1 (ow : Nat → Option Nat) (w : World) (M qm tm : Nat) (E : Nat → Prop) (s : St) (i y : Nat) (w' : World) : Prop := ∃ s2, To ow w M qm tm s s2 w' ∧ Inv E NoE s2 ∧ GP s s2 i y

theorem grantQ (h : Rep ow w M qm tm s) (I : Inv E NoE s) (hi : i < 3) (hb : s.qb i = some b) (r : Req) (hy : r.y < 4) (hm : r.m < 2) (hu : r.u = true ↔ has (s.gr i) r.y = true) (hum : r.u = true → r.m = 1) (hwl : s.wl r.y = none) {t : Nat} (ht : s.tb r.y = some t) :
    Calls Ybad.prog 38 #[.pointer (some ⟨M, 0, none⟩), .pointer (some ⟨b, 0, none⟩), .pointer (some ⟨t, 0, none⟩), .agg #[.int .i64 (r.y : Int), .int .i64 (r.m : Int), .bool r.u, .bool false]] w fun e w' => e = .returned (.tuple #[]) ∧ GQ1 ow w M qm tm E s i r.y w' := by
  have ok := I.qok i hi
  obtain ⟨y, m, u⟩ := r
  simp only at hy hm hu hum hwl ht ⊢
  cases u with
  | true =>
    have hm1 : m = 1 := hum rfl
    subst hm1
    have hh := hu.1 rfl
    refine (grantU h hi hb y (.pointer (some ⟨t, 0, none⟩)) hh (fun r hr => (ok.glt r hr).2) (by have := ok.len; omega)).mono ?_
    rintro e w' ⟨rfl, k, r, e1, e2, to⟩
    refine ⟨rfl, _, to, inv_grantU I hi e1, ⟨fun j hj z => ?_, rfl, ?_, rfl, rfl⟩⟩
    · show has (if j = i then (s.gr i).set k ⟨r.y, 1, r.u⟩ else s.gr j) z = true ↔ _
      by_cases e : j = i
      · subst e
        rw [if_pos rfl, has_mem, map_set e1, ← has_mem]
        constructor
        · exact fun a => .inl a
        · rintro (a | ⟨_, rfl⟩)
          · exact a
          · exact hh
      · rw [if_neg e]
        exact ⟨fun a => .inl a, fun a => a.resolve_right (fun c => e c.1)⟩
    · funext j
      show (if j = i then s.wt i else s.wt j) = s.wt j
      split
      · next e => rw [e]
      · rfl
  | false =>
    have hno : has (s.gr i) y = false := by
      cases hc : has (s.gr i) y with
      | false => rfl
      | true => have := hu.2 hc; cases this
    have := grantN h hi hb y m hy hm (fun e => by rw [ht] at e; cases e) (by have := ok.len; omega) (by have := I.lo3; omega) (by have := I.hl3 hy; omega)
    rw [ht] at this
    refine this.mono ?_
    rintro e w' ⟨rfl, tb', st', to, t1, t2⟩
    refine ⟨rfl, _, to, inv_grantN (r := ⟨y, m, false⟩) I hi hy hm hno hwl (by rw [hb]; simp) t1 t2, ⟨fun j hj z => ?_, ?_, ?_, rfl, rfl⟩⟩
    · show has (if j = i then s.gr i ++ [⟨y, m, false⟩] else s.gr j) z = true ↔ _
      by_cases e : j = i
      · subst e
        rw [if_pos rfl, has_app]
        exact ⟨fun a => a.elim .inl (fun c => .inr ⟨rfl, c.symm⟩), fun a => a.elim .inl (fun c => .inr c.2.symm)⟩
      · rw [if_neg e]
        exact ⟨fun a => .inl a, fun a => a.resolve_right (fun c => e c.1)⟩
    · funext z
      show (if z = y then s.wl y else s.wl z) = s.wl z
      split
      · next e => rw [e]
      · rfl
    · funext j
      show (if j = i then s.wt i else s.wt j) = s.wt j
      split
      · next e => rw [e]
      · rfl

/-- 't.waiting = t.waiting[:0]'. -/
theorem tx_zero {t : Nat} {hd wt : List Nat} {hv : Value} {xa : Option Addr} {n xc : Nat} (x : Tx ow w t hd wt hv (.slice xa n xc)) (hf : Fresh ow w) : Fr ow w ow (w.setCell ⟨t, 1, none⟩ (.slice xa 0 xc)) [t] ∧ Tx ow (w.setCell ⟨t, 1, none⟩ (.slice xa 0 xc)) t hd [] hv (.slice xa 0 xc) := by
  have f : Fr ow w ow (w.setCell ⟨t, 1, none⟩ (.slice xa 0 xc)) [t] := (Fr.refl hf [t]).setCell (.inr ⟨t, x.own, by simp⟩) _ _
  have hob : (Value.slice xa 0 xc).ownBlock = (Value.slice xa n xc).ownBlock := by cases xa <;> rfl
  refine ⟨f, ⟨?_, x.own, ownsRow_same x.hrow (fun g e => hset_other _ _ _ (x.ne_row (.inl e))), x.hown, ?_, fun g e => x.wown g (by rw [← hob]; exact e), fun g e e2 => x.ne g e (by rw [← hob]; exact e2)⟩⟩
  · rw [hset_same x.blk]; rfl
  · refine ⟨by simp, ?_⟩
    rcases x.wrow.2 with ⟨e, h0⟩ | ⟨g, cap, cur, e, h1, h2, h3, h4, h5, h6⟩
    · cases e; exact .inl ⟨rfl, rfl⟩
    · cases e
      refine .inr ⟨g, xc, cur, rfl, h1, ?_, Nat.zero_le _, h4, h5, by simp⟩
      rw [hset_other _ _ _ (x.ne_row (.inr rfl))]
      exact h2

theorem inv_exit (I : Inv E NoE s) (hi : i < 3) (hstop : s.gr i = [] → s.wt i = []) : Inv (fun j => E j ∧ j ≠ i) NoE s := by
  refine I.frame rfl rfl rfl rfl rfl rfl (fun j hj hE hg => ?_) I.qn I.tn
  by_cases e : j = i
  · subst e; exact hstop hg
  · exact I.emp j hj (fun h => hE ⟨h, e⟩) hg

theorem may_nil (I : Inv E NoE s) (hi : i < 3) {r : Req} {wt : List Req} (hw : s.wt i = r :: wt) (hm : may (s.gr i) r = false) : s.gr i ≠ [] := by
  intro hg
  have ok := I.qok i hi
  rw [hw, hg] at ok
  have hu : r.u = false := by
    cases hc : r.u with
    | false => rfl
    | true => have := (ok.upg r (by simp)).1.1 hc; cases this
  rw [hg] at hm
  unfold may at hm
  rw [hu] at hm
  simp [cnt, okz] at hm

end

end Go.Proofs.YbulkbcpiDoor.rel
