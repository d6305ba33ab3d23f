/-
  Seat b2686aD: what a run of grants does, with no Go in sight; the row of grants and its frame.
-/
import Derived.Test.YbulkbcpiDoorRAcq2
namespace Go.Proofs.YbulkbcpiDoor.rel
open Go.RowKit

/-- From s to s' the grants gs (transaction, item) were made. -/
structure Gs (s s' : St) (gs : List (Nat × Nat)) : Prop where
  mono : ∀ i, i < 3 → ∀ z, z < 4 → has (s.gr i) z = true → has (s'.gr i) z = true
  new : ∀ i, i < 3 → ∀ z, z < 4 → has (s'.gr i) z = true → has (s.gr i) z = true ∨ (z, i) ∈ gs
  each : ∀ p ∈ gs, p.1 < 4 ∧ p.2 < 3 ∧ s.wl p.1 = some p.2 ∧ has (s'.gr p.2) p.1 = true ∧ s'.wl p.1 = none
  nd : (gs.map Prod.fst).Nodup
  rest : ∀ y, y < 4 → y ∉ gs.map Prod.fst → s'.wl y = s.wl y
  cnt : s'.wa + gs.length = s.wa

theorem Gs.refl (s : St) : Gs s s [] := ⟨fun _ _ _ _ h => h, fun _ _ _ _ h => .inl h, fun p h => (by cases h), List.nodup_nil, fun _ _ _ => rfl, rfl⟩

theorem Gs.trans {s s1 s2 : St} {gs hs : List (Nat × Nat)} (a : Gs s s1 gs) (b : Gs s1 s2 hs) : Gs s s2 (gs ++ hs) := by
  have dis : ∀ p ∈ gs, p.1 ∉ hs.map Prod.fst := fun p hp hm => by
    rw [List.mem_map] at hm
    obtain ⟨q, hq, e⟩ := hm
    have h1 := (a.each p hp).2.2.2.2
    have h2 := (b.each q hq).2.2.1
    rw [e, h1] at h2
    cases h2
  have dis2 : ∀ q ∈ hs, q.1 ∉ gs.map Prod.fst := fun q hq hm => by
    rw [List.mem_map] at hm
    obtain ⟨p, hp, e⟩ := hm
    exact dis p hp (by rw [e]; exact List.mem_map.2 ⟨q, hq, rfl⟩)
  refine ⟨fun i hi z hz h => b.mono i hi z hz (a.mono i hi z hz h), fun i hi z hz h => ?_, fun p hp => ?_, ?_, fun y hy hn => ?_, ?_⟩
  · rcases b.new i hi z hz h with h | h
    · rcases a.new i hi z hz h with h | h
      · exact .inl h
      · exact .inr (by simp [h])
    · exact .inr (by simp [h])
  · rw [List.mem_append] at hp
    rcases hp with hp | hp
    · obtain ⟨h1, h2, h3, h4, h5⟩ := a.each p hp
      exact ⟨h1, h2, h3, b.mono _ h2 _ h1 h4, by rw [b.rest _ h1 (dis p hp)]; exact h5⟩
    · obtain ⟨h1, h2, h3, h4, h5⟩ := b.each p hp
      exact ⟨h1, h2, by rw [← a.rest _ h1 (dis2 p hp)]; exact h3, h4, h5⟩
  · rw [List.map_append, List.nodup_append]
    refine ⟨a.nd, b.nd, fun x hx y hy e => ?_⟩
    subst e
    rw [List.mem_map] at hx
    obtain ⟨p, hp, rfl⟩ := hx
    exact dis p hp hy
  · rw [List.map_append, List.mem_append] at hn
    rw [b.rest y hy (fun h => hn (.inr h)), a.rest y hy (fun h => hn (.inl h))]
  · have := a.cnt
    have := b.cnt
    rw [List.length_append]
    omega

/-! ### the manager under frames that keep all that is owned -/
section
variable {ow : Nat → Option Nat} {w w' : World} {M qm tm : Nat} {s : St}

theorem Qu.on {b : Nat} {nm gr wt tp gv wv} (h : Qu ow w b nm gr wt tp gv wv) (k : ∀ g x, g < w.heap.size → ow g = some x → w'.heap[g]? = w.heap[g]?) : Qu ow w' b nm gr wt tp gv wv :=
  ⟨by rw [k b b (heap_lt h.blk) h.own]; exact h.blk, h.own, ownsRow_same h.grow (fun g hg => k g b (ownsRow_lt h.grow hg) (h.gown g hg)), h.gown, h.wrow.same (fun g hg => k g b (h.wrow.lt hg) (h.wown g hg)), h.wown, h.ne⟩

theorem Tx.on {b : Nat} {hd wt hv wv} (h : Tx ow w b hd wt hv wv) (k : ∀ g x, g < w.heap.size → ow g = some x → w'.heap[g]? = w.heap[g]?) : Tx ow w' b hd wt hv wv :=
  ⟨by rw [k b b (heap_lt h.blk) h.own]; exact h.blk, h.own, ownsRow_same h.hrow (fun g hg => k g b (ownsRow_lt h.hrow hg) (h.hown g hg)), h.hown, ownsRow_same h.wrow (fun g hg => k g b (ownsRow_lt h.wrow hg) (h.wown g hg)), h.wown, h.ne⟩

theorem Rep.on (h : Rep ow w M qm tm s) (hs : w.heap.size ≤ w'.heap.size) (k : ∀ g x, g < w.heap.size → ow g = some x → w'.heap[g]? = w.heap[g]?) : Rep ow w' M qm tm s := by
  obtain ⟨sqv, stv, mg, ⟨r1, o1⟩, ⟨r2, o2⟩⟩ := h.mg
  exact ⟨fun j hj => h.fresh j (by omega), h.oM, h.oq, h.ot, h.tq,
    ⟨sqv, stv, (by unfold Mg at mg ⊢; rw [k M M (heap_lt mg) h.oM]; exact mg), ⟨ownsRow_same r1 (fun g hg => k g qm (ownsRow_lt r1 hg) (o1 g hg)), o1⟩, ⟨ownsRow_same r2 (fun g hg => k g tm (ownsRow_lt r2 hg) (o2 g hg)), o2⟩⟩,
    h.pq.same (k qm qm h.pq.lt h.oq), h.pt.same (k tm tm h.pt.lt h.ot),
    fun i hi b hb => by obtain ⟨gv, wv, q⟩ := h.qs i hi b hb; exact ⟨gv, wv, q.on k⟩,
    fun y hy b hb => by obtain ⟨gv, wv, q⟩ := h.ts y hy b hb; exact ⟨gv, wv, q.on k⟩,
    fun b hb => by obtain ⟨gv, wv, q⟩ := h.sqs b hb; exact ⟨gv, wv, q.on k⟩,
    fun b hb => by obtain ⟨gv, wv, q⟩ := h.sts b hb; exact ⟨gv, wv, q.on k⟩,
    h.qinj, h.tinj, h.sqn, h.stn, h.qsp, h.tsp, h.sql, h.stl⟩

end

/-- The frame of a call that also appends onto the row v of nobody's. -/
structure FrG (ow : Nat → Option Nat) (w : World) (ow' : Nat → Option Nat) (w' : World) (M qm tm : Nat) (s s' : St) (v v' : Value) : Prop where
  os : w'.os = w.os
  tape : w'.tape = w.tape
  output : w'.output = w.output
  size : w.heap.size ≤ w'.heap.size
  old : ∀ k, k < w.heap.size → ow' k = ow k
  keep : ∀ k, k < w.heap.size → v.ownBlock ≠ some k → (ow k = none ∨ ∃ x, ow k = some x ∧ x < w.heap.size ∧ x ∉ dom M qm tm s) → w'.heap[k]? = w.heap[k]?
  dm : ∀ x, x < w.heap.size → x ∉ dom M qm tm s → x ∉ dom M qm tm s'
  pos : ∀ g, v'.ownBlock = some g → (v.ownBlock = some g ∨ w.heap.size ≤ g) ∧ ow' g = none

section
variable {ow ow1 ow2 : Nat → Option Nat} {w w1 w2 : World} {M qm tm : Nat} {s s1 s2 : St} {v v1 v2 : Value}

theorem FrG.refl (ow : Nat → Option Nat) (w : World) (M qm tm : Nat) (s : St) {v : Value} (hv : ∀ g, v.ownBlock = some g → ow g = none) : FrG ow w ow w M qm tm s s v v := ⟨rfl, rfl, rfl, Nat.le_refl _, fun _ _ => rfl, fun _ _ _ _ => rfl, fun _ _ h => h, fun g e => ⟨.inl e, hv g e⟩⟩

/-- Behind a call that leaves the row alone. -/
theorem FrG.frx (h : FrG ow w ow1 w1 M qm tm s s1 v v1) (hl : ∀ g, v1.ownBlock = some g → g < w1.heap.size) (k : FrX ow1 w1 ow2 w2 M qm tm s1 s2) : FrG ow w ow2 w2 M qm tm s s2 v v1 := by
  have := h.size
  refine ⟨k.os.trans h.os, k.tape.trans h.tape, k.output.trans h.output, Nat.le_trans h.size k.size, fun j hj => (k.old j (by omega)).trans (h.old j hj), fun j hj hv hs => ?_, fun x hx hn => k.dm x (by omega) (h.dm x hx hn), fun g e => ⟨(h.pos g e).1, by rw [k.old g (hl g e)]; exact (h.pos g e).2⟩⟩
  rw [k.keep j (by omega) ?_, h.keep j hj hv hs]
  rw [h.old j hj]
  rcases hs with hs | ⟨x, e, hx, hn⟩
  · exact .inl hs
  · exact .inr ⟨x, e, by omega, h.dm x hx hn⟩

/-- Behind an append onto the row. -/
theorem FrG.grown (h : FrG ow w ow1 w1 M qm tm s s1 v v1) (hf : Fresh ow1 w1) (hg : w1.grownBy w2 v1.ownBlock) (hp : ∀ g, v2.ownBlock = some g → v1.ownBlock = some g ∨ w1.heap.size ≤ g) : FrG ow w ow1 w2 M qm tm s s1 v v2 := by
  have hs := h.size
  have hs2 := hg.size
  refine ⟨hg.os.trans h.os, hg.tape.trans h.tape, hg.output.trans h.output, by omega, h.old, fun j hj hv hk => ?_, h.dm, fun g e => ?_⟩
  · rw [hg.block j (by omega) (fun e => ?_), h.keep j hj hv hk]
    rcases (h.pos j e.symm).1 with e1 | e1
    · exact hv e1
    · omega
  · rcases hp g e with e1 | e1
    · exact h.pos g e1
    · exact ⟨.inr (by omega), hf g e1⟩

theorem FrG.trans (h : FrG ow w ow1 w1 M qm tm s s1 v v1) (k : FrG ow1 w1 ow2 w2 M qm tm s1 s2 v1 v2) : FrG ow w ow2 w2 M qm tm s s2 v v2 := by
  have := h.size
  refine ⟨k.os.trans h.os, k.tape.trans h.tape, k.output.trans h.output, Nat.le_trans h.size k.size, fun j hj => (k.old j (by omega)).trans (h.old j hj), fun j hj hv hs => ?_, fun x hx hn => k.dm x (by omega) (h.dm x hx hn), fun g e => ?_⟩
  · have h1 : v1.ownBlock ≠ some j := fun e => by
      rcases (h.pos j e).1 with e1 | e1
      · exact hv e1
      · omega
    rw [k.keep j (by omega) h1 ?_, h.keep j hj hv hs]
    rw [h.old j hj]
    rcases hs with hs | ⟨x, e, hx, hn⟩
    · exact .inl hs
    · exact .inr ⟨x, e, by omega, h.dm x hx hn⟩
  · obtain ⟨a, b⟩ := k.pos g e
    refine ⟨?_, b⟩
    rcases a with a | a
    · exact (h.pos g a).1
    · exact .inr (by omega)

theorem FrG.nil (h : FrG ow w ow1 w1 M qm tm s s1 (.slice none 0 0) v1) : FrX ow w ow1 w1 M qm tm s s1 := ⟨h.os, h.tape, h.output, h.size, h.old, fun k hk hs => h.keep k hk (fun e => by cases e) hs, h.dm⟩

end

/-! ### the row of grants -/

def gc (p : Nat × Nat) : List Value := [.int .i64 (p.1 : Int), .string (name p.2)]
def gcs (gs : List (Nat × Nat)) : List Value := gs.flatMap gc

theorem gcs_app (gs hs : List (Nat × Nat)) : gcs (gs ++ hs) = gcs gs ++ gcs hs := by simp [gcs]
theorem gcs_one (p : Nat × Nat) : gcs [p] = gc p := by simp [gcs]

def GRow (w : World) (v : Value) (gs : List (Nat × Nat)) : Prop := w.ownsRow 0 50 2 v gs.length (gcs gs)

theorem GRow.form {w : World} {v : Value} {gs : List (Nat × Nat)} (h : GRow w v gs) : ∃ a c, v = .slice a gs.length c := by
  rcases h.2 with ⟨rfl, h0⟩ | ⟨g, cap, cur, rfl, _⟩
  · exact ⟨none, 0, by rw [h0]⟩
  · exact ⟨_, cap, rfl⟩

theorem GRow.same {w w' : World} {v : Value} {gs : List (Nat × Nat)} (h : GRow w v gs) (hb : ∀ g, v.ownBlock = some g → w'.heap[g]? = w.heap[g]?) : GRow w' v gs := ownsRow_same h hb

theorem GRow.lt {w : World} {v : Value} {gs : List (Nat × Nat)} (h : GRow w v gs) {g : Nat} (hg : v.ownBlock = some g) : g < w.heap.size := ownsRow_lt h hg

end Go.Proofs.YbulkbcpiDoor.rel
