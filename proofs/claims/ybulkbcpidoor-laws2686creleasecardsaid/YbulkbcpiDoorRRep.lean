/-
  Seat b2686aD: the whole manager in memory.
-/
import Derived.Test.YbulkbcpiDoorRInw
import Derived.Test.YbulkbcpiDoorRGrable
import Derived.Test.YbulkbcpiDoorRBlk2
namespace Go.Proofs.YbulkbcpiDoor.rel
open Go.RowKit

/-- The state: blocks of live queues (by item) and records (by transaction), the spare ones; the requests; what each transaction holds and waits for; the tally. -/
structure St : Type where
  qb : Nat → Option Nat
  tb : Nat → Option Nat
  sq : List Nat
  st : List Nat
  gr : Nat → List Req
  wt : Nat → List Req
  hl : Nat → List Nat
  wl : Nat → Option Nat
  lo : Nat
  wa : Nat

def blk (f : Nat → Option Nat) (i : Nat) : Nat := (f i).getD 0

def dom (M qm tm : Nat) (s : St) : List Nat := [M, qm, tm] ++ (List.range 3).filterMap s.qb ++ (List.range 4).filterMap s.tb ++ s.sq ++ s.st

theorem mem_dom {M qm tm : Nat} {s : St} {x : Nat} : x ∈ dom M qm tm s ↔ x = M ∨ x = qm ∨ x = tm ∨ (∃ i, i < 3 ∧ s.qb i = some x) ∨ (∃ y, y < 4 ∧ s.tb y = some x) ∨ x ∈ s.sq ∨ x ∈ s.st := by
  unfold dom
  simp only [List.mem_append, List.mem_cons, List.not_mem_nil, or_false, List.mem_filterMap, List.mem_range]
  constructor
  · rintro (((((h | h | h) | ⟨i, hi, h⟩) | ⟨y, hy, h⟩) | h) | h)
    · exact .inl h
    · exact .inr (.inl h)
    · exact .inr (.inr (.inl h))
    · exact .inr (.inr (.inr (.inl ⟨i, hi, h⟩)))
    · exact .inr (.inr (.inr (.inr (.inl ⟨y, hy, h⟩))))
    · exact .inr (.inr (.inr (.inr (.inr (.inl h)))))
    · exact .inr (.inr (.inr (.inr (.inr (.inr h)))))
  · rintro (h | h | h | ⟨i, hi, h⟩ | ⟨y, hy, h⟩ | h | h)
    · exact .inl (.inl (.inl (.inl (.inl h))))
    · exact .inl (.inl (.inl (.inl (.inr (.inl h)))))
    · exact .inl (.inl (.inl (.inl (.inr (.inr h)))))
    · exact .inl (.inl (.inl (.inr ⟨i, hi, h⟩)))
    · exact .inl (.inl (.inr ⟨y, hy, h⟩))
    · exact .inl (.inr h)
    · exact .inr h

def emptyB : ByteArray := ⟨#[]⟩

/-- The memory holds the state. -/
structure Rep (ow : Nat → Option Nat) (w : World) (M qm tm : Nat) (s : St) : Prop where
  fresh : Fresh ow w
  oM : ow M = some M
  oq : ow qm = some qm
  ot : ow tm = some tm
  tq : tm ≠ qm
  mg : ∃ sqv stv, Mg w M qm tm s.lo s.wa sqv stv ∧ (w.ownsRow 0 64 1 sqv s.sq.length (s.sq.map qp) ∧ ∀ g, sqv.ownBlock = some g → ow g = some qm) ∧ (w.ownsRow 0 62 1 stv s.st.length (s.st.map qp) ∧ ∀ g, stv.ownBlock = some g → ow g = some tm)
  pq : PM w 9 qlit 3 qm s.qb
  pt : PM w 3 tlit 4 tm s.tb
  qs : ∀ i, i < 3 → ∀ b, s.qb i = some b → ∃ gv wv, Qu ow w b (name i) (s.gr i) (s.wt i) (tal M) gv wv
  ts : ∀ y, y < 4 → ∀ b, s.tb y = some b → ∃ hv wv, Tx ow w b ((s.hl y).map (blk s.qb)) ((s.wl y).toList.map (blk s.qb)) hv wv
  sqs : ∀ b ∈ s.sq, ∃ gv wv, Qu ow w b emptyB [] [] (.pointer none) gv wv
  sts : ∀ b ∈ s.st, ∃ hv wv, Tx ow w b [] [] hv wv
  qinj : ∀ i j b, i < 3 → j < 3 → s.qb i = some b → s.qb j = some b → i = j
  tinj : ∀ i j b, i < 4 → j < 4 → s.tb i = some b → s.tb j = some b → i = j
  sqn : s.sq.Nodup
  stn : s.st.Nodup
  qsp : ∀ i b, i < 3 → s.qb i = some b → b ∉ s.sq
  tsp : ∀ y b, y < 4 → s.tb y = some b → b ∉ s.st
  sql : s.sq.length ≤ 256
  stl : s.st.length ≤ 256

/-- What a call on the manager keeps: whatever is nobody's, and whatever belongs to an old block outside the state. -/
structure FrX (ow : Nat → Option Nat) (w : World) (ow' : Nat → Option Nat) (w' : World) (M qm tm : Nat) (s s' : St) : Prop where
  os : w'.os = w.os
  tape : w'.tape = w.tape
  output : w'.output = w.output
  size : w.heap.size ≤ w'.heap.size
  old : ∀ k, k < w.heap.size → ow' k = ow k
  keep : ∀ k, k < w.heap.size → (ow k = none ∨ ∃ x, ow k = some x ∧ x < w.heap.size ∧ x ∉ dom M qm tm s) → w'.heap[k]? = w.heap[k]?
  dm : ∀ x, x < w.heap.size → x ∉ dom M qm tm s → x ∉ dom M qm tm s'

theorem FrX.refl (ow : Nat → Option Nat) (w : World) (M qm tm : Nat) (s : St) : FrX ow w ow w M qm tm s s := ⟨rfl, rfl, rfl, Nat.le_refl _, fun _ _ => rfl, fun _ _ _ => rfl, fun _ _ h => h⟩

theorem FrX.trans {ow ow1 ow2 : Nat → Option Nat} {w w1 w2 : World} {M qm tm : Nat} {s s1 s2 : St} (h : FrX ow w ow1 w1 M qm tm s s1) (k : FrX ow1 w1 ow2 w2 M qm tm s1 s2) : FrX ow w ow2 w2 M qm tm s s2 := by
  have := h.size
  refine ⟨k.os.trans h.os, k.tape.trans h.tape, k.output.trans h.output, Nat.le_trans h.size k.size, fun j hj => (k.old j (by omega)).trans (h.old j hj), fun j hj hs => ?_, fun x hx hn => k.dm x (by omega) (h.dm x hx hn)⟩
  rw [k.keep j (by omega) ?_, h.keep j hj hs]
  rw [h.old j hj]
  rcases hs with hs | ⟨x, e, hx, hn⟩
  · exact .inl hs
  · exact .inr ⟨x, e, by omega, h.dm x hx hn⟩

theorem FrX.of {ow ow' : Nat → Option Nat} {w w' : World} {M qm tm : Nat} {s s' : St} {S : List Nat} (f : Fr ow w ow' w' S) (hS : ∀ x ∈ S, x ∈ dom M qm tm s ∨ w.heap.size ≤ x) (hd : ∀ x, x < w.heap.size → x ∉ dom M qm tm s → x ∉ dom M qm tm s') : FrX ow w ow' w' M qm tm s s' :=
  ⟨f.os, f.tape, f.output, f.size, f.old, fun k hk hs => f.keep k hk (fun x e hm => by
    rcases hs with h | ⟨x', e', hx', hn⟩
    · rw [h] at e; cases e
    · rw [e'] at e; cases e; rcases hS _ hm with h | h; exact hn h; exact absurd hx' (Nat.not_lt.2 h)), hd⟩

theorem FrX.cell {ow ow1 : Nat → Option Nat} {w w1 : World} {M qm tm : Nat} {s s' : St} (h : FrX ow w ow1 w1 M qm tm s s') {a : Addr} (ha : a.block < w.heap.size) (ho : ow a.block = none) : w1.cell? a = w.cell? a := World.cell?_of_block (h.keep _ ha (.inl ho))
theorem FrX.frozen {ow ow1 : Nat → Option Nat} {w w1 : World} {M qm tm : Nat} {s s' : St} (h : FrX ow w ow1 w1 M qm tm s s') {a : Addr} (ha : a.block < w.heap.size) (ho : ow a.block = none) : w1.frozen? a = w.frozen? a := World.frozen?_of_block (h.keep _ ha (.inl ho))

section
variable {ow ow' : Nat → Option Nat} {w w' : World} {M qm tm : Nat} {s : St}

theorem Qu.ne_mg {b : Nat} {nm gr wt tp gv wv lo wa sq st} (q : Qu ow w b nm gr wt tp gv wv) (mg : Mg w M qm tm lo wa sq st) : b ≠ M := by
  rintro rfl
  have := q.blk.symm.trans mg
  simp at this
theorem Tx.ne_mg {b : Nat} {hd wt hv wv lo wa sq st} (q : Tx ow w b hd wt hv wv) (mg : Mg w M qm tm lo wa sq st) : b ≠ M := by
  rintro rfl
  have := q.blk.symm.trans mg
  simp at this
theorem Qu.ne_tx {b t : Nat} {nm gr wt tp gv wv hd wt' hv wv'} (q : Qu ow w b nm gr wt tp gv wv) (x : Tx ow w t hd wt' hv wv') : b ≠ t := by
  rintro rfl
  have := q.blk.symm.trans x.blk
  simp at this
theorem PM.blkne {kt lit N f b} (h : PM w kt lit N qm f) {cs : Array Value} {e : TypeId} {fz : Nat × Nat} (hb : w.heap[b]? = some (.cells cs e fz)) : b ≠ qm := by
  rintro rfl
  obtain ⟨n, D, ⟨es, clock, h1, _⟩, _⟩ := h.ex
  rw [h1] at hb
  cases hb

/-- A frame that touches nothing of the state (allocations, draws). -/
theorem Rep.still (h : Rep ow w M qm tm s) (f : Fr ow w ow' w' []) : Rep ow' w' M qm tm s := by
  obtain ⟨sqv, stv, mg, ⟨r1, o1⟩, ⟨r2, o2⟩⟩ := h.mg
  have k : ∀ g, g < w.heap.size → w'.heap[g]? = w.heap[g]? := fun g hg => f.keep g hg (fun _ _ hm => by simp at hm)
  exact ⟨f.fresh0, by rw [f.old M (heap_lt mg)]; exact h.oM, by rw [f.old qm h.pq.lt]; exact h.oq, by rw [f.old tm h.pt.lt]; exact h.ot, h.tq,
    ⟨sqv, stv, mg.fr f h.oM (by simp), ⟨ownsRow_same r1 (fun g hg => k g (ownsRow_lt r1 hg)), fun g hg => by rw [f.old g (ownsRow_lt r1 hg)]; exact o1 g hg⟩, ⟨ownsRow_same r2 (fun g hg => k g (ownsRow_lt r2 hg)), fun g hg => by rw [f.old g (ownsRow_lt r2 hg)]; exact o2 g hg⟩⟩,
    h.pq.fr f h.oq (by simp), h.pt.fr f h.ot (by simp),
    fun i hi b hb => by obtain ⟨gv, wv, q⟩ := h.qs i hi b hb; exact ⟨gv, wv, q.fr f (by simp)⟩,
    fun y hy b hb => by obtain ⟨gv, wv, q⟩ := h.ts y hy b hb; exact ⟨gv, wv, q.fr f (by simp)⟩,
    fun b hb => by obtain ⟨gv, wv, q⟩ := h.sqs b hb; exact ⟨gv, wv, q.fr f (by simp)⟩,
    fun b hb => by obtain ⟨gv, wv, q⟩ := h.sts b hb; exact ⟨gv, wv, q.fr f (by simp)⟩,
    h.qinj, h.tinj, h.sqn, h.stn, h.qsp, h.tsp, h.sql, h.stl⟩

/-- One queue and the tally have turned. -/
theorem Rep.updQ (h : Rep ow w M qm tm s) {i b : Nat} (hi : i < 3) (hb : s.qb i = some b) (f : Fr ow w ow' w' [b, M]) {gr' wt' : List Req} {gv' wv' sqv stv : Value} {lo' wa' : Nat} (hmg0 : ∃ lo wa, Mg w M qm tm lo wa sqv stv)
    (q' : Qu ow' w' b (name i) gr' wt' (tal M) gv' wv') (mg' : Mg w' M qm tm lo' wa' sqv stv) :
    Rep ow' w' M qm tm { s with gr := fun j => if j = i then gr' else s.gr j, wt := fun j => if j = i then wt' else s.wt j, lo := lo', wa := wa' } := by
  obtain ⟨sqv0, stv0, mg, ⟨r1, o1⟩, ⟨r2, o2⟩⟩ := h.mg
  obtain ⟨gv, wv, q⟩ := h.qs i hi b hb
  obtain ⟨lo0, wa0, hmg⟩ := hmg0
  have hvv : sqv0 = sqv ∧ stv0 = stv := by
    have := mg.symm.trans hmg
    simp at this
    exact this.2.2
  obtain ⟨rfl, rfl⟩ := hvv
  have hbM := q.ne_mg mg
  have hqb : qm ≠ b := Ne.symm (h.pq.blkne q.blk)
  have htb : tm ≠ b := Ne.symm (h.pt.blkne q.blk)
  have hqM : qm ≠ M := Ne.symm (h.pq.blkne mg)
  have htM : tm ≠ M := Ne.symm (h.pt.blkne mg)
  have k : ∀ g x, g < w.heap.size → ow g = some x → x ≠ b → x ≠ M → w'.heap[g]? = w.heap[g]? := fun g x hg e h1 h2 => f.keep g hg (fun s es hm => by rw [e] at es; cases es; simp at hm; rcases hm with h | h; exact h1 h; exact h2 h)
  refine ⟨f.fresh0, by rw [f.old M (heap_lt mg)]; exact h.oM, by rw [f.old qm h.pq.lt]; exact h.oq, by rw [f.old tm h.pt.lt]; exact h.ot, h.tq,
    ⟨sqv0, stv0, mg', ⟨ownsRow_same r1 (fun g hg => k g qm (ownsRow_lt r1 hg) (o1 g hg) hqb hqM), fun g hg => by rw [f.old g (ownsRow_lt r1 hg)]; exact o1 g hg⟩, ⟨ownsRow_same r2 (fun g hg => k g tm (ownsRow_lt r2 hg) (o2 g hg) htb htM), fun g hg => by rw [f.old g (ownsRow_lt r2 hg)]; exact o2 g hg⟩⟩,
    h.pq.fr f h.oq (by simp [hqb, hqM]), h.pt.fr f h.ot (by simp [htb, htM]), ?_, ?_, ?_, ?_, h.qinj, h.tinj, h.sqn, h.stn, h.qsp, h.tsp, h.sql, h.stl⟩
  · intro j hj b' hb'
    by_cases e : j = i
    · subst e
      have : b' = b := by simp only at hb'; rw [hb] at hb'; cases hb'; rfl
      subst this
      simp only [if_true]
      exact ⟨gv', wv', q'⟩
    · simp only [if_neg e]
      obtain ⟨gv2, wv2, q2⟩ := h.qs j hj b' hb'
      refine ⟨gv2, wv2, q2.fr f ?_⟩
      have : b' ≠ b := fun e2 => e (h.qinj j i b hj hi (by rw [← e2]; exact hb') hb)
      simp [this, q2.ne_mg mg]
  · intro y hy t ht
    obtain ⟨hv, wv2, x⟩ := h.ts y hy t ht
    exact ⟨hv, wv2, x.fr f (by simp [Ne.symm (q.ne_tx x), x.ne_mg mg])⟩
  · intro b' hb'
    obtain ⟨gv2, wv2, q2⟩ := h.sqs b' hb'
    refine ⟨gv2, wv2, q2.fr f ?_⟩
    have : b' ≠ b := fun e2 => h.qsp i b hi hb (by rw [← e2]; exact hb')
    simp [this, q2.ne_mg mg]
  · intro t ht
    obtain ⟨hv, wv2, x⟩ := h.sts t ht
    exact ⟨hv, wv2, x.fr f (by simp [Ne.symm (q.ne_tx x), x.ne_mg mg])⟩

/-- One record has turned. -/
theorem Rep.updT (h : Rep ow w M qm tm s) {y t : Nat} (hy : y < 4) (ht : s.tb y = some t) (f : Fr ow w ow' w' [t]) {hl' : List Nat} {wl' : Option Nat} {hv' wv' : Value}
    (x' : Tx ow' w' t (hl'.map (blk s.qb)) (wl'.toList.map (blk s.qb)) hv' wv') :
    Rep ow' w' M qm tm { s with hl := fun j => if j = y then hl' else s.hl j, wl := fun j => if j = y then wl' else s.wl j } := by
  obtain ⟨sqv0, stv0, mg, ⟨r1, o1⟩, ⟨r2, o2⟩⟩ := h.mg
  obtain ⟨hv, wv, x⟩ := h.ts y hy t ht
  have htM := x.ne_mg mg
  have hqt : qm ≠ t := Ne.symm (h.pq.blkne x.blk)
  have htt : tm ≠ t := Ne.symm (h.pt.blkne x.blk)
  have k : ∀ g x, g < w.heap.size → ow g = some x → x ≠ t → w'.heap[g]? = w.heap[g]? := fun g x hg e h1 => f.keep g hg (fun s es hm => by rw [e] at es; cases es; simp at hm; exact h1 hm)
  refine ⟨f.fresh0, by rw [f.old M (heap_lt mg)]; exact h.oM, by rw [f.old qm h.pq.lt]; exact h.oq, by rw [f.old tm h.pt.lt]; exact h.ot, h.tq,
    ⟨sqv0, stv0, mg.fr f h.oM (by simp [Ne.symm htM]), ⟨ownsRow_same r1 (fun g hg => k g qm (ownsRow_lt r1 hg) (o1 g hg) hqt), fun g hg => by rw [f.old g (ownsRow_lt r1 hg)]; exact o1 g hg⟩, ⟨ownsRow_same r2 (fun g hg => k g tm (ownsRow_lt r2 hg) (o2 g hg) htt), fun g hg => by rw [f.old g (ownsRow_lt r2 hg)]; exact o2 g hg⟩⟩,
    h.pq.fr f h.oq (by simp [hqt]), h.pt.fr f h.ot (by simp [htt]), ?_, ?_, ?_, ?_, h.qinj, h.tinj, h.sqn, h.stn, h.qsp, h.tsp, h.sql, h.stl⟩
  · intro j hj b' hb'
    obtain ⟨gv2, wv2, q2⟩ := h.qs j hj b' hb'
    exact ⟨gv2, wv2, q2.fr f (by simp [q2.ne_tx x])⟩
  · intro y2 hy2 t2 ht2
    by_cases e : y2 = y
    · subst e
      have : t2 = t := by simp only at ht2; rw [ht] at ht2; cases ht2; rfl
      subst this
      simp only [if_true]
      exact ⟨hv', wv', x'⟩
    · simp only [if_neg e]
      obtain ⟨hv2, wv2, x2⟩ := h.ts y2 hy2 t2 ht2
      refine ⟨hv2, wv2, x2.fr f ?_⟩
      have : t2 ≠ t := fun e2 => e (h.tinj y2 y t hy2 hy (by rw [← e2]; exact ht2) ht)
      simp [this]
  · intro b' hb'
    obtain ⟨gv2, wv2, q2⟩ := h.sqs b' hb'
    exact ⟨gv2, wv2, q2.fr f (by simp [q2.ne_tx x])⟩
  · intro t2 ht2
    obtain ⟨hv2, wv2, x2⟩ := h.sts t2 ht2
    refine ⟨hv2, wv2, x2.fr f ?_⟩
    have : t2 ≠ t := fun e2 => h.tsp y t hy ht (by rw [← e2]; exact ht2)
    simp [this]

/-- The queues' map, the spare queues and one queue b (old or new) have turned. -/
theorem Rep.reQ (h : Rep ow w M qm tm s) {b : Nat} (f : Fr ow w ow' w' [M, qm, b]) {sqv sqv' stv : Value} (hmg0 : Mg w M qm tm s.lo s.wa sqv stv) {qb' : Nat → Option Nat} {sq' : List Nat}
    (mg' : Mg w' M qm tm s.lo s.wa sqv' stv) (row' : w'.ownsRow 0 64 1 sqv' sq'.length (sq'.map qp)) (own' : ∀ g, sqv'.ownBlock = some g → ow' g = some qm) (pq' : PM w' 9 qlit 3 qm qb')
    (live : ∀ j, j < 3 → ∀ c, qb' j = some c → (c = b ∧ ∃ gv wv, Qu ow' w' b (name j) (s.gr j) (s.wt j) (tal M) gv wv) ∨ (c ≠ b ∧ s.qb j = some c))
    (spare : ∀ c ∈ sq', (c = b ∧ ∃ gv wv, Qu ow' w' b emptyB [] [] (.pointer none) gv wv) ∨ (c ≠ b ∧ c ∈ s.sq))
    (hmap : ∀ y, y < 4 → ∀ t, s.tb y = some t → (s.hl y).map (blk qb') = (s.hl y).map (blk s.qb) ∧ (s.wl y).toList.map (blk qb') = (s.wl y).toList.map (blk s.qb))
    (hbt : ∀ y, y < 4 → s.tb y ≠ some b) (hbs : b ∉ s.st) (hbM : b ≠ M) (hbq : b ≠ qm) (hbT : b ≠ tm)
    (qinj : ∀ i j c, i < 3 → j < 3 → qb' i = some c → qb' j = some c → i = j) (sqn : sq'.Nodup) (qsp : ∀ i c, i < 3 → qb' i = some c → c ∉ sq') (sql : sq'.length ≤ 256) :
    Rep ow' w' M qm tm { s with qb := qb', sq := sq' } := by
  obtain ⟨sqv0, stv0, mg, ⟨r1, o1⟩, ⟨r2, o2⟩⟩ := h.mg
  have hvv : sqv0 = sqv ∧ stv0 = stv := by
    have := mg.symm.trans hmg0
    simp at this
    exact this
  obtain ⟨rfl, rfl⟩ := hvv
  have htM : tm ≠ M := Ne.symm (h.pt.blkne mg)
  have htq : tm ≠ qm := h.tq
  have k : ∀ g x, g < w.heap.size → ow g = some x → x ≠ M → x ≠ qm → x ≠ b → w'.heap[g]? = w.heap[g]? := fun g x hg e h1 h2 h3 => f.keep g hg (fun s es hm => by rw [e] at es; cases es; simp at hm; rcases hm with h | h | h; exact h1 h; exact h2 h; exact h3 h)
  refine ⟨f.fresh0, by rw [f.old M (heap_lt mg)]; exact h.oM, by rw [f.old qm h.pq.lt]; exact h.oq, by rw [f.old tm h.pt.lt]; exact h.ot, h.tq,
    ⟨sqv', stv0, mg', ⟨row', own'⟩, ⟨ownsRow_same r2 (fun g hg => k g tm (ownsRow_lt r2 hg) (o2 g hg) htM htq (Ne.symm hbT)), fun g hg => by rw [f.old g (ownsRow_lt r2 hg)]; exact o2 g hg⟩⟩,
    pq', h.pt.fr f h.ot (by simp [htM, htq, Ne.symm hbT]), ?_, ?_, ?_, ?_, qinj, h.tinj, sqn, h.stn, qsp, h.tsp, sql, h.stl⟩
  · intro j hj c hc
    rcases live j hj c hc with ⟨rfl, q⟩ | ⟨hne, ho⟩
    · exact q
    · obtain ⟨gv, wv, q⟩ := h.qs j hj c ho
      exact ⟨gv, wv, q.fr f (by simp [q.ne_mg mg, h.pq.blkne q.blk, hne])⟩
  · intro y hy t ht
    obtain ⟨hv, wv, x⟩ := h.ts y hy t ht
    refine ⟨hv, wv, ?_⟩
    rw [(hmap y hy t ht).1, (hmap y hy t ht).2]
    exact x.fr f (by simp [x.ne_mg mg, h.pq.blkne x.blk]; rintro rfl; exact hbt y hy ht)
  · intro c hc
    rcases spare c hc with ⟨rfl, q⟩ | ⟨hne, ho⟩
    · exact q
    · obtain ⟨gv, wv, q⟩ := h.sqs c ho
      exact ⟨gv, wv, q.fr f (by simp [q.ne_mg mg, h.pq.blkne q.blk, hne])⟩
  · intro t ht
    obtain ⟨hv, wv, x⟩ := h.sts t ht
    exact ⟨hv, wv, x.fr f (by simp [x.ne_mg mg, h.pq.blkne x.blk]; rintro rfl; exact hbs ht)⟩

/-- The records' map, the spare records and one record t (old or new) have turned. -/
theorem Rep.reT (h : Rep ow w M qm tm s) {t : Nat} (f : Fr ow w ow' w' [M, tm, t]) {sqv stv stv' : Value} (hmg0 : Mg w M qm tm s.lo s.wa sqv stv) {tb' : Nat → Option Nat} {st' : List Nat} {hl' : Nat → List Nat} {wl' : Nat → Option Nat}
    (mg' : Mg w' M qm tm s.lo s.wa sqv stv') (row' : w'.ownsRow 0 62 1 stv' st'.length (st'.map qp)) (own' : ∀ g, stv'.ownBlock = some g → ow' g = some tm) (pt' : PM w' 3 tlit 4 tm tb')
    (live : ∀ j, j < 4 → ∀ c, tb' j = some c → (c = t ∧ ∃ hv wv, Tx ow' w' t ((hl' j).map (blk s.qb)) ((wl' j).toList.map (blk s.qb)) hv wv) ∨ (c ≠ t ∧ s.tb j = some c ∧ hl' j = s.hl j ∧ wl' j = s.wl j))
    (spare : ∀ c ∈ st', (c = t ∧ ∃ hv wv, Tx ow' w' t [] [] hv wv) ∨ (c ≠ t ∧ c ∈ s.st))
    (hbt : ∀ i, i < 3 → s.qb i ≠ some t) (hbs : t ∉ s.sq) (hbM : t ≠ M) (hbq : t ≠ qm) (hbT : t ≠ tm)
    (tinj : ∀ i j c, i < 4 → j < 4 → tb' i = some c → tb' j = some c → i = j) (stn : st'.Nodup) (tsp : ∀ i c, i < 4 → tb' i = some c → c ∉ st') (stl : st'.length ≤ 256) :
    Rep ow' w' M qm tm { s with tb := tb', st := st', hl := hl', wl := wl' } := by
  obtain ⟨sqv0, stv0, mg, ⟨r1, o1⟩, ⟨r2, o2⟩⟩ := h.mg
  have hvv : sqv0 = sqv ∧ stv0 = stv := by
    have := mg.symm.trans hmg0
    simp at this
    exact this
  obtain ⟨rfl, rfl⟩ := hvv
  have hqM : qm ≠ M := Ne.symm (h.pq.blkne mg)
  have hqt : qm ≠ tm := fun e => h.tq e.symm
  have k : ∀ g x, g < w.heap.size → ow g = some x → x ≠ M → x ≠ tm → x ≠ t → w'.heap[g]? = w.heap[g]? := fun g x hg e h1 h2 h3 => f.keep g hg (fun s es hm => by rw [e] at es; cases es; simp at hm; rcases hm with h | h | h; exact h1 h; exact h2 h; exact h3 h)
  refine ⟨f.fresh0, by rw [f.old M (heap_lt mg)]; exact h.oM, by rw [f.old qm h.pq.lt]; exact h.oq, by rw [f.old tm h.pt.lt]; exact h.ot, h.tq,
    ⟨sqv0, stv', mg', ⟨ownsRow_same r1 (fun g hg => k g qm (ownsRow_lt r1 hg) (o1 g hg) hqM hqt (Ne.symm hbq)), fun g hg => by rw [f.old g (ownsRow_lt r1 hg)]; exact o1 g hg⟩, ⟨row', own'⟩⟩,
    h.pq.fr f h.oq (by simp [hqM, hqt, Ne.symm hbq]), pt', ?_, ?_, ?_, ?_, h.qinj, tinj, h.sqn, stn, h.qsp, tsp, h.sql, stl⟩
  · intro j hj c hc
    obtain ⟨gv, wv, q⟩ := h.qs j hj c hc
    exact ⟨gv, wv, q.fr f (by simp [q.ne_mg mg, h.pt.blkne q.blk]; rintro rfl; exact hbt j hj hc)⟩
  · intro y hy c hc
    rcases live y hy c hc with ⟨rfl, x⟩ | ⟨hne, ho, e1, e2⟩
    · exact x
    · obtain ⟨hv, wv, x⟩ := h.ts y hy c ho
      refine ⟨hv, wv, ?_⟩
      simp only [e1, e2]
      exact x.fr f (by simp [x.ne_mg mg, h.pt.blkne x.blk, hne])
  · intro c hc
    obtain ⟨gv, wv, q⟩ := h.sqs c hc
    exact ⟨gv, wv, q.fr f (by simp [q.ne_mg mg, h.pt.blkne q.blk]; rintro rfl; exact hbs hc)⟩
  · intro c hc
    rcases spare c hc with ⟨rfl, x⟩ | ⟨hne, ho⟩
    · exact x
    · obtain ⟨hv, wv, x⟩ := h.sts c ho
      exact ⟨hv, wv, x.fr f (by simp [x.ne_mg mg, h.pt.blkne x.blk, hne])⟩

end

end Go.Proofs.YbulkbcpiDoor.rel
