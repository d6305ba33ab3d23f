/-
  Seat b2686aD: LawS2686CRelease: the memory of the lock manager: rows of requests, ownership of blocks, frames.
-/
import Derived.Test.YbulkbcpiDoorRows
import Derived.WalkKit
import Derived.Below
import Derived.Outline
import Derived.WalkSpells
import Derived.OwnWalk
import Derived.Maps.AppendAt
import Derived.Maps.OwnSet
import Derived.Maps.Views
import Derived.Lib.SmallJoins
import Derived.Lib.SliceRun
import Derived.OneCell
import Derived.Deep.LoopGhost
import Derived.Deep.AppendLies
import Derived.Deep.RegionLaw
import Derived.Deep.RegionWith
import Derived.Deep.QuietTactic
import Derived.BigQuiet
import Derived.ArgAppend
namespace Go.Proofs.YbulkbcpiDoor.rel
open Go.RowKit

theorem hide {p : Prop} (h : p) : Hid p := h

theorem Ybad.info83 : (Ybad.prog.info? 83).map (fun i => (i.zero, i.size, i.bytes)) = some (some (.agg #[.int .i64 0, .int .i64 0, .bool false, .bool false]), 4, 24) := by kernel_rfl
theorem Ybad.info64 : (Ybad.prog.info? 64).map (fun i => (i.zero, i.size, i.bytes)) = some (some (.pointer none), 1, 8) := by kernel_rfl
theorem Ybad.info62 : (Ybad.prog.info? 62).map (fun i => (i.zero, i.size, i.bytes)) = some (some (.pointer none), 1, 8) := by kernel_rfl
theorem Ybad.info50 : (Ybad.prog.info? 50).map (fun i => (i.zero, i.size, i.bytes)) = some (some (.agg #[.int .i64 0, .string ⟨#[]⟩]), 2, 24) := by kernel_rfl
theorem Ybad.info3 : (Ybad.prog.info? 3).map (fun i => (i.zero, i.size, i.bytes)) = some (some (.int .i64 0), 1, 8) := by kernel_rfl

/-! ### Requests -/

/-- A request: its transaction, its mode, whether it is an upgrade. (None is ever declared here.) -/
structure Req : Type where
  y : Nat
  m : Nat
  u : Bool

def rc (r : Req) : List Value := [.int .i64 r.y, .int .i64 r.m, .bool r.u, .bool false]
def rv (r : Req) : Value := .agg #[.int .i64 r.y, .int .i64 r.m, .bool r.u, .bool false]
def rcs (l : List Req) : List Value := l.flatMap rc

theorem rcs_nil : rcs [] = [] := rfl
theorem rcs_cons (r : Req) (l : List Req) : rcs (r :: l) = rc r ++ rcs l := rfl
theorem rcs_append (l m : List Req) : rcs (l ++ m) = rcs l ++ rcs m := by simp [rcs]

theorem rcs_length (l : List Req) : (rcs l).length = l.length * 4 := by
  induction l with
  | nil => rfl
  | cons q l ih => rw [rcs_cons, List.length_append, ih]; simp only [rc, List.length_cons, List.length_nil]; omega

theorem rcs_at (l : List Req) : ∀ i r, l[i]? = some r → (rcs l)[i * 4]? = some (.int .i64 r.y) ∧ (rcs l)[i * 4 + 1]? = some (.int .i64 r.m) ∧ (rcs l)[i * 4 + 2]? = some (.bool r.u) ∧ (rcs l)[i * 4 + 3]? = some (.bool false) := by
  induction l with
  | nil => intro i q h; simp at h
  | cons q l ih =>
    intro i r h
    cases i with
    | zero => simp at h; subst h; simp [rcs_cons, rc]
    | succ i =>
      have := ih i r (by simpa using h)
      rw [rcs_cons]
      have e1 : (i + 1) * 4 = i * 4 + 4 := by omega
      simp only [e1, rc, List.cons_append, List.nil_append]
      exact this

theorem rcs_setM (l : List Req) : ∀ i r, l[i]? = some r → ∀ m : Nat, (rcs l).set (i * 4 + 1) (.int .i64 m) = rcs (l.set i ⟨r.y, m, r.u⟩) := by
  induction l with
  | nil => intro i q h; simp at h
  | cons q l ih =>
    intro i r h m
    cases i with
    | zero => simp at h; subst h; simp [rcs_cons, rc]
    | succ i =>
      have := ih i r (by simpa using h) m
      rw [rcs_cons]
      have e1 : (i + 1) * 4 = i * 4 + 4 := by omega
      simp only [e1, rc, List.cons_append, List.nil_append, List.set_cons_succ, rcs_cons]
      rw [this]

theorem rcs_drop (l : List Req) : ∀ i, (rcs l).drop (i * 4) = rcs (l.drop i) := by
  induction l with
  | nil => intro i; simp [rcs_nil]
  | cons q l ih =>
    intro i
    cases i with
    | zero => simp
    | succ i =>
      have e : List.drop (i + 1) (q :: l) = List.drop i l := rfl
      rw [rcs_cons, show (i + 1) * 4 = 4 + i * 4 by omega, ← List.drop_drop, e, ← ih i]
      simp [rc]

theorem rcs_take (l : List Req) : ∀ i, (rcs l).take (i * 4) = rcs (l.take i) := by
  induction l with
  | nil => intro i; simp [rcs_nil]
  | cons q l ih =>
    intro i
    cases i with
    | zero => simp [rcs_nil]
    | succ i =>
      rw [List.take_succ_cons, rcs_cons, rcs_cons, ← ih i, show (i + 1) * 4 = i * 4 + 4 by omega]
      simp [rc]

theorem rcs_oneCell (l : List Req) : ∀ u ∈ rcs l, u.oneCell' = true := by
  intro u hu
  simp only [rcs, List.mem_flatMap, rc] at hu
  obtain ⟨q, _, hq⟩ := hu
  simp at hq
  rcases hq with rfl | rfl | rfl | rfl <;> rfl

/-- How many requests of a mode. -/
def cnt (m : Nat) (l : List Req) : Nat := l.countP (fun r => r.m == m)

theorem cnt_le (m : Nat) (l : List Req) : cnt m l ≤ l.length := List.countP_le_length

/-! ### Ownership and frames -/

/-- What a call keeps: 'ow' names each block's owner (none: nobody's, among them all that is new); only blocks of the owners in S may turn. -/
structure Fr (ow : Nat → Option Nat) (w : World) (ow' : Nat → Option Nat) (w' : World) (S : List Nat) : Prop where
  os : w'.os = w.os
  tape : w'.tape = w.tape
  output : w'.output = w.output
  size : w.heap.size ≤ w'.heap.size
  old : ∀ k, k < w.heap.size → ow' k = ow k
  fresh : ∀ k, w'.heap.size ≤ k → ow' k = none
  keep : ∀ k, k < w.heap.size → (∀ s, ow k = some s → s ∉ S) → w'.heap[k]? = w.heap[k]?

def Fresh (ow : Nat → Option Nat) (w : World) : Prop := ∀ k, w.heap.size ≤ k → ow k = none

theorem Fr.refl {ow : Nat → Option Nat} {w : World} (h : Fresh ow w) (S : List Nat) : Fr ow w ow w S := ⟨rfl, rfl, rfl, Nat.le_refl _, fun _ _ => rfl, h, fun _ _ _ => rfl⟩

theorem Fr.trans {ow ow1 ow2 : Nat → Option Nat} {w w1 w2 : World} {S T : List Nat} (h : Fr ow w ow1 w1 S) (k : Fr ow1 w1 ow2 w2 T) : Fr ow w ow2 w2 (S ++ T) := by
  have := h.size
  refine ⟨k.os.trans h.os, k.tape.trans h.tape, k.output.trans h.output, Nat.le_trans h.size k.size, fun j hj => (k.old j (by omega)).trans (h.old j hj), k.fresh, fun j hj hs => ?_⟩
  rw [k.keep j (by omega) (fun s e => fun hm => hs s ((h.old j hj).symm.trans e) (by simp [hm])), h.keep j hj (fun s e hm => hs s e (by simp [hm]))]

theorem Fr.mono {ow ow1 : Nat → Option Nat} {w w1 : World} {S T : List Nat} (h : Fr ow w ow1 w1 S) (hs : ∀ s ∈ S, s ∈ T) : Fr ow w ow1 w1 T :=
  ⟨h.os, h.tape, h.output, h.size, h.old, h.fresh, fun k hk hn => h.keep k hk (fun s e hm => hn s e (hs s hm))⟩

theorem Fr.alloc {ow ow1 : Nat → Option Nat} {w w1 : World} {S : List Nat} (h : Fr ow w ow1 w1 S) (o : Obj) : Fr ow w ow1 (w1.alloc o) S := by
  have := h.size
  refine ⟨h.os, h.tape, h.output, by simp; omega, h.old, fun k hk => h.fresh k (by simp at hk; omega), fun k hk hn => ?_⟩
  rw [Below.heap_alloc _ _ _ (by omega)]
  exact h.keep k hk hn

theorem Fr.drewN {ow ow1 : Nat → Option Nat} {w w1 : World} {S : List Nat} (h : Fr ow w ow1 w1 S) (n : Nat) : Fr ow w ow1 (w1.drewN n) S := ⟨h.os, h.tape, h.output, h.size, h.old, h.fresh, h.keep⟩
theorem Fr.drew {ow ow1 : Nat → Option Nat} {w w1 : World} {S : List Nat} (h : Fr ow w ow1 w1 S) : Fr ow w ow1 w1.drew S := ⟨h.os, h.tape, h.output, h.size, h.old, h.fresh, h.keep⟩

theorem hset_other (w : World) (a : Addr) (u : Value) {k : Nat} (h : a.block ≠ k) : (w.setCell a u).heap[k]? = w.heap[k]? := by
  simp [World.setCell, Array.getElem?_modify, h]

theorem hset_same {w : World} {b : Nat} {cs : Array Value} {e : TypeId} {fz : Nat × Nat} (h : w.heap[b]? = some (.cells cs e fz)) (j : Nat) (u : Value) : (w.setCell ⟨b, j, none⟩ u).heap[b]? = some (.cells (cs.setIfInBounds j u) e fz) := by
  simp [World.setCell, Array.getElem?_modify, h]

theorem Fr.setCell {ow ow1 : Nat → Option Nat} {w w1 : World} {S : List Nat} (h : Fr ow w ow1 w1 S) {b : Nat} (hb : w.heap.size ≤ b ∨ ∃ s, ow b = some s ∧ s ∈ S) (j : Nat) (u : Value) : Fr ow w ow1 (w1.setCell ⟨b, j, none⟩ u) S := by
  have := h.size
  refine ⟨h.os, h.tape, h.output, by simp; omega, h.old, fun k hk => h.fresh k (by simpa using hk), fun k hk hn => ?_⟩
  rw [hset_other _ _ _ (by
    rintro rfl
    rcases hb with hb | ⟨s, e, hm⟩
    · exact absurd hk (Nat.not_lt.2 hb)
    · exact hn s e hm)]
  exact h.keep k hk hn

theorem Fr.fresh0 {ow ow1 : Nat → Option Nat} {w w1 : World} {S : List Nat} (h : Fr ow w ow1 w1 S) : Fresh ow1 w1 := h.fresh
theorem Fresh.alloc {ow : Nat → Option Nat} {w : World} (h : Fresh ow w) (o : Obj) : Fresh ow (w.alloc o) := fun k hk => h k (by simp at hk; omega)
theorem Fresh.drewN {ow : Nat → Option Nat} {w : World} (h : Fresh ow w) (n : Nat) : Fresh ow (w.drewN n) := h
theorem Fresh.drew {ow : Nat → Option Nat} {w : World} (h : Fresh ow w) : Fresh ow w.drew := h
theorem Fresh.setCell {ow : Nat → Option Nat} {w : World} (h : Fresh ow w) (a : Addr) (u : Value) : Fresh ow (w.setCell a u) := fun k hk => h k (by simpa using hk)

theorem Fr.cell {ow ow1 : Nat → Option Nat} {w w1 : World} {S : List Nat} (h : Fr ow w ow1 w1 S) {a : Addr} (ha : a.block < w.heap.size) (hs : ∀ s, ow a.block = some s → s ∉ S) : w1.cell? a = w.cell? a := World.cell?_of_block (h.keep _ ha hs)
theorem Fr.frozen {ow ow1 : Nat → Option Nat} {w w1 : World} {S : List Nat} (h : Fr ow w ow1 w1 S) {a : Addr} (ha : a.block < w.heap.size) (hs : ∀ s, ow a.block = some s → s ∉ S) : w1.frozen? a = w.frozen? a := World.frozen?_of_block (h.keep _ ha hs)

/-- The frame of an append onto a row of the owner s. -/
theorem Fr.grown {ow : Nat → Option Nat} {w w1 : World} {row : Option Nat} {g s : Nat} (hf : Fresh ow w) (hg : w.grownBy w1 row) (hr : ∀ k, row = some k → ow k = some s) (hw : row = some g ∨ w.heap.size ≤ g) (hlt : g < w1.heap.size) :
    Fr ow w (fun k => if k = g then some s else ow k) w1 [s] := by
  refine ⟨hg.os, hg.tape, hg.output, hg.size, fun k hk => ?_, fun k hk => ?_, fun k hk hn => ?_⟩
  · by_cases e : k = g
    · subst e
      rcases hw with hw | hw
      · simp [hr k hw]
      · omega
    · simp [e]
  · have := hg.size
    rw [if_neg (by omega)]
    exact hf k (by omega)
  · refine hg.block k hk (fun e => ?_)
    exact hn s (hr k e.symm) (by simp)

theorem cell_lt {w : World} {a : Addr} {v : Value} (h : w.cell? a = some v) : a.block < w.heap.size := by
  rcases Nat.lt_or_ge a.block w.heap.size with h1 | h1
  · exact h1
  · simp [World.cell?, Array.getElem?_eq_none h1] at h

theorem heap_lt {w : World} {b : Nat} {o : Obj} (h : w.heap[b]? = some o) : b < w.heap.size := (Array.getElem?_eq_some_iff.1 h).1

theorem ownsRow_same {w w' : World} {base : Nat} {e : TypeId} {size : Nat} {v : Value} {n : Nat} {xs : List Value} (h : w.ownsRow base e size v n xs) (hb : ∀ g, v.ownBlock = some g → w'.heap[g]? = w.heap[g]?) : w'.ownsRow base e size v n xs := by
  refine ⟨h.1, ?_⟩
  rcases h.2 with hn | ⟨g, cap, cur, rfl, h1, h2, h3⟩
  · exact .inl hn
  · exact .inr ⟨g, cap, cur, rfl, h1, by rw [hb g rfl]; exact h2, h3⟩

theorem ownsRow_lt {w : World} {base : Nat} {e : TypeId} {size : Nat} {v : Value} {n : Nat} {xs : List Value} (h : w.ownsRow base e size v n xs) {g : Nat} (hg : v.ownBlock = some g) : g < w.heap.size := by
  rcases h.2 with ⟨rfl, _⟩ | ⟨g', cap, cur, rfl, h1, h2, h3⟩
  · cases hg
  · simp [Value.ownBlock] at hg
    subst hg
    exact heap_lt h2

/-! ### A row of requests that may begin behind its block's head -/

def Seg (w : World) (v : Value) (l : List Req) : Prop :=
  (v = .slice none 0 0 ∧ l = []) ∨
  ∃ g off cap cur, v = .slice (some ⟨g, off, none⟩) l.length cap ∧ w.heap[g]? = some (.cells cur 83 (0, 0)) ∧ l.length ≤ cap ∧ cap ≤ maxLen ∧ off + cap * 4 ≤ cur.size ∧ ∀ j u, (rcs l)[j]? = some u → cur[off + j]? = some u

theorem Seg.same {w w' : World} {v : Value} {l : List Req} (h : Seg w v l) (hb : ∀ g, v.ownBlock = some g → w'.heap[g]? = w.heap[g]?) : Seg w' v l := by
  rcases h with h | ⟨g, off, cap, cur, rfl, h1, h2⟩
  · exact .inl h
  · exact .inr ⟨g, off, cap, cur, rfl, by rw [hb g rfl]; exact h1, h2⟩

theorem Seg.lt {w : World} {v : Value} {l : List Req} (h : Seg w v l) {g : Nat} (hg : v.ownBlock = some g) : g < w.heap.size := by
  rcases h with ⟨rfl, _⟩ | ⟨g', off, cap, cur, rfl, h1, h2⟩
  · cases hg
  · simp [Value.ownBlock] at hg
    subst hg
    exact heap_lt h1

theorem Seg.of_own {w : World} {base : Nat} {v : Value} {l : List Req} (h : w.ownsRow base 83 4 v l.length (rcs l)) : Seg w v l := by
  rcases h.2 with ⟨rfl, h0⟩ | ⟨g, cap, cur, rfl, h1, h2, h3, h4, h5, h6⟩
  · exact .inl ⟨rfl, List.length_eq_zero_iff.1 h0⟩
  · refine .inr ⟨g, 0, cap, cur, rfl, h2, h3, h4, by omega, fun j u hu => ?_⟩
    rw [← h6, List.getElem?_take] at hu
    split at hu
    · simpa using hu
    · cases hu

/-! ### A queue, a transaction's record, the manager -/

def qp (b : Nat) : Value := .pointer (some ⟨b, 0, none⟩)

structure Qu (ow : Nat → Option Nat) (w : World) (b : Nat) (nm : ByteArray) (gr wt : List Req) (tp gv wv : Value) : Prop where
  blk : w.heap[b]? = some (.cells #[.string nm, gv, wv, .int .i64 (cnt 0 gr : Nat), .int .i64 (cnt 1 gr : Nat), .int .i64 (cnt 0 wt : Nat), .int .i64 (cnt 1 wt : Nat), tp] 88 (0, 0))
  own : ow b = some b
  grow : w.ownsRow 0 83 4 gv gr.length (rcs gr)
  gown : ∀ g, gv.ownBlock = some g → ow g = some b
  wrow : Seg w wv wt
  wown : ∀ g, wv.ownBlock = some g → ow g = some b
  ne : ∀ g, gv.ownBlock = some g → wv.ownBlock ≠ some g

structure Tx (ow : Nat → Option Nat) (w : World) (b : Nat) (hd wt : List Nat) (hv wv : Value) : Prop where
  blk : w.heap[b]? = some (.cells #[hv, wv, .bool false, .int .u64 0] 73 (0, 0))
  own : ow b = some b
  hrow : w.ownsRow 0 64 1 hv hd.length (hd.map qp)
  hown : ∀ g, hv.ownBlock = some g → ow g = some b
  wrow : w.ownsRow 0 64 1 wv wt.length (wt.map qp)
  wown : ∀ g, wv.ownBlock = some g → ow g = some b
  ne : ∀ g, hv.ownBlock = some g → wv.ownBlock ≠ some g

theorem Qu.fr {ow ow' : Nat → Option Nat} {w w' : World} {b : Nat} {nm gr wt tp gv wv} {S : List Nat} (h : Qu ow w b nm gr wt tp gv wv) (f : Fr ow w ow' w' S) (hb : b ∉ S) : Qu ow' w' b nm gr wt tp gv wv := by
  have k : ∀ g, g < w.heap.size → ow g = some b → w'.heap[g]? = w.heap[g]? := fun g hg e => f.keep g hg (fun s es hm => by rw [e] at es; cases es; exact hb hm)
  exact ⟨by rw [k b (heap_lt h.blk) h.own]; exact h.blk, by rw [f.old b (heap_lt h.blk)]; exact h.own, ownsRow_same h.grow (fun g hg => k g (ownsRow_lt h.grow hg) (h.gown g hg)), fun g hg => by rw [f.old g (ownsRow_lt h.grow hg)]; exact h.gown g hg,
    h.wrow.same (fun g hg => k g (h.wrow.lt hg) (h.wown g hg)), fun g hg => by rw [f.old g (h.wrow.lt hg)]; exact h.wown g hg, h.ne⟩

theorem Tx.fr {ow ow' : Nat → Option Nat} {w w' : World} {b : Nat} {hd wt hv wv} {S : List Nat} (h : Tx ow w b hd wt hv wv) (f : Fr ow w ow' w' S) (hb : b ∉ S) : Tx ow' w' b hd wt hv wv := by
  have k : ∀ g, g < w.heap.size → ow g = some b → w'.heap[g]? = w.heap[g]? := fun g hg e => f.keep g hg (fun s es hm => by rw [e] at es; cases es; exact hb hm)
  exact ⟨by rw [k b (heap_lt h.blk) h.own]; exact h.blk, by rw [f.old b (heap_lt h.blk)]; exact h.own, ownsRow_same h.hrow (fun g hg => k g (ownsRow_lt h.hrow hg) (h.hown g hg)), fun g hg => by rw [f.old g (ownsRow_lt h.hrow hg)]; exact h.hown g hg,
    ownsRow_same h.wrow (fun g hg => k g (ownsRow_lt h.wrow hg) (h.wown g hg)), fun g hg => by rw [f.old g (ownsRow_lt h.wrow hg)]; exact h.wown g hg, h.ne⟩

/-- The manager's own block. -/
def Mg (w : World) (M : Nat) (qm tm : Nat) (lo wa : Int) (sq st : Value) : Prop :=
  w.heap[M]? = some (.cells #[.map (some qm), .map (some tm), .bool false, .int .i64 0, .int .u64 0, .int .i64 lo, .int .i64 wa, sq, st] 61 (0, 0))

theorem Mg.fr {ow ow' : Nat → Option Nat} {w w' : World} {M qm tm lo wa sq st} {S : List Nat} (h : Mg w M qm tm lo wa sq st) (f : Fr ow w ow' w' S) (ho : ow M = some M) (hb : M ∉ S) : Mg w' M qm tm lo wa sq st := by
  unfold Mg at *
  rw [f.keep M (heap_lt h) (fun s es hm => by rw [ho] at es; cases es; exact hb hm)]
  exact h

end Go.Proofs.YbulkbcpiDoor.rel
