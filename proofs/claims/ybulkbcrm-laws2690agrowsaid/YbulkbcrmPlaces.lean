/-
  Seat b2690a: a slice of 'place' in memory, and the walk of (*places).see.
-/
import Derived.Test.YbulkbcrmRows
import Derived.WalkKit
import Derived.Below
import Derived.Outline
import Derived.WalkSpells
import Derived.OwnWalk
import Derived.Maps.AppendAt
import Derived.Lib.SmallJoins
import Derived.OneCell
import Derived.Deep.LoopGhost
namespace Go.Proofs.Ybulkbcrm.places
open Go.RowKit

theorem hide {p : Prop} (h : p) : Hid p := h

/-- A place: its value, whether it was seen, whether a second value was. -/
abbrev Q : Type := ByteArray × Bool × Bool
def q0 : Q := (⟨#[]⟩, false, false)
def pc (q : Q) : List Value := [.string q.1, .bool q.2.1, .bool q.2.2]
def cells3 (l : List Q) : List Value := l.flatMap pc

theorem cells3_length (l : List Q) : (cells3 l).length = l.length * 3 := by
  induction l with
  | nil => rfl
  | cons q l ih => simp only [cells3, List.flatMap_cons, List.length_append, pc, List.length_cons, List.length_nil] at ih ⊢; omega

theorem cells3_append (l m : List Q) : cells3 (l ++ m) = cells3 l ++ cells3 m := by simp [cells3]

theorem cells3_at (l : List Q) : ∀ i q, l[i]? = some q → (cells3 l)[i * 3]? = some (.string q.1) ∧ (cells3 l)[i * 3 + 1]? = some (.bool q.2.1) ∧ (cells3 l)[i * 3 + 2]? = some (.bool q.2.2) := by
  induction l with
  | nil => intro i q h; simp at h
  | cons r l ih =>
    intro i q h
    cases i with
    | zero => simp at h; subst h; simp [cells3, pc]
    | succ i =>
      have := ih i q (by simpa using h)
      have e : cells3 (r :: l) = pc r ++ cells3 l := rfl
      rw [e]
      have e1 : (i + 1) * 3 = i * 3 + 3 := by omega
      simp only [e1, pc, List.cons_append, List.nil_append]
      exact this

theorem cells3_set (l : List Q) : ∀ i q, l[i]? = some q → ∀ x b c, (cells3 l).set (i * 3) (.string x) = cells3 (l.set i (x, q.2)) ∧ (cells3 l).set (i * 3 + 1) (.bool b) = cells3 (l.set i (q.1, b, q.2.2)) ∧ (cells3 l).set (i * 3 + 2) (.bool c) = cells3 (l.set i (q.1, q.2.1, c)) := by
  induction l with
  | nil => intro i q h; simp at h
  | cons r l ih =>
    intro i q h x b c
    cases i with
    | zero => simp at h; subst h; simp [cells3, pc]
    | succ i =>
      have := ih i q (by simpa using h) x b c
      have e : ∀ r l, cells3 (r :: l) = pc r ++ cells3 l := fun _ _ => rfl
      rw [e]
      have e1 : (i + 1) * 3 = i * 3 + 3 := by omega
      simp only [e1, pc, List.cons_append, List.nil_append, List.set_cons_succ]
      exact ⟨by rw [this.1]; rfl, by rw [this.2.1]; rfl, by rw [this.2.2]; rfl⟩

theorem cells3_oneCell (l : List Q) : ∀ u ∈ cells3 l, u.oneCell' = true := by
  intro u hu
  simp only [cells3, List.mem_flatMap, pc] at hu
  obtain ⟨q, _, hq⟩ := hu
  simp at hq
  rcases hq with rfl | rfl | rfl <;> rfl

/-- The variable p holds a slice of the places l, its row among the blocks from base on. -/
structure Pl (w : World) (p base : Nat) (l : List Q) (ao : Option Addr) (cap : Nat) : Prop where
  cell : w.cell? ⟨p, 0, none⟩ = some (.slice ao l.length cap)
  fz : w.frozen? ⟨p, 0, none⟩ = false
  own : w.ownsRow base 32 3 (.slice ao l.length cap) l.length (cells3 l)
  lt : p < base

/-- What has not turned: every old block but p and the slice's own row. -/
structure Keep (w w' : World) (p : Nat) (row : Option Nat) : Prop where
  os : w'.os = w.os
  tape : w'.tape = w.tape
  output : w'.output = w.output
  size : w.heap.size ≤ w'.heap.size
  block : ∀ k, k < w.heap.size → k ≠ p → some k ≠ row → w'.heap[k]? = w.heap[k]?

def blk (ao : Option Addr) : Option Nat := ao.map (·.block)

theorem ownBlock_slice (ao : Option Addr) (n c : Nat) : (Value.slice ao n c).ownBlock = blk ao := by cases ao <;> rfl

theorem Keep.refl (w : World) (p : Nat) (row : Option Nat) : Keep w w p row := ⟨rfl, rfl, rfl, Nat.le_refl _, fun _ _ _ _ => rfl⟩

/-- Two steps: the second's row is the first's, or is new. -/
theorem Keep.trans {w w1 w2 : World} {p : Nat} {r r1 : Option Nat} (h : Keep w w1 p r) (k : Keep w1 w2 p r1) (hr : r1 = r ∨ ∃ g, r1 = some g ∧ w.heap.size ≤ g) : Keep w w2 p r := by
  refine ⟨k.os.trans h.os, k.tape.trans h.tape, k.output.trans h.output, Nat.le_trans h.size k.size, fun j hj hp hrow => ?_⟩
  have := h.size
  rw [k.block j (by omega) hp ?_, h.block j hj hp hrow]
  rcases hr with rfl | ⟨g, rfl, hg⟩
  · exact hrow
  · intro e; cases e; omega

theorem Keep.cell {w w' : World} {p : Nat} {r : Option Nat} (h : Keep w w' p r) {a : Addr} (h1 : a.block < w.heap.size) (h2 : a.block ≠ p) (h3 : some a.block ≠ r) : w'.cell? a = w.cell? a := World.cell?_of_block (h.block _ h1 h2 h3)
theorem Keep.frozen {w w' : World} {p : Nat} {r : Option Nat} (h : Keep w w' p r) {a : Addr} (h1 : a.block < w.heap.size) (h2 : a.block ≠ p) (h3 : some a.block ≠ r) : w'.frozen? a = w.frozen? a := World.frozen?_of_block (h.block _ h1 h2 h3)

/-- One place more, appended: behind the append (w1) the variable is stored. -/
theorem pl_push {wr w1 : World} {p base : Nat} {l : List Q} {ao : Option Addr} {cap g cap' : Nat} {o : Obj} (q : Q) (h : Pl wr p base l ao cap)
    (hown : w1.ownsRow base 32 3 (.slice (some ⟨g, 0, none⟩) (l.length + 1) cap') (l.length + 1) (cells3 l ++ pc q)) (hg : (wr.alloc o).grownBy w1 (blk ao)) :
    Pl (w1.setCell ⟨p, 0, none⟩ (.slice (some ⟨g, 0, none⟩) (l.length + 1) cap')) p base (l ++ [q]) (some ⟨g, 0, none⟩) cap' ∧
      Keep wr (w1.setCell ⟨p, 0, none⟩ (.slice (some ⟨g, 0, none⟩) (l.length + 1) cap')) p (blk ao) ∧
      w1.cell? ⟨p, 0, none⟩ = some (.slice ao l.length cap) ∧ w1.frozen? ⟨p, 0, none⟩ = false := by
  have hplt : p < wr.heap.size := by
    rcases Nat.lt_or_ge p wr.heap.size with h' | h'
    · exact h'
    · have := h.cell
      simp [World.cell?, Array.getElem?_eq_none h'] at this
  have hne : some p ≠ blk ao := by
    intro e
    have := h.own.lt p (by rw [ownBlock_slice]; exact e.symm)
    have := h.lt
    omega
  have hb : w1.heap[p]? = wr.heap[p]? := by
    rw [hg.block p (by simp; omega) hne]
    exact Below.heap_alloc _ _ _ hplt
  have c1 : w1.cell? ⟨p, 0, none⟩ = some (.slice ao l.length cap) := (World.cell?_of_block (a := ⟨p, 0, none⟩) hb).trans h.cell
  have f1 : w1.frozen? ⟨p, 0, none⟩ = false := (World.frozen?_of_block (a := ⟨p, 0, none⟩) hb).trans h.fz
  refine ⟨⟨?_, ?_, ?_, h.lt⟩, ⟨hg.os, hg.tape, hg.output, ?_, ?_⟩, c1, f1⟩
  · rw [List.length_append]
    exact World.cell?_setCell_same _ _ _ c1
  · rw [World.frozen?_setCell]; exact f1
  · have e : cells3 (l ++ [q]) = cells3 l ++ pc q := by rw [cells3_append]; simp [cells3]
    rw [e, List.length_append]
    exact ownsRow_setCell_below hown (a := ⟨p, 0, none⟩) h.lt _
  · have := hg.size
    simp at this ⊢
    omega
  · intro k hk hp hrow
    rw [Below.heap_setCell _ _ _ _ hp, hg.block k (by simp; omega) hrow]
    exact Below.heap_alloc _ _ _ hk

theorem info32 : (Yba.prog.info? 32).map (fun i => (i.zero, i.size, i.bytes)) = some (some (.agg #[.string ⟨#[]⟩, .bool false, .bool false]), 3, 24) := by kernel_rfl

/-- A store into the slice's own row. -/
theorem pl_set {w : World} {p base : Nat} {l : List Q} {g cap : Nat} (h : Pl w p base l (some ⟨g, 0, none⟩) cap) (j : Nat) (u : Value) (l' : List Q) (hl : l'.length = l.length) (hs : (cells3 l).set j u = cells3 l') :
    Pl (w.setCell ⟨g, j, none⟩ u) p base l' (some ⟨g, 0, none⟩) cap ∧ Keep w (w.setCell ⟨g, j, none⟩ u) p (some g) := by
  have hgb := (h.own.lt g rfl).1
  have hlt := h.lt
  refine ⟨⟨?_, ?_, ?_, h.lt⟩, ⟨rfl, rfl, rfl, by simp [World.setCell], fun k _ _ hk => ?_⟩⟩
  · rw [World.cell?_setCell_other _ _ _ _ (by intro e; injection e with e1 _ _; omega), hl]
    exact h.cell
  · rw [World.frozen?_setCell]; exact h.fz
  · have := (h.own.stored j u).1
    rw [hs] at this
    rw [hl]
    exact this
  · exact Below.heap_setCell _ _ _ _ (fun e => hk (by rw [e]))

theorem str_ne {a b : ByteArray} (h : ¬ a = b) : ¬ a.toList = b.toList := by
  intro e
  rw [ByteArray.toList_eq, ByteArray.toList_eq] at e
  exact h (ByteArray.ext (Array.toList_inj.mp e))

/-- What see makes of the places: padded up to i; and what it answers. -/
def pad (l : List Q) (i : Nat) : List Q := l ++ List.replicate (i + 1 - l.length) q0
def seeB (l : List Q) (i : Nat) (v : ByteArray) : Bool :=
  let q := (pad l i).getD i q0
  if q.2.1 then (!decide (q.1 = v) && !q.2.2) else false
def seeL (l : List Q) (i : Nat) (v : ByteArray) : List Q :=
  let q := (pad l i).getD i q0
  if q.2.1 then (if !decide (q.1 = v) && !q.2.2 then (pad l i).set i (q.1, true, true) else pad l i) else (pad l i).set i (v, true, q.2.2)

theorem pad_of {l : List Q} {m i : Nat} (hm : m ≤ i + 1 - l.length) (hlt : ¬ l.length + m ≤ i) : l ++ List.replicate m q0 = pad l i := by
  have : m = i + 1 - l.length := by omega
  rw [this]; rfl

/-- What see leaves. -/
def SeePost (w w' : World) (p base : Nat) (l' : List Q) (ao : Option Addr) : Prop :=
  ∃ ao' cap', Pl w' p base l' ao' cap' ∧ Keep w w' p (blk ao) ∧ (blk ao' = blk ao ∨ ∃ g, blk ao' = some g ∧ w.heap.size ≤ g)

theorem post_same {w wr : World} {p base g cap' : Nat} {l' : List Q} {ao : Option Addr} (hP : Pl wr p base l' (some ⟨g, 0, none⟩) cap') (hK : Keep w wr p (blk ao)) (hr : blk (some ⟨g, 0, none⟩) = blk ao ∨ ∃ g', blk (some ⟨g, 0, none⟩) = some g' ∧ w.heap.size ≤ g') :
    SeePost w wr p base l' ao := ⟨_, _, hP, hK, hr⟩

theorem post_set {w wr : World} {p base g cap' : Nat} {l : List Q} {ao : Option Addr} (hP : Pl wr p base l (some ⟨g, 0, none⟩) cap') (hK : Keep w wr p (blk ao)) (hr : blk (some ⟨g, 0, none⟩) = blk ao ∨ ∃ g', blk (some ⟨g, 0, none⟩) = some g' ∧ w.heap.size ≤ g')
    (j : Nat) (u : Value) (l' : List Q) (hl : l'.length = l.length) (hs : (cells3 l).set j u = cells3 l') : Pl (wr.setCell ⟨g, j, none⟩ u) p base l' (some ⟨g, 0, none⟩) cap' ∧ Keep w (wr.setCell ⟨g, j, none⟩ u) p (blk ao) := by
  obtain ⟨h1, h2⟩ := pl_set hP j u l' hl hs
  exact ⟨h1, hK.trans h2 hr⟩

set_option maxRecDepth 50000 in
set_option maxHeartbeats 1000000 in
theorem see_any (p base i : Nat) (l : List Q) (ao : Option Addr) (cap : Nat) (v : ByteArray) (w : World) (h : Pl w p base l ao cap) (hi : i ≤ 2000) (hl : l.length ≤ 2000) (hbase : base ≤ w.heap.size) :
    Calls Yba.prog 6 #[.pointer (some ⟨p, 0, none⟩), .int .u64 (i : Int), .string v] w fun e w' => e = .returned (.bool (seeB l i v)) ∧ SeePost w w' p base (seeL l i v) ao := by
  obtain ⟨i0, hi0, hz0, hz1, hz2⟩ := info_parts info32
  go_enter Yba.func6, Yba.ntmps6
  go_wp2
  go_loopg [8] (i + 1 - l.length) (fun k _ wr => ∃ (m : Nat) (ao' : Option Addr) (cap' : Nat), k = i + 1 - (l.length + m) ∧ m ≤ i + 1 - l.length ∧ Pl wr p base (l ++ List.replicate m q0) ao' cap' ∧ Keep w wr p (blk ao) ∧ (blk ao' = blk ao ∨ ∃ g, blk ao' = some g ∧ w.heap.size ≤ g))
  case atStart => exact ⟨0, ao, cap, by simp, by omega, by simpa using h, Keep.refl _ _ _, .inl rfl⟩
  case round =>
    obtain ⟨m, ao', cap', hk, hm, hP, hK, hr⟩ := hrel
    have hc := hP.cell
    have hfz := hP.fz
    rw [List.length_append, List.length_replicate] at hc
    have A : Aside (gk = i + 1 - (l.length + m)) := hk
    have HR : Aside (blk ao' = blk ao ∨ ∃ g, blk ao' = some g ∧ w.heap.size ≤ g) := hr
    have HP : Aside (Pl wr p base (l ++ List.replicate m q0) ao' cap') := hP
    have HM : Aside (m ≤ i + 1 - l.length) := hm
    have HB : Aside (base ≤ wr.heap.size) := Nat.le_trans hbase hK.size
    have hnb : l.length + m ≤ 4001 := by omega
    clear hk hr hP h hm
    have hnn : ∃ n, n = l.length + m := ⟨_, rfl⟩
    obtain ⟨n, hn⟩ := hnn
    rw [← hn] at hc hnb
    have HN : Aside (n = l.length + m) := hn
    clear hn
    by_cases hlt : n ≤ i
    · have hltI : (n : Int) ≤ (i : Int) := by omega
      have hown := HP.out.own
      rw [List.length_append, List.length_replicate, ← HN.out] at hown
      go_wp2_with (at_builtin; refine wpList_append_own_at _ rfl _ _ 24 rfl base 32 i0 (.agg #[.string ⟨#[]⟩, .bool false, .bool false]) 3 24 Yba.underlying24 hi0 hz0 hz1 hz2 rfl (by decide) _ _ _ rfl (hown.alloc _) ⟨wr.heap.size, 0, none⟩ 1 1 (pc q0) rfl rfl ?c1 ?c2 ?c3 ?c4 ?c5 ?_)
      case c1 =>
        intro j u hj
        match j, hj with
        | 0, hj => simp [pc, q0] at hj; subst hj; simp [Addr.add]
        | 1, hj => simp [pc, q0] at hj; subst hj; simp [Addr.add]
        | 2, hj => simp [pc, q0] at hj; subst hj; simp [Addr.add]
        | j + 3, hj => simp [pc] at hj
      case c2 => intro u hu; simp [pc] at hu; rcases hu with rfl | rfl | rfl <;> rfl
      case c3 => unfold maxLen; omega
      case c4 => omega
      case c5 => have := HB.out; simp; omega
      intro v' w1 hown' hgrow _ hblk
      obtain ⟨g, cp, hform⟩ := Joins.ownsRow_form hown' (by omega)
      rw [hform] at hown' hblk ⊢
      clear hform
      rw [ownBlock_slice] at hgrow
      have hpush := pl_push q0 HP.out (by rw [List.length_append, List.length_replicate, ← HN.out]; exact hown') hgrow
      rw [List.length_append, List.length_replicate, ← HN.out] at hpush
      obtain ⟨hP2, hK2, hc1, hf1⟩ := hpush
      have A2 : Aside (Pl (w1.setCell ⟨p, 0, none⟩ (.slice (some ⟨g, 0, none⟩) (n + 1) cp)) p base (l ++ List.replicate m q0 ++ [q0]) (some ⟨g, 0, none⟩) cp ∧ Keep wr (w1.setCell ⟨p, 0, none⟩ (.slice (some ⟨g, 0, none⟩) (n + 1) cp)) p (blk ao')) := ⟨hP2, hK2⟩
      have A3 : Aside ((Value.slice (some ⟨g, 0, none⟩) (n + 1) cp).ownBlock = (Value.slice ao' n cap').ownBlock ∨ (Value.slice (some ⟨g, 0, none⟩) (n + 1) cp).ownBlock = some (wr.heap.size + 1)) := hblk
      clear hP2 hK2 hown' hgrow hblk hown
      go_wp2
      go_roundg (i + 1 - (l.length + (m + 1)))
      case measure => have h1 := A.out; have h2 := HN.out; omega
      case rel =>
        refine ⟨m + 1, some ⟨g, 0, none⟩, cp, rfl, by have h2 := HN.out; omega, ?_, ?_, ?_⟩
        · have := A2.out.1
          rw [List.append_assoc, ← List.replicate_succ'] at this
          exact this
        · exact hK.trans A2.out.2 HR.out
        · have h3 := A3.out
          rw [ownBlock_slice, ownBlock_slice] at h3
          rcases h3 with h3 | h3
          · rw [h3]; exact HR.out
          · exact .inr ⟨_, h3, by have := hK.size; omega⟩
    · have hltI : ¬ (n : Int) ≤ (i : Int) := by omega
      have hil : (i : Int) < (n : Int) := by omega
      obtain ⟨g, cp, hform⟩ := Joins.ownsRow_form HP.out.own (by rw [List.length_append, List.length_replicate]; have := HN.out; omega)
      simp only [Value.slice.injEq] at hform
      obtain ⟨rfl, _, rfl⟩ := hform
      have hpad := pad_of HM.out (by have := HN.out; omega)
      have HP2 := HP.out
      rw [hpad] at HP2
      have hplen : (pad l i).length = n := by rw [← hpad, List.length_append, List.length_replicate]; exact HN.out.symm
      obtain ⟨q, hq⟩ : ∃ q, (pad l i)[i]? = some q := ⟨_, List.getElem?_eq_getElem (by omega)⟩
      have hqd : (pad l i).getD i q0 = q := by rw [List.getD_eq_getElem?_getD, hq]; rfl
      have hat := cells3_at _ i q hq
      have hown := HP2.own
      have hc0 := (hown.cellAt (i * 3) (by omega)).trans hat.1
      have hc1 := (hown.cellAt (i * 3 + 1) (by omega)).trans hat.2.1
      have hc2 := (hown.cellAt (i * 3 + 2) (by omega)).trans hat.2.2
      have hf0 := hown.frozenAt (i * 3)
      have hf1 := hown.frozenAt (i * 3 + 1)
      have hf2 := hown.frozenAt (i * 3 + 2)
      have hset := cells3_set _ i q hq
      obtain ⟨qv, qs, qp⟩ := q
      have HB : Aside (seeB l i v = if qs then (!decide (qv = v) && !qp) else false) := by show seeB l i v = _; simp only [seeB, hqd]
      have HL : Aside (seeL l i v = if qs then (if !decide (qv = v) && !qp then (pad l i).set i (qv, true, true) else pad l i) else (pad l i).set i (v, true, qp)) := by show seeL l i v = _; simp only [seeL, hqd]
      have HQ : Aside ((pad l i)[i]? = some (qv, qs, qp)) := hq
      have HS : Aside (∀ x b c, (cells3 (pad l i)).set (i * 3) (.string x) = cells3 ((pad l i).set i (x, qs, qp)) ∧ (cells3 (pad l i)).set (i * 3 + 1) (.bool b) = cells3 ((pad l i).set i (qv, b, qp)) ∧ (cells3 (pad l i)).set (i * 3 + 2) (.bool c) = cells3 ((pad l i).set i (qv, qs, c))) := hset
      have HP3 : Aside (Pl wr p base (pad l i) (some ⟨g, 0, none⟩) cap') := HP2
      simp only at hc0 hc1 hc2
      clear hown hat hq hplen hpad HP HP2 HM HN A hi0 hz0 hz1 hz2 hqd hset
      cases qs
      · go_wp2
        go_ret
        have h1 := post_set HP3.out hK HR.out (i * 3) (.string v) ((pad l i).set i (v, false, qp)) (by simp) (HS.out v true true).1
        have hq2 : ((pad l i).set i (v, false, qp))[i]? = some (v, false, qp) := by
          have := (List.getElem?_eq_some_iff.1 HQ.out).1
          simp [this]
        have h2 := post_set h1.1 h1.2 HR.out (i * 3 + 1) (.bool true) (((pad l i).set i (v, false, qp)).set i (v, true, qp)) (by simp) (cells3_set _ i _ hq2 v true true).2.1
        rw [List.set_set] at h2
        rw [HB.out, HL.out]
        exact ⟨rfl, post_same h2.1 h2.2 HR.out⟩
      · by_cases hv : qv = v
        · subst hv
          go_wp2
          go_ret
          rw [HB.out, HL.out]
          exact ⟨by simp, by simpa using post_same HP3.out hK HR.out⟩
        · have hv1 := str_ne hv
          have hv2 : (qv.toList == v.toList) = false := by rw [beq_eq_false_iff_ne]; exact hv1
          cases qp
          · go_wp2
            go_ret
            have h1 := post_set HP3.out hK HR.out (i * 3 + 2) (.bool true) ((pad l i).set i (qv, true, true)) (by simp) (HS.out v true true).2.2
            rw [HB.out, HL.out]
            exact ⟨by simp [hv], by simpa [hv] using post_same h1.1 h1.2 HR.out⟩
          · go_wp2
            go_ret
            rw [HB.out, HL.out]
            exact ⟨by simp, by simpa using post_same HP3.out hK HR.out⟩
end Go.Proofs.Ybulkbcrm.places
