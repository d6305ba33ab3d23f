/-
  Seat b2686aD: what the law's loops read.
-/
import Derived.Test.YbulkbcpiDoorRAny
namespace Go.Proofs.YbulkbcpiDoor.rel
open Go.RowKit

theorem gcs_at : ∀ (gs : List (Nat × Nat)) (k : Nat) (q : Nat × Nat), gs[k]? = some q → (gcs gs)[k * 2]? = some (.int .i64 (q.1 : Int)) ∧ (gcs gs)[k * 2 + 1]? = some (.string (name q.2))
  | [], k, q, h => by simp at h
  | r :: gs, 0, q, h => by
    simp at h
    subst h
    exact ⟨rfl, rfl⟩
  | r :: gs, k + 1, q, h => by
    have := gcs_at gs k q (by simpa using h)
    have e : gcs (r :: gs) = gc r ++ gcs gs := rfl
    rw [e, show (k + 1) * 2 = k * 2 + 2 by omega]
    simp only [gc, List.cons_append, List.nil_append]
    exact this

theorem GRow.cells {w : World} {va : Option Addr} {n vc : Nat} {gs : List (Nat × Nat)} (h : GRow w (.slice va n vc) gs) {k : Nat} {q : Nat × Nat} (hk : gs[k]? = some q) :
    ∃ g, va = some ⟨g, 0, none⟩ ∧ g < w.heap.size ∧ n ≤ vc ∧ w.cell? ⟨g, k * 2, none⟩ = some (.int .i64 (q.1 : Int)) ∧ w.cell? ⟨g, k * 2 + 1, none⟩ = some (.string (name q.2)) := by
  have hkl := (List.getElem?_eq_some_iff.1 hk).1
  rcases h.2 with ⟨_, h0⟩ | ⟨g, cap, cur, e, _, h2, h3, h4, h5, h6⟩
  · omega
  · cases e
    obtain ⟨c1, c2⟩ := gcs_at gs k q hk
    refine ⟨g, rfl, heap_lt h2, h3, ?_, ?_⟩
    · rw [cell_of_row _ _ _ _ _ _ h2]
      rw [← h6, List.getElem?_take, if_pos (by omega), Array.getElem?_toList] at c1
      exact c1
    · rw [cell_of_row _ _ _ _ _ _ h2]
      rw [← h6, List.getElem?_take, if_pos (by omega), Array.getElem?_toList] at c2
      exact c2

/-- Who is among the first k grants. -/
def inG (gs : List (Nat × Nat)) (k y : Nat) : Bool := decide (y ∈ (gs.take k).map Prod.fst)
def GA (gs : List (Nat × Nat)) (k : Nat) : Array Value := #[.bool (inG gs k 0), .bool (inG gs k 1), .bool (inG gs k 2), .bool (inG gs k 3)]

theorem GA_at (gs : List (Nat × Nat)) (k : Nat) {y : Nat} (hy : y < 4) : (GA gs k)[y]? = some (.bool (inG gs k y)) := by
  rcases (by omega : y = 0 ∨ y = 1 ∨ y = 2 ∨ y = 3) with rfl | rfl | rfl | rfl <;> rfl

theorem inG_step {gs : List (Nat × Nat)} {k : Nat} {q : Nat × Nat} (h : gs[k]? = some q) (y : Nat) : inG gs (k + 1) y = (inG gs k y || decide (y = q.1)) := by
  unfold inG
  rw [List.take_add_one, h, List.map_append]
  simp

theorem GA_put {gs : List (Nat × Nat)} {k : Nat} {q : Nat × Nat} (h : gs[k]? = some q) (hq : q.1 < 4) : (GA gs k).setIfInBounds q.1 (.bool true) = GA gs (k + 1) := by
  unfold GA
  simp only [inG_step h]
  rcases (by omega : q.1 = 0 ∨ q.1 = 1 ∨ q.1 = 2 ∨ q.1 = 3) with e | e | e | e <;> rw [e] <;> simp

theorem inG_new {gs : List (Nat × Nat)} (hn : (gs.map Prod.fst).Nodup) {k : Nat} {q : Nat × Nat} (h : gs[k]? = some q) : inG gs k q.1 = false := by
  unfold inG
  rw [decide_eq_false]
  intro hm
  have hk := (List.getElem?_eq_some_iff.1 h).1
  rw [← List.take_append_drop k gs, List.map_append, List.nodup_append] at hn
  refine hn.2.2 _ hm q.1 ?_ rfl
  rw [List.drop_eq_getElem_cons hk, (List.getElem?_eq_some_iff.1 h).2]
  simp

theorem GA_zero (gs : List (Nat × Nat)) : GA gs 0 = #[.bool false, .bool false, .bool false, .bool false] := by simp [GA, inG]

structure L2I (W : World) (gs : List (Nat × Nat)) (k : Nat) (wr : World) : Prop where
  bel : Below W.heap.size W wr
  blk : wr.heap[W.heap.size]? = some (.cells (GA gs k) 41 (0, 0))

theorem L2I.cell {W : World} {gs : List (Nat × Nat)} {k : Nat} {wr : World} (h : L2I W gs k wr) {y : Nat} (hy : y < 4) : wr.cell? ⟨W.heap.size, y, none⟩ = some (.bool (inG gs k y)) := by
  rw [cell_of_row _ _ _ _ _ _ h.blk]; exact GA_at gs k hy

/-- What the two views say in W. -/
structure Vw (W : World) (X : Nat) (s : St) : Prop where
  lt : X < W.heap.size
  held : ∀ y i, y < 4 → i < 3 → W.cell? ⟨X, y * 3 + i, none⟩ = some (.bool (has (s.gr i) y))
  waits : ∀ y, y < 4 → W.cell? ⟨X, 12 + y, none⟩ = some (.bool (s.wl y).isSome)
  item : ∀ y, y < 4 → W.cell? ⟨X, 16 + y, none⟩ = some (.string (wn s y))
  lock : W.cell? ⟨X, 20, none⟩ = some (.int .i64 (s.lo : Int))

theorem vw_of {W : World} {X : Nat} {s : St} (h : W.heap[X]? = some (.cells (view s) 44 (0, 0))) : Vw W X s :=
  ⟨heap_lt h, fun y i hy hi => by rw [cell_of_row _ _ _ _ _ _ h]; exact view_held s hy hi, fun y hy => by rw [cell_of_row _ _ _ _ _ _ h]; exact view_waits s hy,
    fun y hy => by rw [cell_of_row _ _ _ _ _ _ h]; exact view_item s hy, by rw [cell_of_row _ _ _ _ _ _ h]; exact view_lock s⟩

theorem Vw.below {W w' : World} {X : Nat} {s : St} (h : Vw W X s) (b : Below W.heap.size W w') : Vw w' X s :=
  ⟨Nat.lt_of_lt_of_le h.lt b.size, fun y i hy hi => by rw [b.cell (p := ⟨X, y * 3 + i, none⟩) h.lt]; exact h.held y i hy hi, fun y hy => by rw [b.cell (p := ⟨X, 12 + y, none⟩) h.lt]; exact h.waits y hy,
    fun y hy => by rw [b.cell (p := ⟨X, 16 + y, none⟩) h.lt]; exact h.item y hy, by rw [b.cell (p := ⟨X, 20, none⟩) h.lt]; exact h.lock⟩

theorem name_ne {i j : Nat} (hi : i < 3) (hj : j < 3) (h : i ≠ j) : (name i == name j) = false := by
  have : ∀ i, i < 3 → ∀ j, j < 3 → i ≠ j → (name i == name j) = false := by decide
  exact this i hi j hj h

/-! ### guarded operations whose guard says yes -/
section
variable {P : Program} {ops : Array Oper} {rest : List Oper} {o : Oper} {a : Act} {w : World} {Q : Exit → Act → World → Prop}

theorem wpList_load_row_g (hw : Region.wanted o (yielded ops a.tmps) = true) (ty : TypeId) (x : Operand) (ho : o.op = .load ty x)
    (g : Nat) (hx : a.eval x = .pointer (some ⟨g, 0, none⟩)) (t : TypeId) (cs : Array Value) (fr : Nat × Nat) (d : TypeDesc) (hg : w.heap[g]? = some (.cells cs t fr))
    (hu : P.underlying ty = some d) (hd : (match d with | .struct _ | .array _ _ => true | _ => false) = true) (hi : (P.info? ty).map (·.size) = some cs.size)
    (h : wpList P ops Q rest (a.put o.dst (.agg cs)) w) : wpList P ops Q (o :: rest) a w :=
  BigFrame.wpList_want hw fun _ hK => wp_load_row ty x ho g hx t cs fr d hg hu hd hi (hK _ _ h)

theorem wpList_binop_g (hw : Region.wanted o (yielded ops a.tmps) = true) (op : BinOp) (t t2 : TypeId) (x y : Operand) (ho : o.op = .binOp op t x y t2) (u v r : Value) (hx : a.eval x = u) (hy : a.eval y = v)
    (hgd : (eqGuard op t x y u v).run P w = .ok () w) (hrun : (binOp op t u v).run P w = .ok r w) (h : wpList P ops Q rest (a.put o.dst r) w) : wpList P ops Q (o :: rest) a w := by
  refine BigFrame.wpList_want hw fun K' hK => ?_
  unfold Oper.wp
  simp [execOp, ho, hx, hy, hgd, hrun, Result.andThen]
  exact hK _ _ h

end

theorem guard44 : Ybad.prog.eqGuardType Ybad.prog.depth 44 = false := by kernel_rfl

theorem eqv (s : St) (w : World) : (binOp .eql 44 (.agg (view s)) (.agg (view s))).run Ybad.prog w = .ok (.bool true) w := by
  rw [view_eq]
  exact eq44 w _ _ _ _ _ _ _ _ _ _ _ _ _ _ _ _ _ _ _ _ _

theorem eqg (s : St) (w : World) (x y : Operand) : (eqGuard .eql 44 x y (.agg (view s)) (.agg (view s))).run Ybad.prog w = .ok () w := run_eqGuard_agg w .eql 44 x y _ _ guard44

theorem eq35 (w : World) : (binOp .eql 35 (.slice none 0 0) (.slice none 0 0)).run Ybad.prog w = .ok (.bool true) w := by
  first
  | kernel_rfl
  | (simp [binOp, Op.equal, Op.maxDepth, Op.equalIn, run_underlying Ybad.underlying35]; done)
  | (simp only [binOp]; simp [Op.equal, Op.maxDepth, Op.equalIn, run_underlying Ybad.underlying35])

end Go.Proofs.YbulkbcpiDoor.rel
