/-
  Seat b2686aD: the calls on one queue, over the whole manager.
-/
import Derived.Test.YbulkbcpiDoorRFgt
import Derived.Test.YbulkbcpiDoorRWf
namespace Go.Proofs.YbulkbcpiDoor.rel
open Go.RowKit

def St.setQ (s : St) (i : Nat) (gr' wt' : List Req) (lo' wa' : Nat) : St := { s with gr := fun j => if j = i then gr' else s.gr j, wt := fun j => if j = i then wt' else s.wt j, lo := lo', wa := wa' }
def St.setT (s : St) (y : Nat) (hl' : List Nat) (wl' : Option Nat) : St := { s with hl := fun j => if j = y then hl' else s.hl j, wl := fun j => if j = y then wl' else s.wl j }

/-- From s to s', within the manager. -/
def To (ow : Nat → Option Nat) (w : World) (M qm tm : Nat) (s s' : St) (w' : World) : Prop := ∃ ow', FrX ow w ow' w' M qm tm s s' ∧ Rep ow' w' M qm tm s'

theorem To.trans {ow ow1 : Nat → Option Nat} {w w1 w2 : World} {M qm tm : Nat} {s s1 s2 : St} (h : FrX ow w ow1 w1 M qm tm s s1) (k : To ow1 w1 M qm tm s1 s2 w2) : To ow w M qm tm s s2 w2 := by
  obtain ⟨ow2, f, r⟩ := k
  exact ⟨ow2, h.trans f, r⟩

section
variable {ow : Nat → Option Nat} {w : World} {M qm tm : Nat} {s : St} {i b : Nat}

theorem dom_setQ (s : St) (i : Nat) (gr' wt' : List Req) (lo' wa' : Nat) : dom M qm tm (s.setQ i gr' wt' lo' wa') = dom M qm tm s := rfl
theorem dom_setT (s : St) (y : Nat) (hl' : List Nat) (wl' : Option Nat) : dom M qm tm (s.setT y hl' wl') = dom M qm tm s := rfl

theorem updQ_to (h : Rep ow w M qm tm s) (hi : i < 3) (hb : s.qb i = some b) {ow' : Nat → Option Nat} {w' : World} (f : Fr ow w ow' w' [b, M]) {gr' wt' : List Req} {gv' wv' sqv stv : Value} {lo' wa' : Nat} (mg : Mg w M qm tm s.lo s.wa sqv stv)
    (q' : Qu ow' w' b (name i) gr' wt' (tal M) gv' wv') (mg' : Mg w' M qm tm lo' wa' sqv stv) : To ow w M qm tm s (s.setQ i gr' wt' lo' wa') w' := by
  refine ⟨ow', FrX.of f ?_ (fun x _ hn => hn), h.updQ hi hb f ⟨_, _, mg⟩ q' mg'⟩
  intro x hx
  simp at hx
  rcases hx with rfl | rfl
  · exact .inl (mem_dom.2 (.inr (.inr (.inr (.inl ⟨i, hi, hb⟩)))))
  · exact .inl (mem_dom.2 (.inl rfl))

theorem updT_to (h : Rep ow w M qm tm s) {y t : Nat} (hy : y < 4) (ht : s.tb y = some t) {ow' : Nat → Option Nat} {w' : World} (f : Fr ow w ow' w' [t]) {hl' : List Nat} {wl' : Option Nat} {hv' wv' : Value}
    (x' : Tx ow' w' t (hl'.map (blk s.qb)) (wl'.toList.map (blk s.qb)) hv' wv') : To ow w M qm tm s (s.setT y hl' wl') w' := by
  refine ⟨ow', FrX.of f ?_ (fun x _ hn => hn), h.updT hy ht f x'⟩
  intro x hx
  simp at hx
  subst hx
  exact .inl (mem_dom.2 (.inr (.inr (.inr (.inr (.inl ⟨y, hy, ht⟩))))))

theorem removeR (h : Rep ow w M qm tm s) (hi : i < 3) (hb : s.qb i = some b) (y : Nat) (hy : has (s.gr i) y = true) (hms : ∀ r ∈ s.gr i, r.m < 2) (hlen : (s.gr i).length ≤ 8) (hlo : 1 ≤ s.lo) (hlo2 : s.lo ≤ 8) :
    Calls Ybad.prog 19 #[.pointer (some ⟨b, 0, none⟩), .int .i64 y] w fun e w' => e = .returned (.tuple #[]) ∧ ∃ k r, (s.gr i)[k]? = some r ∧ r.y = y ∧ To ow w M qm tm s (s.setQ i ((s.gr i).eraseIdx k) (s.wt i) (s.lo - if (s.gr i).length = 1 then 1 else 0) s.wa) w' := by
  obtain ⟨gv, wv, q⟩ := h.qs i hi b hb
  obtain ⟨sqv, stv, mg, _, _⟩ := h.mg
  refine (removeGranted q mg h.oM h.fresh y hy hms hlen (by omega) (by omega)).mono ?_
  rintro e w' ⟨rfl, k, r, gv', h1, h2, f, q', mg'⟩
  refine ⟨rfl, k, r, h1, h2, updQ_to h hi hb f mg q' ?_⟩
  have : ((s.lo - if (s.gr i).length = 1 then 1 else 0 : Nat) : Int) = (s.lo : Int) - (if (s.gr i).length = 1 then 1 else 0 : Int) := by split <;> omega
  rw [this]
  exact mg'

theorem appendR (h : Rep ow w M qm tm s) (hi : i < 3) (hb : s.qb i = some b) (r : Req) (hr : r.m < 2) (hlen : (s.gr i).length ≤ 8) (hlo2 : s.lo ≤ 8) :
    Calls Ybad.prog 53 #[.pointer (some ⟨b, 0, none⟩), rv r] w fun e w' => e = .returned (.tuple #[]) ∧ To ow w M qm tm s (s.setQ i (s.gr i ++ [r]) (s.wt i) (s.lo + if (s.gr i).length = 0 then 1 else 0) s.wa) w' := by
  obtain ⟨gv, wv, q⟩ := h.qs i hi b hb
  obtain ⟨sqv, stv, mg, _, _⟩ := h.mg
  refine (appendGranted q mg h.oM h.fresh r hr hlen (by omega) (by omega)).mono ?_
  rintro e w' ⟨rfl, ow', gv', f, q', mg'⟩
  refine ⟨rfl, updQ_to h hi hb f mg q' ?_⟩
  have : ((s.lo + if (s.gr i).length = 0 then 1 else 0 : Nat) : Int) = (s.lo : Int) + (if (s.gr i).length = 0 then 1 else 0 : Int) := by split <;> omega
  rw [this]
  exact mg'

theorem convertR (h : Rep ow w M qm tm s) (hi : i < 3) (hb : s.qb i = some b) (y : Nat) (hy : has (s.gr i) y = true) (hms : ∀ r ∈ s.gr i, r.m < 2) (hlen : (s.gr i).length ≤ 8) :
    Calls Ybad.prog 52 #[.pointer (some ⟨b, 0, none⟩), .int .i64 y, .int .i64 1] w fun e w' => e = .returned (.tuple #[]) ∧ ∃ k r, (s.gr i)[k]? = some r ∧ r.y = y ∧ To ow w M qm tm s (s.setQ i ((s.gr i).set k ⟨r.y, 1, r.u⟩) (s.wt i) s.lo s.wa) w' := by
  obtain ⟨gv, wv, q⟩ := h.qs i hi b hb
  obtain ⟨sqv, stv, mg, _, _⟩ := h.mg
  refine (convert q h.fresh y hy hms hlen).mono ?_
  rintro e w' ⟨rfl, k, r, h1, h2, f, q'⟩
  exact ⟨rfl, k, r, h1, h2, updQ_to h hi hb (f.mono (by simp)) mg q' (mg.fr f h.oM (by simp [Ne.symm (q.ne_mg mg)]))⟩

theorem takeR (h : Rep ow w M qm tm s) (hi : i < 3) (hb : s.qb i = some b) {r : Req} {wt : List Req} (hw : s.wt i = r :: wt) (hrm : r.m < 2) (hlen : wt.length ≤ 8) (hwa : 1 ≤ s.wa) (hwa2 : s.wa ≤ 100) :
    Calls Ybad.prog 43 #[.pointer (some ⟨b, 0, none⟩), .int .i64 0] w fun e w' => e = .returned (rv r) ∧ To ow w M qm tm s (s.setQ i (s.gr i) wt s.lo (s.wa - 1)) w' := by
  obtain ⟨gv, wv, q⟩ := h.qs i hi b hb
  obtain ⟨sqv, stv, mg, _, _⟩ := h.mg
  rw [hw] at q
  refine (takeWaiting q mg h.oM h.fresh hrm hlen (by omega) (by omega)).mono ?_
  rintro e w' ⟨rfl, wv', f, q', mg'⟩
  refine ⟨rfl, updQ_to h hi hb f mg q' ?_⟩
  have : ((s.wa - 1 : Nat) : Int) = (s.wa : Int) - 1 := by omega
  rw [this]
  exact mg'

theorem insertR (h : Rep ow w M qm tm s) (hi : i < 3) (hb : s.qb i = some b) (r : Req) (hrm : r.m < 2) (pos : Nat) (hpos : pos = (s.wt i).length ∨ pos = 0) (hlen : (s.wt i).length ≤ 8) (hwa2 : s.wa ≤ 100) :
    Calls Ybad.prog 40 #[.pointer (some ⟨b, 0, none⟩), .int .i64 (pos : Int), rv r] w fun e w' => e = .returned (.tuple #[]) ∧ To ow w M qm tm s (s.setQ i (s.gr i) (insAt (s.wt i) pos r) s.lo (s.wa + 1)) w' := by
  obtain ⟨gv, wv, q⟩ := h.qs i hi b hb
  obtain ⟨sqv, stv, mg, _, _⟩ := h.mg
  refine (insertWaiting q mg h.oM h.fresh r hrm pos hpos hlen (by omega) (by omega)).mono ?_
  rintro e w' ⟨rfl, ow', wv', f, q', mg'⟩
  exact ⟨rfl, updQ_to h hi hb f mg q' mg'⟩

end

end Go.Proofs.YbulkbcpiDoor.rel
