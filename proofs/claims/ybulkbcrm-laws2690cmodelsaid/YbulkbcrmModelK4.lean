/-
  Seat b2690a: LawS2690CModel: a loop over an iterator that itself holds a loop over an iterator and hands the rounds on.
-/
import Derived.Test.YbulkbcrmModelK3
namespace Go.Proofs.Ybulkbcrm.model
open Go.RowKit Go.Shelf

theorem keepsOthers_put {w : World} {l : Nat} {o o' : Obj} (h : w.heap[l]? = some o) (hc : o.isCells = false) (hw : o.isWalk = false) {B : Nat} (hl : l < B) : KpX B w (w.putObj l o') :=
  ⟨KpI.put (w := ⟨#[], w.tape, w.drawn, w.os, w.output⟩) w l o o' (Nat.zero_le _) h hc hw, ⟨by simp [World.putObj], fun k o2 hB h2 _ => by
    rw [World.putObj_heap_other (by omega)]
    exact h2⟩⟩

set_option maxHeartbeats 2000000 in
theorem rangeFuncO {n : Nat} {g : Operand} {ps : Array Tmp} {assign body : Code} {Q : Exit → Act → World → Prop} {a : Act} {w : World} (h1 : 1 ≤ n) {gf : Nat} {lb : Array Value} (hg : a.eval g = .func (.func gf) #[] lb)
    (eg : ∀ args w, (callFunc gf args).run Yba.prog w = .ok (.enter gf args) w) {S : List Rec → Prop} (hseq : SeqO (n - 1) gf lb S w) (hps : ps.size = 2)
    (I : List Rec → World → Prop) (hI : OwnFrom w.heap.size I) (h0 : I [] w) (Ax : Rec → Act → World → Prop) (hAx : ∀ x a', OwnFrom w.heap.size (fun (_ : Unit) W => Ax x a' W))
    (hassign : ∀ (m l : Nat) (pre : List Rec) (x : Rec) (W : World) (K : Act → World → Prop), I pre W → (∀ a' W', KeepsOthers W W' → KpI W W' → I pre W' → Ax x a' W' → K a' W') →
      assign.wpIn (Fence.wide.inRound l) m Yba.prog (Exit.then K (fun _ _ _ => False)) { tmps := (ps.zip (encR2 x)).foldl (fun t (p, v) => t.setIfInBounds p v) a.tmps, defers := [] } W)
    (hbody : ∀ (m l : Nat) (pre : List Rec) (x : Rec) (a' : Act) (W : World), I pre W → Ax x a' W → pre.length < 40 → body.wpIn (Fence.wide.inRound l) m Yba.prog (fun ex _ W' => ex = .normal ∧ KeepsOthers W W' ∧ KpI W W' ∧ I (pre ++ [x]) W') a' W)
    (hdone : ∀ (D : Nat) (xs : List Rec) (W : World), w.heap.size ≤ D → S xs → I xs W → W.heap[D]? = some (.deferred (some [])) → Q .normal { a with defers := { target := .collected D, args := #[] } :: a.defers } W) :
    (Code.rangeFunc g ps assign body).wpIn Fence.wide n Yba.prog Q a w := by
  refine wpIn_rangeFunc ?_
  intro fn hfn
  have hro : Fence.wide.round = none := rfl
  rw [hro]
  obtain ⟨lp, hlp⟩ : ∃ lp : LoopState → Option Code → Loop, lp = fun s p => { state := s, pending := p, fn, tmps := a.tmps, params := ps, assign, body, defers := w.heap.size } := ⟨_, rfl⟩
  obtain ⟨l, hl⟩ : ∃ l, l = w.heap.size + 1 := ⟨_, rfl⟩
  obtain ⟨W1, hW1⟩ : ∃ W1, W1 = (w.alloc (.deferred (some []))).alloc (.loop (lp .ready none)) := ⟨_, rfl⟩
  have hs1 : W1.heap.size = w.heap.size + 2 := by rw [hW1]; simp
  have hrec1 : W1.heap[l]? = some (.loop (lp .ready none)) := by
    have := alloc_new (w.alloc (.deferred (some []))) (.loop (lp .ready none))
    rw [World.size_alloc] at this
    rw [hW1, hl]
    exact this
  have hdef1 : W1.heap[w.heap.size]? = some (.deferred (some [])) := by
    rw [hW1, Below.heap_alloc _ _ _ (by simp)]
    exact alloc_new _ _
  have hI1 : I [] W1 := by rw [hW1]; exact hI.alloc _ (hI.alloc _ h0)
  have hb1 : Below w.heap.size w W1 := by rw [hW1]; exact ((Below.refl _ w).alloc (Nat.le_refl _) _).alloc (by simp) _
  refine ⟨l, [{ target := .collected w.heap.size, args := #[] }], W1, { target := .fn (.func gf) lb, args := #[.func (.yield l) #[] #[]] }, W1, gf, #[.func (.yield l) #[] #[]] ++ lb, W1, ?_, ?_, ?_, ?_, fun _ => h1, ?_⟩
  · rw [hW1, hlp, hl]
    exact run_enterLoop_outer _ _ _ _ _
  · simp only [resolve, hg]
    simp [go_sem]
  · intro f' _
    trivial
  · simp [invoke, go_sem, eg]
  · have J0 : OwnFrom W1.heap.size (fun (pre : List Rec) (V : World) => I pre V ∧ V.heap[l]? = some (.loop (lp .ready none)) ∧ V.heap[w.heap.size]? = some (.deferred (some []))) := by
      intro s V V' row hs hg' hr
      refine ⟨(ownFrom_le hI (by omega)) s V V' row hs.1 hg' hr, (hg'.block _ (heap_lt hs.2.1) (fun e => ?_)).trans hs.2.1, (hg'.block _ (heap_lt hs.2.2) (fun e => ?_)).trans hs.2.2⟩
      · have := (hr _ e.symm).1; omega
      · have := (hr _ e.symm).1; omega
    refine (hseq l _ W1 hb1 J0 ?_ ⟨hI1, hrec1, hdef1⟩).mono ?_
    · rintro m pre x W ⟨hi, hrec, hdef⟩ hlen
      have hy := run_yield (P := Yba.prog) (args := encR2 x) hrec (by rw [hlp]; exact hps.symm)
      rw [hlp] at hy
      refine ⟨fn, _, assign, body, hy, roundIn_of_wpIn hfn (hassign _ _ pre x W _ hi ?_)⟩
      clear hy
      intro a' Wa hka hkpa hia hax
      have hreca := hka.same _ _ hrec rfl
      have hdefa := hka.same _ _ hdef rfl
      refine ⟨_, run_beginRound hreca (by rw [hlp]), ?_⟩
      obtain ⟨Wb, hWb⟩ : ∃ Wb, Wb = Wa.putObj l (.loop { lp .ready none with state := .busy }) := ⟨_, rfl⟩
      have hlt := heap_lt hreca
      have hrecb : Wb.heap[l]? = some (.loop { lp .ready none with state := .busy }) := by rw [hWb]; exact World.putObj_heap_same hlt
      have hdefb : Wb.heap[w.heap.size]? = some (.deferred (some [])) := by rw [hWb]; exact (World.putObj_heap_other (by omega)).trans hdefa
      have hib : I pre Wb := by rw [hWb]; exact hI.putObj (s := pre) _ hia (by omega) hreca rfl
      have haxb : Ax x a' Wb := by rw [hWb]; exact (hAx x a').putObj (s := ()) _ hax (by omega) hreca rfl
      have hkab : KpX W1.heap.size Wa Wb := by rw [hWb]; exact keepsOthers_put hreca rfl rfl (by omega)
      rw [← hWb]
      refine wpIn_mono (hbody _ _ pre x a' Wb hib haxb hlen) ?_
      rintro ex a3 Wc ⟨rfl, hkc, hkpc, hic⟩
      have hrecc := hkc.same _ _ hrecb rfl
      have hdefc := hkc.same _ _ hdefb rfl
      have hend := run_endRound (P := Yba.prog) none hrecc
      have hlc := heap_lt hrecc
      refine ⟨_, _, hend, rfl, ⟨hI.putObj (s := pre ++ [x]) _ hic (by omega) hrecc rfl, ?_, (World.putObj_heap_other (by omega)).trans hdefc⟩, ?_⟩
      · rw [World.putObj_heap_same hlc, hlp]
        rfl
      · refine (KpX.trans (KpX.trans ⟨hkpa, hka.from _⟩ hkab) ⟨hkpc, hkc.from _⟩).trans ?_
        exact keepsOthers_put hrecc rfl rfl (by omega)
    · rintro e W2 ⟨⟨v, rfl⟩, xs, hS, hi, hrec, hdef⟩
      refine ⟨none, _, by have := run_endLoop (P := Yba.prog) hrec (by rw [hlp]; simp); rw [hlp] at this; exact this, hdone _ xs _ (Nat.le_refl _) hS (hI.putObj (s := xs) _ hi (by omega) hrec rfl) ((World.putObj_heap_other (by omega)).trans hdef)⟩

end Go.Proofs.Ybulkbcrm.model
