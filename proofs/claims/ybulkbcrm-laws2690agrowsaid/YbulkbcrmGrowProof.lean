/-
  Seat b2690a: LawS2690AGrow: the row.
-/
import Derived.Test.YbulkbcrmGrowWalk
import Derived.ProofKit
import Derived.OpenShut
import Derived.ShutString
import Derived.ChangeOld
import Derived.Carry
import Derived.Deep.Slices
import Derived.Deep.Strs
namespace Go.Proofs.Ybulkbcrm.places
open Go.ChangeShapes Go.WideShapes Go.ChangeAt Go.RowKit
open Go.ChangeMaps (open_string shut_string)

namespace Grow
theorem own : ownKnob Yba.prog.godebug = none := by kernel_rfl
theorem laidOut : laidOutB Yba.prog = true := by kernel_rfl
theorem cells37 : Yba.prog.cellsOf 37 = 3 := by kernel_rfl
theorem cells9 : Yba.prog.cellsOf 9 = 1 := by kernel_rfl
theorem cells4 : Yba.prog.cellsOf 4 = 1 := by kernel_rfl

theorem three {α : Type} {l : List α} (h : l.length = 3) : ∃ a b c, l = [a, b, c] := by
  match l, h with
  | [a, b, c], _ => exact ⟨a, b, c, rfl⟩

set_option maxRecDepth 100000 in
/-- One element of the argument: three cells. -/
theorem triple {H : Type} {enc : TypeId × Value → H} {w : World} {spare : Nat → Bool} {held : Bool} {n : Nat} {a : Addr} {cs : List Value} {x : DataW H × List MemPlace} (h1 : w.cells? 0 a 3 = some cs) (h2 : DataW.trod enc Yba.prog w 0 spare held n 37 cs = some x) :
    ∃ q : Q, w.cell? a = some (.string q.1) ∧ w.cell? (a.add 1) = some (.bool q.2.1) ∧ w.cell? (a.add 2) = some (.bool q.2.2) := by
  obtain ⟨_, hlen, hcell⟩ := World.cells?_some h1
  obtain ⟨y0, y1, y2, m, _, _, t0, t1, t2⟩ := Deep.trod_struct3 Yba.underlying37 h2
  obtain ⟨v0, v1, v2, rfl⟩ := three hlen
  simp only [cells9, cells4] at t0 t1 t2
  obtain ⟨s, e0, _⟩ := DataW.trod_string Yba.underlying9 t0
  obtain ⟨b1, e1, _⟩ := DataW.trod_bool Yba.underlying4 t1
  obtain ⟨b2, e2, _⟩ := DataW.trod_bool Yba.underlying4 t2
  simp at e0 e1 e2
  subst e0 e1 e2
  exact ⟨(s, b1, b2), by simpa [Addr.add] using hcell 0 (by omega), by simpa using hcell 1 (by omega), by simpa using hcell 2 (by omega)⟩

set_option maxRecDepth 100000 in
theorem grow_lifted (os : Os) (started : os.Started) (H : Type) (enc : TypeId × Value → H) :
    ReturnsInHanded {} Yba.checked os 4 .any (Rows.lawS2690AGrowSpec.pre6 enc Yba.prog Yba.f4 Rows.lawS2690AGrowRow.domain false) (Rows.lawS2690AGrowSpec.post enc Yba.prog Yba.f4 false true false false) := by
  refine returnsInHanded_of_change (C := Yba.checked) own started (by kernel_rfl) Yba.func4
    (ChangeSpec.witness6 (enc := enc) (C := Yba.checked) false ⟨#[], #[.slice none 0 0, .int .u16 0, .string ⟨#[]⟩], []⟩ 8 (by kernel_rfl) (by kernel_rfl) (by kernel_rfl) (by kernel_rfl)) ?_
  intro W base args ds gs before hval0 hW hcnd _
  have hval : ∀ (j : Nat) t v, Yba.f4.params[j]? = some t → args[j]? = some v → Value.okWide Yba.prog W .any base t v := hval0
  have hW' := hW
  obtain ⟨p, q, hA0, hV, rfl, hfz, hnd⟩ := hW
  have hA : DataW.TrodAll enc Yba.prog W 0 (fun _ => true) true Yba.f4.params.toList args.toList ds p := hA0
  rw [Yba.params4] at hA hval
  obtain ⟨v0, v1, v2, d0, d1, d2, p0, p1, p2, rfl, rfl, rfl, h0, h1, h2⟩ := trodAll_three hA
  obtain ⟨rfl, rfl⟩ := trodVars_none hV
  obtain ⟨a0, len0, cap0, rfl⟩ := okWide_slice Yba.underlying34 (hval 0 34 v0 rfl rfl)
  obtain ⟨i, rfl, rfl, rfl, wi⟩ := open_int Yba.underlying35 (hval 1 35 v1 rfl rfl) h1
  obtain ⟨v, rfl, rfl, rfl, wv⟩ := open_string Yba.underlying9 (hval 2 9 v2 rfl rfl) h2
  have k0 := h0
  have lt0 : ∀ x ∈ p0, x.block < W.heap.size := by obtain ⟨m, hm⟩ := k0; exact DataW.trod_lt m _ _ _ hm
  have hi : 0 ≤ i ∧ i ≤ 65535 := by
    have := wi
    simp [Lit.wf, IntKind.min, IntKind.max, IntKind.signed, IntKind.bits] at this
    exact this
  clear hA0 hval0
  have walk : Calls Yba.prog 4 #[.slice a0 len0 cap0, .int .u16 i, .string v] W fun e w' => e = .returned (.bool true) ∧ Below W.heap.size W w' := by
    by_cases hl : 1024 < len0
    · have hl' : (1024 : Int) < (len0 : Int) := by omega
      go_enter Yba.func4, Yba.ntmps4
      go_wp2
      go_ret
      exact ⟨rfl, Below.refl _ _⟩
    by_cases hz : len0 = 0
    · subst hz
      exact grow_some a0 cap0 [] i v W (by simp) hi.1 hi.2 (fun k q hq => by simp at hq)
    obtain ⟨fuel, hf⟩ := h0
    rcases Deep.open_slice Yba.underlying34 hf with ⟨hcs, _⟩ | ⟨x, l, c, m, n, D, Pl, hcs, _, hl2, hm2, hmm, _, hx⟩
    · simp [Value.cells] at hcs
      omega
    · simp [Value.cells] at hcs
      obtain ⟨rfl, rfl, rfl⟩ := hcs
      simp only [if_true] at hmm
      rw [cells37] at hx
      have each : ∀ k, k < m → ∃ q : Q, W.cell? (x.add (k * 3)) = some (.string q.1) ∧ W.cell? ((x.add (k * 3)).add 1) = some (.bool q.2.1) ∧ W.cell? ((x.add (k * 3)).add 2) = some (.bool q.2.2) := by
        intro k hk
        obtain ⟨cs', g1, g2⟩ := hx k hk
        exact triple g1 g2
      obtain ⟨f, hfq⟩ := Deep.choose_lt each
      obtain ⟨b, off, spot⟩ := x
      have hspot : spot = none := by simpa [Addr.add] using World.cell?_spot (hfq 0 (by omega)).1
      subst hspot
      have hb : b < W.heap.size := by
        have hc := (hfq 0 (by omega)).1
        rcases Nat.lt_or_ge b W.heap.size with h' | h'
        · exact h'
        · simp [World.cell?, Addr.add, Array.getElem?_eq_none h'] at hc
      have hlen : ((List.range len0).map f).length = len0 := by simp
      have := grow_some (some ⟨b, off, none⟩) cap0 ((List.range len0).map f) i v W (by omega) hi.1 hi.2 (fun k q hq => by
        have hk : k < len0 := by
          have := (List.getElem?_eq_some_iff.1 hq).1
          omega
        have e : f k = q := by
          simp [hk] at hq
          exact hq
        obtain ⟨c0, c1, c2⟩ := hfq k (by omega)
        rw [e, add_plain] at c0 c1 c2
        rw [add_plain] at c1 c2
        exact ⟨b, off, rfl, hb, c0, c1, c2⟩)
      rw [hlen] at this
      exact this
  refine walk.mono fun e W' ⟨he, bel⟩ => ?_
  subst he
  exact ⟨_, rfl, _, _, _, [], _, [], hW', trodAll_mk1 (shut_bool Yba.underlying4 _), trodAll_mk3 (Below.trod laidOut (by kernel_rfl) (of_decide_eq_true (by kernel_rfl)) k0 bel lt0) (shut_int Yba.underlying35 wi) (shut_string Yba.underlying9 wv), rfl, bel.frame _, fun h => by cases h⟩

theorem grow_over : Rows.lawS2690AGrowRow.holds Yba.pinned (OpenSpec.ofChange Rows.lawS2690AGrowSpec) :=
  OpenClaim.holds_of_wide 4 Yba.f4 rfl rfl rfl rfl rfl rfl rfl ⟨rfl, rfl, rfl, rfl, rfl⟩ rfl rfl rfl rfl rfl (by kernel_rfl) Yba.func4 (by kernel_rfl)
    (of_decide_eq_true (by kernel_rfl)) (by unfold Func.isWrapper; first | (rw [if_pos (by decide +kernel)]; kernel_rfl) | (rw [if_neg (by decide +kernel)]; exact ⟨rfl, rfl⟩))
    (fun os started H enc _ => grow_lifted os started H enc)
end Grow

end places
/-- The statement. -/
theorem lawS2690AGrow_said : Rows.LawS2690AGrowSaid := places.Grow.grow_over
#print axioms lawS2690AGrow_said
end Go.Proofs.Ybulkbcrm
