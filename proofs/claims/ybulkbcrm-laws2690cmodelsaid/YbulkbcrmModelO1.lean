/-
  Seat b2690a: LawS2690CModel: the argument's row of drawn steps, opened.
-/
import Derived.Test.YbulkbcrmModelA
import Derived.ProofKit
import Derived.OpenShut
import Derived.ChangeOld
import Derived.Carry
import Derived.Deep.SlicePairs
namespace Go.Proofs.Ybulkbcrm.model
open Go.RowKit Go.ChangeShapes Go.WideShapes Go.Deep

section
variable {H : Type} {enc : TypeId × Value → H} {w : World} {spare : Nat → Bool} {held : Bool}

theorem cell_in {b off : Nat} {v : Value} (h : w.cell? ⟨b, off, none⟩ = some v) : b < w.heap.size := by
  rcases Nat.lt_or_ge b w.heap.size with h' | h'
  · exact h'
  · simp [World.cell?, Array.getElem?_eq_none h'] at h

theorem mrow_of {fuel : Nat} {v : Value} {x : DataW H × List MemPlace} (h : DataW.trod enc Yba.prog w 0 spare held fuel 55 [v] = some x) : ∃ ms, MRow w v ms := by
  rcases open_slice1 Yba.underlying55 (by kernel_rfl) h with ⟨hcs, _⟩ | ⟨a, len, cap, m, n, V, D, Pl, hcs, _, hl, _, hmm, _, hx⟩
  · cases hcs
    exact ⟨[], none, 0, rfl, fun j m hj => by simp at hj⟩
  · cases hcs
    have hlm : len ≤ m := by rw [hmm]; split <;> omega
    have each : ∀ i, i < len → ∃ y : Nat, y < 256 ∧ ∃ b off, some a = some (⟨b, off, none⟩ : Addr) ∧ b < w.heap.size ∧ w.cell? ⟨b, off + i, none⟩ = some (.int .u8 (y : Int)) := by
      intro i hi
      obtain ⟨c0, t0⟩ := hx i (by omega)
      obtain ⟨z, e0, _, wz⟩ := DataW.trod_int Yba.underlying5 t0
      simp at e0
      rw [e0] at c0
      simp [Lit.wf, IntKind.min, IntKind.max, IntKind.signed, IntKind.bits] at wz
      obtain ⟨b, off, spot⟩ := a
      have hspot : spot = none := by simpa [Addr.add] using World.cell?_spot (hx 0 (by omega)).1
      subst hspot
      rw [add_plain] at c0
      refine ⟨z.toNat, by omega, b, off, rfl, cell_in c0, ?_⟩
      rw [c0, Int.toNat_of_nonneg wz.1]
    obtain ⟨f, hf⟩ := choose_lt each
    refine ⟨(List.range len).map f, some a, cap, by simp, fun j m hj => ?_⟩
    have hjl : j < len := by have := (List.getElem?_eq_some_iff.1 hj).1; simpa using this
    have e : m = f j := by simp [hjl] at hj; exact hj.symm
    subst e
    exact hf j hjl

set_option maxRecDepth 100000 in
theorem srow_of {fuel : Nat} {a : Option Addr} {len cap : Nat} {x : DataW H × List MemPlace} (h : DataW.trod enc Yba.prog w 0 spare held fuel 39 [.slice a len cap] = some x) : ∃ ds, ds.length = len ∧ SRow w a ds := by
  rcases open_slice Yba.underlying39 h with ⟨hcs, _⟩ | ⟨a', len', cap', m, n, D, Pl, hcs, _, hl, _, hmm, _, hx⟩
  · cases hcs
    exact ⟨[], rfl, fun k d hk => by simp at hk⟩
  · cases hcs
    have hlm : len ≤ m := by rw [hmm]; split <;> omega
    have ce : Yba.prog.cellsOf 57 = 4 := by kernel_rfl
    have c5 : Yba.prog.cellsOf 5 = 1 := by kernel_rfl
    have c55 : Yba.prog.cellsOf 55 = 1 := by kernel_rfl
    have each : ∀ i, i < len → ∃ d : StepD, SAt w (some a') i d := by
      intro i hi
      obtain ⟨cs', h1, h2⟩ := hx i (by omega)
      rw [ce] at h1
      obtain ⟨_, hlen, hcell⟩ := World.cells?_some h1
      obtain ⟨xs, k, _, _, _, _, hf⟩ := DataW.trod_struct Yba.underlying57 h2
      match cs', hlen with
      | [v0, v1, v2, v3], _ =>
        have g0 := hf 0 _ rfl
        have g1 := hf 1 _ rfl
        have g2 := hf 2 _ rfl
        have g3 := hf 3 _ rfl
        have l4 : xs.length = 4 := by assumption
        match xs, l4 with
        | [y0, y1, y2, y3], _ =>
          simp [c5, c55] at g0 g1 g2 g3
          obtain ⟨z0, e0, _, wz0⟩ := DataW.trod_int Yba.underlying5 g0
          obtain ⟨z1, e1, _, wz1⟩ := DataW.trod_int Yba.underlying5 g1
          obtain ⟨z2, e2, _, wz2⟩ := DataW.trod_int Yba.underlying5 g2
          obtain ⟨ms, hms⟩ := mrow_of g3
          simp [Lit.wf, IntKind.min, IntKind.max, IntKind.signed, IntKind.bits] at wz0 wz1 wz2
          simp at e0 e1 e2
          have k0 := hcell 0 (by omega)
          have k1 := hcell 1 (by omega)
          have k2 := hcell 2 (by omega)
          have k3 := hcell 3 (by omega)
          rw [add_add] at k0 k1 k2 k3
          obtain ⟨b, off, spot⟩ := a'
          have hspot : spot = none := by
            obtain ⟨cs0, q1, _⟩ := hx 0 (by omega)
            rw [ce] at q1
            obtain ⟨_, hlen0, hcell0⟩ := World.cells?_some q1
            have q2 := hcell0 0 (by omega)
            rw [add_add] at q2
            match cs0, hlen0 with
            | [u0, u1, u2, u3], _ => simpa [Addr.add] using World.cell?_spot q2
          subst hspot
          rw [add_plain] at k0 k1 k2 k3
          simp only [List.getElem?_cons_zero, List.getElem?_cons_succ, Nat.add_zero, ← Nat.add_assoc] at k0 k1 k2 k3
          rw [e0] at k0
          rw [e1] at k1
          rw [e2] at k2
          refine ⟨⟨z0.toNat, z1.toNat, z2.toNat, v3, ms⟩, ⟨by simp only; omega, by simp only; omega, by simp only; omega⟩, ⟨b, off, rfl, cell_in k0, ?_, ?_, ?_, k3⟩, hms⟩
          · rw [k0, Int.toNat_of_nonneg wz0.1]
          · rw [k1, Int.toNat_of_nonneg wz1.1]
          · rw [k2, Int.toNat_of_nonneg wz2.1]
    have pick : ∃ f : Nat → StepD, ∀ i, i < len → SAt w (some a') i (f i) := by
      have : Inhabited StepD := ⟨⟨0, 0, 0, .slice none 0 0, []⟩⟩
      exact choose_lt each
    obtain ⟨f, hf⟩ := pick
    refine ⟨(List.range len).map f, by simp, fun k d hk => ?_⟩
    have hkl : k < len := by have := (List.getElem?_eq_some_iff.1 hk).1; simpa using this
    have e : d = f k := by simp [hkl] at hk; exact hk.symm
    subst e
    exact hf k hkl
end

end Go.Proofs.Ybulkbcrm.model
