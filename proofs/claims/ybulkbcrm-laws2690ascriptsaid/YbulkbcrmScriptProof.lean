/-
  Seat b2690a: LawS2690AScript: the row.
-/
import Derived.Test.YbulkbcrmScriptWalk
import Derived.ProofKit
import Derived.OpenShut
import Derived.ChangeOld
import Derived.Carry
import Derived.Deep.SlicePairs
namespace Go.Proofs.Ybulkbcrm.places
open Go.ChangeShapes Go.WideShapes Go.ChangeAt Go.RowKit

theorem own : ownKnob Yba.prog.godebug = none := by kernel_rfl
theorem laidOut : laidOutB Yba.prog = true := by kernel_rfl
def strOf : Value → ByteArray | .string s => s | _ => ⟨#[]⟩

set_option maxRecDepth 100000 in
theorem script_lifted (os : Os) (started : os.Started) (H : Type) (enc : TypeId × Value → H) :
    ReturnsInHanded {} Yba.checked os 3 .any (Rows.lawS2690AScriptSpec.pre6 enc Yba.prog Yba.f3 Rows.lawS2690AScriptRow.domain false) (Rows.lawS2690AScriptSpec.post enc Yba.prog Yba.f3 false true false false) := by
  refine returnsInHanded_of_change (C := Yba.checked) own started (by kernel_rfl) Yba.func3
    (ChangeSpec.witness6 (enc := enc) (C := Yba.checked) false ⟨#[], #[.slice none 0 0], []⟩ 8 (by kernel_rfl) (by kernel_rfl) (by kernel_rfl) (by kernel_rfl)) ?_
  intro W base args ds gs before hval0 hW hcnd _
  have hval : ∀ (j : Nat) t v, Yba.f3.params[j]? = some t → args[j]? = some v → Value.okWide Yba.prog W .any base t v := hval0
  have hW' := hW
  obtain ⟨p, q, hA0, hV, rfl, hfz, hnd⟩ := hW
  have hA : DataW.TrodAll enc Yba.prog W 0 (fun _ => true) true Yba.f3.params.toList args.toList ds p := hA0
  rw [Yba.params3] at hA hval
  obtain ⟨v0, d0, rfl, rfl, h0⟩ := trodAll_one hA
  obtain ⟨rfl, rfl⟩ := trodVars_none hV
  obtain ⟨a0, len0, cap0, rfl⟩ := okWide_slice Yba.underlying22 (hval 0 22 v0 rfl rfl)
  have k0 := h0
  have lt0 : ∀ x ∈ p, x.block < W.heap.size := by obtain ⟨m, hm⟩ := k0; exact DataW.trod_lt m _ _ _ hm
  clear hA0 hval0
  have walk : Calls Yba.prog 3 #[.slice a0 len0 cap0] W fun e w' => e = .returned (.bool true) ∧ Below W.heap.size W w' := by
    by_cases hl : 1024 < len0
    · exact script_long a0 len0 cap0 W hl
    by_cases hz : len0 = 0
    · subst hz
      exact script_none a0 cap0 W
    obtain ⟨fuel, hf⟩ := h0
    rcases Deep.open_slice_pairs Yba.underlying22 Yba.underlying28 (by kernel_rfl) rfl rfl (by kernel_rfl) (by kernel_rfl) hf with ⟨hcs, _⟩ | ⟨x, l, c, m, n, V0, V1, D0, D1, P0, P1, hcs, _, hl2, hm2, hmm, _, hx⟩
    · simp [Value.cells] at hcs
      omega
    · simp [Value.cells] at hcs
      obtain ⟨rfl, rfl, rfl⟩ := hcs
      simp only [if_true] at hmm
      obtain ⟨b, off, spot⟩ := x
      have hspot : spot = none := by simpa [Addr.add] using World.cell?_spot (hx 0 (by omega)).1
      subst hspot
      have hb : b < W.heap.size := by
        have hc := (hx 0 (by omega)).1
        rcases Nat.lt_or_ge b W.heap.size with h' | h'
        · exact h'
        · simp [World.cell?, Addr.add, Array.getElem?_eq_none h'] at hc
      refine script_some b off len0 cap0 (fun i => intOf (V0 i)) (fun i => strOf (V1 i)) W (by omega) ?_ hb
      intro i hi
      obtain ⟨c0, c1, t0, t1⟩ := hx i (by omega)
      rw [add_plain] at c0 c1
      obtain ⟨z, e0, _, wz⟩ := DataW.trod_int Yba.underlying5 t0
      obtain ⟨s, e1, _⟩ := DataW.trod_string Yba.underlying9 t1
      simp at e0 e1
      rw [e0] at c0
      rw [e1] at c1
      have hwz := wz
      simp [Lit.wf, IntKind.min, IntKind.max, IntKind.signed, IntKind.bits] at hwz
      simp only [e0, e1, intOf, strOf]
      exact ⟨c0, by rw [Nat.add_assoc]; exact c1, hwz⟩
  refine walk.mono fun e W' ⟨he, bel⟩ => ?_
  subst he
  exact ⟨_, rfl, _, _, _, [], _, [], hW', trodAll_mk1 (shut_bool Yba.underlying4 _), trodAll_mk1 (Below.trod laidOut (by kernel_rfl) (of_decide_eq_true (by kernel_rfl)) k0 bel lt0), rfl, bel.frame _, fun h => by cases h⟩

theorem script_over : Rows.lawS2690AScriptRow.holds Yba.pinned (OpenSpec.ofChange Rows.lawS2690AScriptSpec) :=
  OpenClaim.holds_of_wide 3 Yba.f3 rfl rfl rfl rfl rfl rfl rfl ⟨rfl, rfl, rfl, rfl, rfl⟩ rfl rfl rfl rfl rfl (by kernel_rfl) Yba.func3 (by kernel_rfl)
    (of_decide_eq_true (by kernel_rfl)) (by unfold Func.isWrapper; first | (rw [if_pos (by decide +kernel)]; kernel_rfl) | (rw [if_neg (by decide +kernel)]; exact ⟨rfl, rfl⟩))
    (fun os started H enc _ => script_lifted os started H enc)

end places
/-- The statement. -/
theorem lawS2690AScript_said : Rows.LawS2690AScriptSaid := places.script_over
#print axioms lawS2690AScript_said
end Go.Proofs.Ybulkbcrm
