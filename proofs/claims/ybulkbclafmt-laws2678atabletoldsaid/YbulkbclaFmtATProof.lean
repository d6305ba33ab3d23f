/-
  Seat b2678aF: LawS2678ATable: the told card.
-/
import Derived.Test.YbulkbclaFmtATLaw
import Derived.ProofKit
import Derived.ChangeSlices
import Derived.ChangeSame
import Derived.ChangeMaps5
import Derived.JoinedOf
import Derived.Carry
import Derived.Stop.JoinedAt
import Derived.Stop.JoinedTold
import Derived.SizedLaws
import Derived.SevenToldRow
namespace Go.Proofs.YbulkbclaFmt.lawATable
open Go.ChangeShapes Go.WideShapes Go.ChangeAt Go.RowKit Go.Kit
open Go.Extern.Stop Go.Stop Go.Extern

theorem own : ownKnob Ybaf.prog.godebug = none := by kernel_rfl
theorem laidOut : laidOutB Ybaf.pinned.checked.prog = true := by kernel_rfl
theorem cells5 : Ybaf.prog.cellsOf 5 = 1 := by kernel_rfl
theorem bytes5 : Ybaf.checked.prog.bytesOf 5 = 1 := by kernel_rfl

set_option maxRecDepth 100000 in
theorem t_lifted (os : Os) (started : os.Started) (H : Type) (enc : TypeId × Value → H) :
    ReturnsInTold none {} Ybaf.checked os 3 .any Input.okWide ((OpenSpec.ofChange Rows.lawS2678ATableSpec).preRow enc Ybaf.prog Ybaf.f3 [] false []) (fun F => ((OpenSpec.ofChange Rows.lawS2678ATableSpec).at F).post enc Ybaf.prog Ybaf.f3 false true false false) (aloneAtReturn Ybaf.prog) nothingAlways := by
  refine returnsInTold_of_row (C := Ybaf.checked) (s := OpenSpec.ofChange Rows.lawS2678ATableSpec) (by kernel_rfl) own started (by kernel_rfl) Ybaf.func3
    (OpenSpec.witness_stopped (enc := enc) (C := Ybaf.checked) false ⟨#[], #[.int .u8 0, .bool false, .slice none 0 0], []⟩ 8 (by kernel_rfl) (by kernel_rfl) (by kernel_rfl) (by kernel_rfl)) ?_
  intro F W base args ds gs before _ hF hval0 hW _ _ hsz _ _
  have hval : ∀ (j : Nat) t v, Ybaf.f3.params[j]? = some t → args[j]? = some v → Value.okWide Ybaf.prog W .any base t v := hval0
  have hW' := hW
  obtain ⟨p, q, hA0, hV, rfl, _, _⟩ := hW
  have hA : DataW.TrodAll enc Ybaf.prog W 0 (fun _ => true) true Ybaf.f3.params.toList args.toList ds p := hA0
  rw [Ybaf.params3] at hA hval
  obtain ⟨v0, v1, v2, d0, d1, d2, p0, p1, p2, rfl, rfl, rfl, h0, h1, h2⟩ := trodAll_three hA
  obtain ⟨rfl, rfl⟩ := trodVars_none hV
  obtain ⟨t, rfl, rfl, rfl, wt⟩ := open_int Ybaf.underlying5 (hval 0 5 v0 rfl rfl) h0
  obtain ⟨ll, rfl, rfl, rfl⟩ := open_bool Ybaf.underlying4 (hval 1 4 v1 rfl rfl) h1
  obtain ⟨a0, len, cap, rfl⟩ := okWide_slice Ybaf.underlying22 (hval 2 22 v2 rfl rfl)
  have h2k := h2
  obtain ⟨fuel, hf⟩ := h2
  clear hA0 hval0
  simp only [List.append_nil, List.nil_append] at hW'
  have hlt : ∀ x ∈ p2, x.block < W.heap.size := fun x hx => by simpa using hW'.lt x (by simpa using hx)
  have hargs : ∀ (W' : World), Below W.heap.size W W' → DataW.Trod enc Ybaf.prog W' 0 (fun b => decide (b < W.heap.size)) true 22 (.slice a0 len cap) d2 p2 :=
    fun W' hn => Below.trod laidOut (by kernel_rfl) (of_decide_eq_true (by kernel_rfl)) h2k hn hlt
  have fin : ∀ (e : Ending) (W' : World), (e = .returned (.bool true) ∧ Below W.heap.size W W') → ∃ v, e = .returned v ∧ ((OpenSpec.ofChange Rows.lawS2678ATableSpec).at F.told).post enc Ybaf.prog Ybaf.f3 false true false false W #[.int .u8 t, .bool ll, .slice a0 len cap] v W' := by
    rintro e W' ⟨rfl, hb⟩
    exact ⟨_, rfl, _, _, _, [], p2, [], hW', trodAll_mk1 (shut_bool Ybaf.underlying4 _), trodAll_mk3 (shut_int Ybaf.underlying5 wt) (shut_bool Ybaf.underlying4 _) (hargs _ hb), rfl, hb.frame _, fun h => by cases h⟩
  rcases open_ints Ybaf.underlying22 Ybaf.underlying5 cells5 hf with ⟨hcs, hx⟩ | ⟨a, len', cap', zs, hcs, _, hl, hm, hz, hx, hcell, hwz⟩
  · simp [Value.cells] at hcs
    obtain ⟨rfl, rfl, rfl⟩ := hcs
    by_cases h : t = 1 ∨ t = 2 ∨ t = 3
    · exact (law_nil_ok t ll W h).mono fin
    · exact (law_nil_no F.told t ll W hF (by omega) (by omega) (by omega)).mono fin
  · simp [Value.cells] at hcs
    obtain ⟨rfl, rfl, rfl⟩ := hcs
    simp only [Prod.mk.injEq] at hx
    simp only [if_true] at hz
    have hlen : len ≤ 140737488355328 := by
      obtain ⟨hd, _⟩ := hx
      have hs := sized_slice hsz (j := 2) (t := 22) (e := 5) rfl (by rw [hd]; rfl) Ybaf.underlying22
      have hr47 := reachBytes_lt
      rw [bytes5] at hs
      simp [lits] at hs
      omega
    by_cases h : t = 1 ∨ t = 2 ∨ t = 3
    · exact (law_some_ok t ll a len cap zs (by omega) hlen W hcell h).mono fin
    · exact (law_some_no F.told t ll a len cap zs (by omega) hlen W hF hcell (by omega) (by omega) (by omega)).mono fin

theorem stops : Ybaf.pinned.checked.prog.stops = ["fmt.errorf"] := by kernel_rfl
theorem stopKnobs : Ybaf.pinned.checked.prog.stopKnobs = [] := by kernel_rfl
theorem quiet (os : Os) : Stop.quiet Ybaf.pinned.checked.prog os := by
  intro k hk
  rw [stopKnobs] at hk
  cases hk

end lawATable
theorem lawS2678ATable_told : Rows.LawS2678ATableToldSaid :=
  Claim7.holds_of_told_any 3 Ybaf.f3 "fmt.errorf" [] [] _ _ _ (by kernel_rfl) rfl rfl rfl lawATable.laidOut (by kernel_rfl) rfl ⟨rfl, rfl, rfl, rfl, rfl, rfl, rfl⟩ rfl rfl (by kernel_rfl) (by kernel_rfl) Ybaf.func3 (by kernel_rfl)
    (of_decide_eq_true (by kernel_rfl)) (of_decide_eq_true (by kernel_rfl)) lawATable.stops.symm rfl lawATable.stopKnobs.symm (by kernel_rfl)
    (by kernel_rfl) (by kernel_rfl) (by kernel_rfl) (by kernel_rfl) (by kernel_rfl) (by kernel_rfl) (by kernel_rfl) (by kernel_rfl) (by kernel_rfl) rfl (by kernel_rfl) rfl rfl
    rfl rfl
    rfl (by kernel_rfl) (by kernel_rfl) (by kernel_rfl) (by decide) (by kernel_rfl)
    (OpenClaim.moreEntering_of (by kernel_rfl) (by kernel_rfl) (by kernel_rfl) (by kernel_rfl) (by kernel_rfl) (by kernel_rfl) (by kernel_rfl) (by kernel_rfl) (by kernel_rfl) (by kernel_rfl))
    ⟨_, WideRow.started_initial, lawATable.quiet _⟩
    (fun os started _ H enc _ => lawATable.t_lifted os started H enc)

#print axioms lawS2678ATable_told
end Go.Proofs.YbulkbclaFmt
