/-
  Seat b2680aD: LawS2680BOthers: the row and the tied card.
-/
import Derived.Test.YbulkbcmcDoorBLaid
import Derived.Test.YbulkbcmcDoorBOthOwn
import Derived.Test.YbulkbcmcDoorCards
namespace Go.Proofs.YbulkbcmcDoor.lawB
open Go.ChangeShapes Go.WideShapes Go.ChangeAt Go.RowKit

theorem oth_walk (a : Option Addr) (len cap : Nat) (zs : List Int) (ho : Bool) (os s : Int) (w : World) (hr : IsRow .u8 w a len cap zs) (o0 : 0 ≤ os) (o1 : os ≤ 255) (s0 : 0 ≤ s) (s1 : s ≤ 255) (ht : Tab w) :
    Calls Ybad.prog 3 #[.slice a len cap, .bool ho, .int .u8 os, .int .u8 s] w fun e w' => e = .returned (.bool true) ∧ Below w.heap.size w w' := by
  by_cases hl : len ≤ 1024
  · cases ho
    · exact others_none a len cap zs os s w hr s0 s1 hl ht
    · exact others_own a len cap zs os s w hr o0 o1 s0 s1 hl ht
  · go_enter Ybad.func3, Ybad.ntmps3
    go_wp2
    go_ret
    exact ⟨rfl, Below.refl _ _⟩

set_option maxRecDepth 100000 in
theorem oth_lifted (os : Os) (started : os.Started) (H : Type) (enc : TypeId × Value → H) :
    ReturnsInHanded {} Ybad.checked os 3 .any (fun w args => (Rows.lawS2680BOthersSpec.pre enc Ybad.prog Ybad.f3 [] false w args ∧ laidMetH Ybad.prog Rows.lawS2680BOthersRow.laid w) ∧ sizedMet enc Ybad.prog Ybad.f3 (OpenSpec.ofChange Rows.lawS2680BOthersSpec) false w args)
      (Rows.lawS2680BOthersSpec.post enc Ybad.prog Ybad.f3 false true false false) := by
  refine returnsInHanded_of_change_and (C := Ybad.checked) (X := fun w _ => laidMetH Ybad.prog Rows.lawS2680BOthersRow.laid w) (fun _ _ _ hh h => h.of_heap hh) own started (by kernel_rfl) Ybad.func3
    (ChangeSpec.witness_shaped (enc := enc) (C := Ybad.checked) (os := os) (X := fun w _ => laidMetH Ybad.prog Rows.lawS2680BOthersRow.laid w) false (World.doorLaid Ybad.prog 1403 os) #[.slice none 0 0, .bool false, .int .u8 0, .int .u8 0] 8 rfl (World.shaped_of_RefB (by kernel_rfl) (by kernel_rfl)) (by kernel_rfl) (by kernel_rfl) (by kernel_rfl) (door_met os _)) ?_
  intro W base args ds gs before hval0 hW _ _ hL _
  have hval : ∀ (j : Nat) t v, Ybad.f3.params[j]? = some t → args[j]? = some v → Value.okWide Ybad.prog W .any base t v := hval0
  have hW' := hW
  obtain ⟨p, q, hA0, hV, rfl, hfz, hnd⟩ := hW
  have hA : DataW.TrodAll enc Ybad.prog W 0 (fun _ => true) true Ybad.f3.params.toList args.toList ds p := hA0
  rw [Ybad.params3] at hA hval
  obtain ⟨v0, v1, v2, v3, d0, d1, d2, d3, p0, p1, p2, p3, rfl, rfl, rfl, h0, h1, h2, h3⟩ := trodAll_four hA
  obtain ⟨g, t, cs, fuelv, d, pv, rfl, hg, ht, hvar, hd, rfl⟩ := trodVars_one (n := varName) hV
  obtain rfl := Option.some.inj (gConf.symm.trans hg)
  obtain rfl := Option.some.inj (tConf.symm.trans ht)
  obtain ⟨a0, len0, cap0, rfl⟩ := okWide_slice Ybad.underlying22 (hval 0 22 v0 rfl rfl)
  have k0 := h0
  have lt0 : ∀ x ∈ p0, x.block < W.heap.size := by obtain ⟨m, hm⟩ := k0; exact DataW.trod_lt m _ _ _ hm
  obtain ⟨z0, w0⟩ : ∃ zs, IsRow .u8 W a0 len0 cap0 zs := by
    obtain ⟨fuel, hf⟩ := h0
    rcases open_ints Ybad.underlying22 Ybad.underlying5 (by kernel_rfl) hf with ⟨hcs, _⟩ | ⟨x, l, c, zs, hcs, _, hl, hm, hz, _, hcell, hwz⟩
    · simp [Value.cells] at hcs
      obtain ⟨rfl, rfl, rfl⟩ := hcs
      exact ⟨[], .inl ⟨rfl, rfl, rfl, rfl⟩⟩
    · simp [Value.cells] at hcs
      obtain ⟨rfl, rfl, rfl⟩ := hcs
      exact ⟨zs, .inr ⟨_, rfl, hl, hm, by simpa using hz, hcell, hwz⟩⟩
  obtain ⟨ho, rfl, rfl, rfl⟩ := open_bool Ybad.underlying4 (hval 1 4 v1 rfl rfl) h1
  obtain ⟨a2, rfl, rfl, rfl, w2⟩ := open_int Ybad.underlying5 (hval 2 5 v2 rfl rfl) h2
  obtain ⟨a3, rfl, rfl, rfl, w3⟩ := open_int Ybad.underlying5 (hval 3 5 v3 rfl rfl) h3
  have hTab : Tab W := tab_of_laid hL
  have hs2 : 0 ≤ a2 ∧ a2 ≤ 255 := by
    have := w2
    simp [Lit.wf, IntKind.min, IntKind.max, IntKind.signed, IntKind.bits] at this
    exact this
  have hs3 : 0 ≤ a3 ∧ a3 ≤ 255 := by
    have := w3
    simp [Lit.wf, IntKind.min, IntKind.max, IntKind.signed, IntKind.bits] at this
    exact this
  clear hA0 hval0
  refine (oth_walk a0 len0 cap0 z0 ho a2 a3 W w0 hs2.1 hs2.2 hs3.1 hs3.2 hTab).mono fun e W' ⟨he, bel⟩ => ?_
  subst he
  exact ⟨_, rfl, _, _, _, [], _, _, hW', trodAll_mk1 (shut_bool Ybad.underlying4 _), trodAll_mk4 (Below.trod laidOut (by kernel_rfl) (of_decide_eq_true (by kernel_rfl)) k0 bel lt0) (shut_bool Ybad.underlying4 _) (shut_int Ybad.underlying5 w2) (shut_int Ybad.underlying5 w3), vars_below bel hTab.pos hvar hd, bel.frame _, fun h => by cases h⟩

theorem oth_holds : Rows.LawS2680BOthersSaid :=
  OpenClaim.holds_of_wide 3 Ybad.f3 rfl rfl rfl rfl rfl rfl rfl ⟨rfl, rfl, rfl, rfl, rfl⟩ rfl rfl rfl rfl rfl (by kernel_rfl) Ybad.func3 (by kernel_rfl)
    (of_decide_eq_true (by kernel_rfl)) (by unfold Func.isWrapper; first | (rw [if_pos (by decide +kernel)]; kernel_rfl) | (rw [if_neg (by decide +kernel)]; exact ⟨rfl, rfl⟩))
    (fun os started H enc _ => oth_lifted os started H enc)

end lawB
theorem lawS2680BOthers_card : Rows.LawS2680BOthersCardSaid :=
  Claim7.holds_tied_plain_at .later [] [.called] true _ false
    lawB.oth_holds (fun _ h => by cases h) (by kernel_rfl) (fun _ h => by cases h) lawS2680BOthers_row_tie rfl ⟨rfl, rfl⟩ (by kernel_rfl) rfl
    (fun f fn hf hfn => by
      obtain rfl : f = 3 := Option.some.inj ((show Ybad.prog.funcNamed Rows.lawS2680BOthersRow.func = some 3 by kernel_rfl).symm.trans hf) |>.symm
      obtain rfl : fn = Ybad.f3 := (Option.some.inj (Ybad.func3.symm.trans hfn)).symm
      exact ⟨by kernel_rfl, fun j t ht => by
        rw [Ybad.params3] at ht
        have hm : t ∈ [22, 4, 5, 5] := by simpa using Array.mem_of_getElem? ht
        have hall : ([22, 4, 5, 5].all fun u => !Ybad.prog.wantsStandIn u) = true := by kernel_rfl
        exact (show Ybad.prog.wantsStandIn t = false by simpa using List.all_eq_true.1 hall t hm)⟩)
    (by kernel_rfl)
#print axioms lawS2680BOthers_card
end Go.Proofs.YbulkbcmcDoor
