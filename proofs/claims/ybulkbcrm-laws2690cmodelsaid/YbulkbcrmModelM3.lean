/-
  Seat b2690a: LawS2690CModel: keptOf, the registry's add.
-/
import Derived.Test.YbulkbcrmModelM2
namespace Go.Proofs.Ybulkbcrm.model
open Go.RowKit

/-- k is the least of low and the marks. -/
def IsMin (low : Nat) (g : Nat → Option Nat) (k : Nat) : Prop := k ≤ low ∧ (∀ i, i < 4 → ∀ n, g i = some n → k ≤ n) ∧ (k = low ∨ ∃ i, i < 4 ∧ g i = some k)

theorem isMin_none {lo : Nat} {g : Nat → Option Nat} (h : ∀ i, g i = none) : IsMin lo g lo := by
  refine ⟨Nat.le_refl _, fun i _ n hn => ?_, .inl rfl⟩
  rw [h i] at hn
  cases hn

set_option maxRecDepth 100000 in
set_option maxHeartbeats 2000000 in
theorem keptOf {w : World} {sb low rel : Nat} {mv : Value} {kept : Nat} {lv hv : Value} {g : Nat → Option Nat} (lo : Nat) (h : SB w sb low rel mv kept lv hv) (hm : MM w mv g) :
    Calls Yba.prog 19 #[.pointer (some ⟨sb, 2, none⟩), .int .u64 (lo : Int)] w fun e w' => ∃ k : Nat, e = .returned (.int .u64 (k : Int)) ∧ IsMin lo g k ∧ Fr (fun _ => False) w w' := by
  have c3 := h.c3
  have hlt := h.lt
  rcases hm with ⟨rfl, h0⟩ | ⟨m, rfl, h0⟩
  · have hnx : ∀ ty, (Instr.next (.pointer (some ⟨w.heap.size, 0, none⟩)) false ty).run Yba.prog (w.alloc (.mapIter none 0 #[] 0)) = _ := fun ty => run_next_nilMap w ty 0 0 #[]
    have hrg := run_range_nilMap (P := Yba.prog) w 66 46 30 Yba.underlying66
    have H0 := hide h0
    clear h h0
    go_enter Yba.func19, Yba.ntmps19
    go_wp2_with fail
    go_loopw [1] (fun s1 wr => s1 = .int .u64 (lo : Int) ∧ wr = w.alloc (.mapIter none 0 #[] 0)) (fun _ _ => 0)
    case atStart => exact ⟨rfl, rfl⟩
    case round =>
      obtain ⟨rfl, rfl⟩ := hrel
      go_wp2_with fail
      go_ret
      exact ⟨lo, rfl, isMin_none H0.out, (Fr.refl _ w).alloc _⟩
  · obtain ⟨w1, cnt, hrun, hr, hg, hs⟩ := h0.range keyed46 Yba.underlying66
    have HR := hide hr
    have F1 := hide ((Fr.refl (fun _ => False) w).grown hg (fun k e => by cases e))
    obtain ⟨r, hr0⟩ : ∃ r, w.heap.size = r := ⟨_, rfl⟩
    rw [hr0] at hrun HR
    clear h h0 hr hg hs
    go_enter Yba.func19, Yba.ntmps19
    go_wp2_with fail
    go_loopw [1] (fun s1 wr => ∃ (k cnt : Nat) (left : Nat → Bool), s1 = .int .u64 (k : Int) ∧ PMr wr 46 .u32 4 m r (gv g) left cnt ∧ Fr (fun _ => False) w wr ∧ k ≤ lo ∧ (∀ i, i < 4 → left i = false → ∀ n, g i = some n → k ≤ n) ∧ (k = lo ∨ ∃ i, i < 4 ∧ g i = some k)) (fun _ wr => wr.rangeLeft m r)
    case atStart =>
      refine ⟨lo, cnt, _, rfl, HR.out, F1.out, Nat.le_refl _, fun i hi hl n hn => ?_, .inl rfl⟩
      simp [gv, hn] at hl
    case round =>
      obtain ⟨k, cnt, left, rfl, hpr, hfr, hk1, hk2, hk3⟩ := hrel
      rcases hpr.next keyed46 (fun i hi => key46 hi) 0 with ⟨hc, hl, hn⟩ | ⟨i, v, w2, cnt', hi, hli, hgi, hn, hr2, hcl, hg2, hs2, hen⟩
      · have K2 := hide hk2
        have K3 := hide hk3
        have HF := hide hfr
        clear hpr hk2 hk3 hfr
        go_wp2_with fail
        go_ret
        exact ⟨k, rfl, ⟨hk1, fun i hi n hn => K2.out i hi (hl i hi) n hn, K3.out⟩, HF.out⟩
      · obtain ⟨n, hn0⟩ : ∃ n, g i = some n := by
          cases hx : g i with
          | none => rw [gv, hx] at hgi; cases hgi
          | some n => exact ⟨n, rfl⟩
        have hv : v = .int .u64 (n : Int) := by
          rw [gv, hn0] at hgi
          simpa using hgi.symm
        subst hv
        have K2 := hide hk2
        have K3 := hide hk3
        have HF := hide (hfr.grown hg2 (fun j e => by cases e; exact .inr (by omega)))
        have HP := hide hpr
        have HP2 := hide hr2
        have HN := hide hn0
        clear hpr hk2 hk3 hfr hg2 hr2 hn0 hgi hs2
        by_cases hnk : n < k
        · have hnkI : (n : Int) < (k : Int) := by omega
          go_wp2_with fail
          go_roundw
          case rel =>
            refine ⟨n, cnt', _, ?_, HP2.out, HF.out, by omega, fun j hj hl x hx => ?_, .inr ⟨i, hi, HN.out⟩⟩
            · congr 1
              omega
            · by_cases e : j = i
              · subst e
                rw [HN.out] at hx
                cases hx
                exact Nat.le_refl _
              · have := K2.out j hj (by simpa [e] using hl) x hx
                omega
          case measure => rw [HP.out.left_eq, HP2.out.left_eq]; exact hcl
        · have hnkI : ¬ (n : Int) < (k : Int) := by omega
          go_wp2_with fail
          go_roundw
          case rel =>
            refine ⟨k, cnt', _, ?_, HP2.out, HF.out, hk1, fun j hj hl x hx => ?_, K3.out⟩
            · congr 1
              omega
            · by_cases e : j = i
              · subst e
                rw [HN.out] at hx
                cases hx
                omega
              · exact K2.out j hj (by simpa [e] using hl) x hx
          case measure => rw [HP.out.left_eq, HP2.out.left_eq]; exact hcl

theorem SB.fr {S : Nat → Prop} {w w' : World} {b low rel : Nat} {mv : Value} {kept : Nat} {lv hv : Value} (h : SB w b low rel mv kept lv hv) (f : Fr S w w') (hs : ¬ S b) : SB w' b low rel mv kept lv hv := h.same (f.keep b h.lt hs)

theorem MM.fr {S : Nat → Prop} {w w' : World} {mv : Value} {g : Nat → Option Nat} (h : MM w mv g) (f : Fr S w w') (hs : ∀ m, mv = .map (some m) → ¬ S m) : MM w' mv g := by
  rcases h with h | ⟨m, e, h⟩
  · exact .inl h
  · exact .inr ⟨m, e, h.fr f (hs m e)⟩

theorem cell_of {w : World} {b j : Nat} {cs : Array Value} {t : TypeId} {fz : Nat × Nat} {v : Value} (h : w.heap[b]? = some (.cells cs t fz)) (e : cs[j]? = some v) : w.cell? ⟨b, j, none⟩ = some v := by
  simp [World.cell?, h, e]

/-- A row of marks. -/
def MkRow (w : World) (v : Value) (ms : List (Nat × Nat)) : Prop :=
  ∃ a cap, v = .slice a ms.length cap ∧ ms.length ≤ 300 ∧ ∀ j l s, ms[j]? = some (l, s) → l < 4 ∧ ∃ b cur, a = some ⟨b, 0, none⟩ ∧ w.heap[b]? = some (.cells cur 59 (0, 0)) ∧ cur[j * 2]? = some (.int .u32 (l : Int)) ∧ cur[j * 2 + 1]? = some (.int .u64 (s : Int))

theorem MkRow.same {w w' : World} {v : Value} {ms : List (Nat × Nat)} (h : MkRow w v ms) (hk : ∀ (b : Nat) (cur : Array Value), w.heap[b]? = some (Obj.cells cur 59 (0, 0)) → w'.heap[b]? = w.heap[b]?) : MkRow w' v ms := by
  obtain ⟨a, cap, e, hn, h⟩ := h
  refine ⟨a, cap, e, hn, fun j l s hj => ?_⟩
  obtain ⟨h1, b, cur, h2, h3, h4⟩ := h j l s hj
  exact ⟨h1, b, cur, h2, by rw [hk b cur h3]; exact h3, h4⟩

def raiseAll (g : Nat → Option Nat) (ms : List (Nat × Nat)) : Nat → Option Nat := ms.foldl (fun g m => raiseG g m.1 m.2) g

def regR (rel r : Nat) : Nat := if rel < r then r else rel
def regG (rel : Nat) (g : Nat → Option Nat) (r : Nat) (ms : List (Nat × Nat)) : Nat → Option Nat :=
  if r < rel then g else raiseAll (if rel < r then fun _ => none else g) ms

theorem raiseAll_take (g : Nat → Option Nat) (ms : List (Nat × Nat)) (j l s : Nat) (h : ms[j]? = some (l, s)) : raiseAll g (ms.take (j + 1)) = raiseG (raiseAll g (ms.take j)) l s := by
  unfold raiseAll
  rw [List.take_add_one, h, List.foldl_append]
  rfl

set_option maxRecDepth 100000 in
set_option maxHeartbeats 2000000 in
theorem regAdd {w : World} {sb low rel : Nat} {mv : Value} {kept : Nat} {lv hv : Value} {g : Nat → Option Nat} (r : Rec) (ms : List (Nat × Nat)) (h : SB w sb low rel mv kept lv hv) (hm : MM w mv g) (hr : MkRow w r.mv ms) :
    Calls Yba.prog 18 #[.pointer (some ⟨sb, 2, none⟩), rcv r] w fun e w' => e = .returned (.tuple #[]) ∧
      ∃ mv', SB w' sb low (regR rel r.rel) mv' kept lv hv ∧ MM w' mv' (regG rel g r.rel ms) ∧ Fr (fun k => k = sb ∨ mv = .map (some k)) w w' ∧ (mv' = mv ∨ mv' = .map none ∨ ∃ m', mv' = .map (some m') ∧ w.heap.size ≤ m') := by
  obtain ⟨ma, mcap, hmv, hn300, hmr⟩ := hr
  obtain ⟨slot, rlow, rr, log, ra, rl, rc⟩ := r
  simp only [Rec.mv] at hmv
  cases hmv
  obtain ⟨n, hn⟩ : ∃ n, ms.length = n := ⟨_, rfl⟩
  rw [hn] at hn300 ⊢
  have c2 := h.c2
  have f2 := h.fz 2
  have f3 := h.fz 3
  have c3 := h.c3
  have hlt := h.lt
  have HS := hide h
  have HM := hide hm
  have HR := hide hmr
  clear h hm hmr
  by_cases h1 : rr < rel
  · have h1I : decide ((rr : Int) < (rel : Int)) = true := decide_eq_true (by omega)
    have E1 : regR rel rr = rel := if_neg (by omega)
    have E2 : regG rel g rr ms = g := if_pos h1
    simp only [E1, E2]
    unfold rcv
    go_enter Yba.func18, Yba.ntmps18
    go_wp2_with fail
    go_region
    go_wp2_with fail
    (try simp only [Exit.inBlock, Exit.then])
    refine bodyPost_ret (results_none rfl _ _ _) rfl ?_
    have F0 := ((Fr.refl (fun _ => False) w).alloc (.cells #[.int .u64 (slot : Int), .int .u64 0, .int .u32 0, .int .u64 (rlow : Int), .slice ma n mcap, .int .u64 (rr : Int), .int .u64 (log : Int), .int .u64 0, .int .u32 0, .int .u64 0, .int .u32 0, .slice none 0 0] 52)).drew
    exact ⟨rfl, mv, HS.out.fr F0 (fun h => h), HM.out.fr F0 (fun _ _ h => h), F0.mono (fun k h => h.elim), .inl rfl⟩
  · have h1I : decide ((rr : Int) < (rel : Int)) = false := decide_eq_false (by omega)
    obtain ⟨g0, hg0⟩ : ∃ g0 : Nat → Option Nat, g0 = if rel < rr then fun _ => none else g := ⟨_, rfl⟩
    have E2 : regG rel g rr ms = raiseAll g0 ms := by rw [hg0]; exact if_neg h1
    obtain ⟨R, hR⟩ : ∃ R, regR rel rr = R := ⟨_, rfl⟩
    simp only [E2, hR]
    have G0 := hide hg0
    have RR := hide hR
    clear E2 hg0 hR
    unfold rcv
    go_enter Yba.func18, Yba.ntmps18
    go_upto_block 0 with fail
    go_cut [] from 6 (fun wx => ∃ mvx, SB wx sb low R mvx kept lv hv ∧ MM wx mvx g0 ∧ Fr (fun k => k = sb) w wx ∧ (mvx = mv ∨ mvx = .map none) ∧ wx.cell? ⟨w.heap.size, 4, none⟩ = some (.slice ma n mcap))
    case first =>
      have F0 := hide (((Fr.refl (fun _ => False) w).alloc (.cells #[.int .u64 (slot : Int), .int .u64 0, .int .u32 0, .int .u64 (rlow : Int), .slice ma n mcap, .int .u64 (rr : Int), .int .u64 (log : Int), .int .u64 0, .int .u32 0, .int .u64 0, .int .u32 0, .slice none 0 0] 52)).drew.drew)
      by_cases h2 : rel < rr
      · have h2I : decide ((rel : Int) < (rr : Int)) = true := decide_eq_true (by omega)
        go_wp2_with fail
        go_region
        go_wp2_with fail
        go_region
        go_wp2_with fail
        go_meet
        case rel =>
          have e1 := (HS.out.set2 rr).set3 (.map none)
          refine ⟨.map none, ?_, .inl ⟨rfl, fun i => by rw [G0.out, if_pos h2]⟩, ?_, .inr rfl, ?_⟩
          · rw [← RR.out, show regR rel rr = rr from if_pos h2]
            exact e1.same (Below.heap_alloc _ _ _ (by simp; omega))
          · exact ((((Fr.refl (fun k => k = sb) w).setCell (.inl rfl) _ _).setCell (.inl rfl) _ _).alloc _).drew.drew
          · have e2 := alloc_new ((w.setCell ⟨sb, 2, none⟩ (.int .u64 (rr : Int))).setCell ⟨sb, 3, none⟩ (.map none)) (.cells #[.int .u64 (slot : Int), .int .u64 0, .int .u32 0, .int .u64 (rlow : Int), .slice ma n mcap, .int .u64 (rr : Int), .int .u64 (log : Int), .int .u64 0, .int .u32 0, .int .u64 0, .int .u32 0, .slice none 0 0] 52)
            simp only [World.size_setCell] at e2
            exact cell_of e2 rfl
      · have h2I : decide ((rel : Int) < (rr : Int)) = false := decide_eq_false (by omega)
        go_wp2_with fail
        go_region
        go_wp2_with fail
        go_region
        go_wp2_with fail
        go_meet
        case rel =>
          refine ⟨mv, ?_, ?_, F0.out.mono (fun k h => h.elim), .inl rfl, ?_⟩
          · rw [← RR.out, show regR rel rr = rel from if_neg h2]
            exact HS.out.fr F0.out (fun h => h)
          · rw [G0.out, if_neg h2]
            exact HM.out.fr F0.out (fun _ _ h => h)
          · simp
    case rest =>
      obtain ⟨mvx, hs, hm, hf, ho, hbx⟩ := hcut
      have HS1 := hide hs
      have HM1 := hide hm
      have HF1 := hide hf
      have HO1 := hide ho
      clear hs hm hf ho
      go_wp2_with fail
      go_loopw [33] (fun s33 wx => ∃ (j : Nat) (mvy : Value), s33 = .int .i64 (j : Int) ∧ j ≤ n ∧ SB wx sb low R mvy kept lv hv ∧ MM wx mvy (raiseAll g0 (ms.take j)) ∧ Fr (fun k => k = sb ∨ mv = .map (some k)) w wx ∧ (mvy = mv ∨ mvy = .map none ∨ ∃ m', mvy = .map (some m') ∧ w.heap.size ≤ m')) (fun s33 _ => n - (intOf s33).toNat)
      case atStart =>
        refine ⟨0, mvx, rfl, Nat.zero_le _, HS1.out, HM1.out, HF1.out.mono (fun k h => .inl (.inl h)), ?_⟩
        rcases HO1.out with h | h
        · exact .inl h
        · exact .inr (.inl h)
      case round =>
        obtain ⟨j, mvy, rfl, hjn, hs, hm, hf, ho⟩ := hrel
        have HS2 := hide hs
        have HM2 := hide hm
        have HF2 := hide hf
        have HO2 := hide ho
        clear hs hm hf ho HS1 HM1 HF1 HO1
        by_cases hj : j < n
        · obtain ⟨⟨l, sl⟩, hls⟩ : ∃ x, ms[j]? = some x := ⟨_, List.getElem?_eq_getElem (by rw [hn]; exact hj)⟩
          obtain ⟨hl4, b, cur, rfl, hbk, hc0, hc1⟩ := HR.out j l sl hls
          have bne : ¬ (b = sb ∨ mv = .map (some b)) := by
            rintro (rfl | e)
            · have := HS.out
              unfold SB at this
              rw [hbk] at this
              cases this
            · rcases HM.out with ⟨e1, _⟩ | ⟨m, e1, hp⟩
              · rw [e] at e1; cases e1
              · rw [e] at e1
                cases e1
                obtain ⟨es, c, he⟩ := hp.isMap
                rw [hbk] at he
                cases he
          have hbw : wr.heap[b]? = some (.cells cur 59 (0, 0)) := by rw [HF2.out.keep b (heap_lt hbk) bne]; exact hbk
          have x0 := cell_of hbw hc0
          have x1 := cell_of hbw hc1
          have c := raise l sl (HS2.out.fr ((Fr.refl (fun _ => False) wr).alloc (.cells #[.int .u32 (l : Int), .int .u64 (sl : Int)] 59)) (fun h => h)) (HM2.out.fr ((Fr.refl (fun _ => False) wr).alloc (.cells #[.int .u32 (l : Int), .int .u64 (sl : Int)] 59)) (fun _ _ h => h)) hl4
          have C := hide c
          have HLS := hide hls
          clear c hls hbk hc0 hc1 hbw bne
          go_wp2_with fail
          go_at_call 28
          refine C.out.mono ?_
          rintro e w3 ⟨rfl, mv3, hs3, hm3, hf3, ho3⟩
          have HS3 := hide hs3
          have HM3 := hide hm3
          have HF3 := hide hf3
          have HO3 := hide ho3
          clear C hs3 hm3 hf3 ho3
          go_wp2_with fail
          go_roundw
          case rel =>
            refine ⟨j + 1, mv3, by go_num, by omega, HS3.out, by rw [raiseAll_take _ _ _ _ _ HLS.out]; exact HM3.out, ?_, ?_⟩
            · refine (HF2.out.alloc _).andThen HF3.out (fun k hk => ?_)
              rcases hk with rfl | hk
              · exact .inl (.inl rfl)
              · rcases HO2.out with h | h | ⟨m', h, hle⟩
                · exact .inl (.inr (by rw [← h]; exact hk))
                · rw [h] at hk; cases hk
                · rw [h] at hk; cases hk; exact .inr hle
            · rcases HO3.out with h | ⟨m', h, hle⟩
              · rw [h]; exact HO2.out
              · have := HF2.out.size
                simp at hle
                exact .inr (.inr ⟨m', h, by omega⟩)
          case measure => simp [intOf]; omega
        · have hjE : j = n := by omega
          subst hjE
          go_wp2_with fail
          go_end0
          refine ⟨rfl, mvy, HS2.out, ?_, HF2.out, HO2.out⟩
          have e := HM2.out
          rw [List.take_of_length_le (by omega)] at e
          exact e

end Go.Proofs.Ybulkbcrm.model
