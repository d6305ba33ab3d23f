/-
  Seat b2690a: LawS2690CModel: the law's walk.
-/
import Derived.Test.YbulkbcrmModelQ4
namespace Go.Proofs.Ybulkbcrm.model
open Go.RowKit

theorem SRow.below {w w' : World} {a : Option Addr} {ds : List StepD} (h : SRow w a ds) (b : Below w.heap.size w w') : SRow w' a ds := fun k d hk => (h k d hk).below b

theorem SvRow.below {w w' : World} {v : Value} {ps : List SM} (h : SvRow w v ps) (b : Below w.heap.size w w') : SvRow w' v ps := by
  obtain ⟨a, cap, e, h⟩ := h
  refine ⟨a, cap, e, fun i p hi => ?_⟩
  obtain ⟨h1, h2, g, off, h3, h4⟩ := h i p hi
  refine ⟨h1, h2.below b (Nat.le_refl _), g, off, h3, fun t u hu => ?_⟩
  have := h4 t u hu
  rw [b.cell (p := ⟨g, off + i * 12 + t, none⟩) (cell_lt this)]
  exact this

/-- The built row, as Compact and the model read it. -/
theorem BI.sv {w w' : World} {ds : List StepD} {v : Value} {ps : List SM} (h : BI w ds ds.length v ps w') :
    (∃ g cap, v = .slice (some ⟨g, 0, none⟩) ds.length cap ∧ ∀ (j : Nat) (p : SM), ps[j]? = some p → ∀ (t : Nat) (u : Value), (rcl p.1)[t]? = some u → w'.cell? ⟨g, j * 12 + t, none⟩ = some u) ∧ SvRow w' v ps ∧ ∀ (j : Nat) (p : SM), ps[j]? = some p → p.1.log = j := by
  have hmade : ∀ (j : Nat) (p : SM), ps[j]? = some p → ∃ d, Made d j p := fun j p hj => by
    have hjl : j < ds.length := by have := (List.getElem?_eq_some_iff.1 hj).1; rw [h.len] at this; exact this
    obtain ⟨p', hp', hm⟩ := h.made j _ hjl (List.getElem?_eq_getElem hjl)
    rw [hj] at hp'
    cases hp'
    exact ⟨_, hm⟩
  have hshape : ∃ g cap, v = .slice (some ⟨g, 0, none⟩) ds.length cap := by
    rcases h.row.2 with ⟨e, _⟩ | ⟨g, cap, cur, e, _⟩
    · exact absurd e h.nn
    · exact ⟨g, cap, e⟩
  obtain ⟨g, cap, rfl⟩ := hshape
  have hcell : ∀ (j : Nat) (p : SM), ps[j]? = some p → ∀ (t : Nat) (u : Value), (rcl p.1)[t]? = some u → w'.cell? ⟨g, j * 12 + t, none⟩ = some u := fun j p hj t u hu => by
    have e := rcs_at (ps.map (·.1)) j p.1 (by rw [List.getElem?_map, hj]; rfl) t u hu
    obtain ⟨g', e1, e2, _⟩ := own_cell h.row e
    cases e1
    exact e2
  refine ⟨⟨g, cap, rfl, hcell⟩, ⟨some ⟨g, 0, none⟩, cap, by rw [h.len], fun i p hi => ?_⟩, fun j p hj => ?_⟩
  · obtain ⟨d, hd⟩ := hmade i p hi
    refine ⟨⟨by rw [hd.slot]; omega, by rw [hd.low]; omega⟩, h.mks p (List.mem_of_getElem? hi), g, 0, rfl, fun t u hu => ?_⟩
    rw [Nat.zero_add]
    exact hcell i p hi t u hu
  · obtain ⟨d, hd⟩ := hmade j p hj
    exact hd.log

/-- What the law compares, in memory. -/
def LM (rs : List Rec) (n vb : Nat) (ia oa : Option Addr) (w : World) : Prop :=
  ∀ (j : Nat) (r : Rec), rs[j]? = some r → r.log < n ∧ ∃ g ob, ia = some ⟨g, 0, none⟩ ∧ oa = some ⟨ob, 0, none⟩ ∧ w.cell? ⟨g, j, none⟩ = some (.int .i64 (r.log : Int)) ∧
    (∀ (t : Nat) (u : Value), (rcl r)[t]? = some u → w.cell? ⟨ob, j * 12 + t, none⟩ = some u) ∧ ∀ (t : Nat) (u : Value), (rcl r)[t]? = some u → w.cell? ⟨vb, r.log * 12 + t, none⟩ = some u

theorem LM.drewN {rs : List Rec} {n vb : Nat} {ia oa : Option Addr} {w : World} (h : LM rs n vb ia oa w) (q : Nat) : LM rs n vb ia oa (w.drewN q) := h

theorem below_drewN {n : Nat} {w w' : World} (h : Below n w w') (q : Nat) : Below n w (w'.drewN q) := ⟨h.os, h.tape, h.output, h.size, h.block⟩

theorem LM.cells {rs : List Rec} {n vb : Nat} {ia oa : Option Addr} {w : World} (h : LM rs n vb ia oa w) {j : Nat} {r : Rec} (hj : rs[j]? = some r) :
    r.log < n ∧ ∃ g ob, ia = some ⟨g, 0, none⟩ ∧ oa = some ⟨ob, 0, none⟩ ∧ w.cell? ⟨g, j, none⟩ = some (.int .i64 (r.log : Int)) ∧
      (w.cell? ⟨ob, j * 12, none⟩ = some (.int .u64 r.slot) ∧ w.cell? ⟨ob, j * 12 + 3, none⟩ = some (.int .u64 r.low) ∧ w.cell? ⟨ob, j * 12 + 4, none⟩ = some (.slice r.ma r.ml r.mc) ∧ w.cell? ⟨ob, j * 12 + 5, none⟩ = some (.int .u64 r.rel) ∧ w.cell? ⟨ob, j * 12 + 6, none⟩ = some (.int .u64 r.log)) ∧
      (w.cell? ⟨vb, r.log * 12, none⟩ = some (.int .u64 r.slot) ∧ w.cell? ⟨vb, r.log * 12 + 3, none⟩ = some (.int .u64 r.low) ∧ w.cell? ⟨vb, r.log * 12 + 4, none⟩ = some (.slice r.ma r.ml r.mc) ∧ w.cell? ⟨vb, r.log * 12 + 5, none⟩ = some (.int .u64 r.rel) ∧ w.cell? ⟨vb, r.log * 12 + 6, none⟩ = some (.int .u64 r.log)) := by
  obtain ⟨h0, g, ob, h1, h2, h3, h4, h5⟩ := h j r hj
  obtain ⟨x0, _, _, x3, x4, x5, x6, _⟩ := rc12_at h4
  obtain ⟨y0, _, _, y3, y4, y5, y6, _⟩ := rc12_at h5
  exact ⟨h0, g, ob, h1, h2, h3, ⟨x0, x3, x4, x5, x6⟩, y0, y3, y4, y5, y6⟩

theorem out_small (ps : List SM) (h : ∀ p ∈ ps, p.1.slot < 16 ∧ p.1.low < 16) : (outP (compP ps)).length ≤ 16 := by
  have hi := compP_inv ps h
  have ha := out_asc hi
  have := nodup_le 16 ((outP (compP ps)).map (·.slot)) ha.nodup (fun s hs => by
    obtain ⟨r, hr, rfl⟩ := List.mem_map.1 hs
    obtain ⟨j, p, hj, e⟩ := out_from ps r hr
    rw [← e]
    exact (h p (List.mem_of_getElem? hj)).1)
  rwa [List.length_map] at this

/-- Behind the four calls. -/
theorem lm_of {w1 w2 w3 w4 : World} {ds : List StepD} {v : Value} {ps : List SM} {vb vc : Nat} {ia : Option Addr} {oa : Option Addr} {oc B : Nat}
    (hbi : BI w1 ds ds.length v ps w2) (hv : v = .slice (some ⟨vb, 0, none⟩) ds.length vc)
    (hidx : ∀ (j : Nat) (r : Rec), (outP (compP ps))[j]? = some r → ∃ g, ia = some ⟨g, 0, none⟩ ∧ w3.cell? ⟨g, j, none⟩ = some (.int .i64 (r.log : Int)))
    (hrow : w4.ownsRow B 52 12 (.slice oa (outP (compP ps)).length oc) (outP (compP ps)).length ((outP (compP ps)).flatMap rcl))
    (h23 : Below w2.heap.size w2 w3) (h34 : Below w3.heap.size w3 w4) : LM (outP (compP ps)) ds.length vb ia oa w4 := by
  obtain ⟨⟨g, cap, e, hcell⟩, _, hlog⟩ := hbi.sv
  rw [hv] at e
  cases e
  intro j r hj
  obtain ⟨k, p, hk, rfl⟩ := out_from ps r (List.mem_of_getElem? hj)
  have hkl : k < ds.length := by have := (List.getElem?_eq_some_iff.1 hk).1; rw [hbi.len] at this; exact this
  have e := hlog k p hk
  obtain ⟨gi, e1, e2⟩ := hidx j p.1 hj
  obtain ⟨ob, e3, _, _, _⟩ := own_cell hrow (rcs_at _ j p.1 hj 0 _ rfl)
  refine ⟨by rw [e]; exact hkl, gi, ob, e1, e3, ?_, fun t u hu => ?_, fun t u hu => ?_⟩
  · rw [h34.cell (p := ⟨gi, j, none⟩) (cell_lt e2)]
    exact e2
  · obtain ⟨ob', e4, e5, _, _⟩ := own_cell hrow (rcs_at _ j p.1 hj t u hu)
    rw [e3] at e4
    cases e4
    exact e5
  · have e6 := hcell k p hk t u hu
    have e7 : w3.cell? ⟨vb, k * 12 + t, none⟩ = some u := by rw [h23.cell (p := ⟨vb, k * 12 + t, none⟩) (cell_lt e6)]; exact e6
    rw [e, h34.cell (p := ⟨vb, k * 12 + t, none⟩) (cell_lt e7)]
    exact e7

theorem bigP_false {ds : List StepD} (h : bigP ds = false) : ds.length ≤ 300 ∧ ∀ d ∈ ds, d.ms.length ≤ 300 := by
  unfold bigP at h
  rw [Bool.or_eq_false_iff, decide_eq_false_iff_not, List.any_eq_false] at h
  exact ⟨by omega, fun d hd => by have := h.2 d hd; simpa using this⟩

set_option maxRecDepth 100000 in
set_option maxHeartbeats 4000000 in
theorem law {w : World} {a : Option Addr} {cap : Nat} {ds : List StepD} (h : SRow w a ds) :
    Calls Yba.prog 5 #[.slice a ds.length cap] w fun e w' => e = .returned (.bool true) ∧ Below w.heap.size w w' := by
  have CB := hide (big (cap := cap) h)
  by_cases hb : bigP ds = true
  · rw [hb] at CB
    go_enter Yba.func5, Yba.ntmps5
    go_wp2_with (go_at_call 7; refine CB.out.mono ?_; rintro e w1 ⟨rfl, hb1⟩)
    go_ret
    exact ⟨rfl, hb1⟩
  · have hbf : bigP ds = false := by simpa using hb
    rw [hbf] at CB
    obtain ⟨hn3, hm3⟩ := bigP_false hbf
    have CBUILD := hide (fun (w1 : World) (hx : Below w.heap.size w w1) => build (cap := cap) (h.below hx) hn3 hm3)
    clear hb hbf hm3 h
    go_enter Yba.func5, Yba.ntmps5
    go_wp2_with (first | (go_at_call 7; refine CB.out.mono ?_; rintro e w1 ⟨rfl, hb1⟩) | (go_at_call 8; refine (CBUILD.out w1 hb1).mono ?_; rintro e w2 ⟨v, ps, rfl, hbi⟩; have BIH := hide hbi; clear hbi) | (go_at_call 9; refine (modelW BIH.out.sv.2.1 (by rw [BIH.out.len]; exact hn3) BIH.out.sv.2.2).mono ?_; rintro e w3 ⟨ia, ic, rfl, hidx, hb3⟩))
    go_at_call 10
    refine (compact (BIH.out.sv.2.1.below hb3) (by rw [BIH.out.len]; exact hn3)).mono ?_
    rintro e w4 ⟨v', rfl, hrow, hnil, hb4⟩
    have hsm : (outP (compP ps)).length ≤ 16 := out_small ps (fun p hp => by
      obtain ⟨j, hj⟩ := List.mem_iff_getElem?.1 hp
      obtain ⟨_, _, _, hx⟩ := BIH.out.sv.2.1
      exact (hx j p hj).1)
    have hall : Below w.heap.size w w4 := hb1.trans (BIH.out.bel.mono hb1.size |>.trans ((hb3.mono (Nat.le_trans hb1.size BIH.out.bel.size)).trans (hb4.mono (Nat.le_trans hb1.size (Nat.le_trans BIH.out.bel.size hb3.size)))))
    have HALL := hide hall
    obtain ⟨⟨vb, vc, hv, _⟩, _⟩ := BIH.out.sv
    by_cases he : outP (compP ps) = []
    · have hv' := hnil.2 he
      have h0 : (outP (compP ps)).length = 0 := by rw [he]; rfl
      rw [hv', h0]
      clear hrow hidx hnil he h0 hsm hb1 hb3 hb4 hall
      have hb2 : ∀ w : World, (binOp BinOp.eql 41 (.slice none 0 0) (.slice none 0 0)).run Yba.prog w = .ok (.bool true) w := fun w => by kernel_rfl
      have hb3 : ∀ w : World, Sem.run Yba.prog (eqGuard BinOp.eql 41 (Operand.tmp 19) (Operand.const (Value.slice none 0 0)) (.slice none 0 0) (.slice none 0 0)) w = .ok () w := fun w => by kernel_rfl
      go_wp2
      go_ret
      exact ⟨rfl, HALL.out⟩
    · have hlen0 : (outP (compP ps)).length ≠ 0 := fun e => he (List.eq_nil_of_length_eq_zero e)
      have hshape : ∃ oa oc, v' = .slice oa (outP (compP ps)).length oc := by
        rcases hrow.2 with ⟨e, _⟩ | ⟨g, oc, cur, e, _⟩
        · exact absurd (hnil.1 e) he
        · exact ⟨_, oc, e⟩
      obtain ⟨oa, oc, hv'⟩ := hshape
      rw [hv'] at hrow ⊢
      have LMH := hide (lm_of BIH.out hv hidx hrow hb3 hb4)
      rw [hv]
      obtain ⟨rs, hrs⟩ : ∃ rs, outP (compP ps) = rs := ⟨_, rfl⟩
      obtain ⟨no, hno⟩ : ∃ no, rs.length = no := ⟨_, rfl⟩
      obtain ⟨n, hn⟩ : ∃ n, ds.length = n := ⟨_, rfl⟩
      rw [hn] at hn3 LMH ⊢
      rw [hrs] at hlen0 hsm LMH ⊢
      rw [hno] at hlen0 hsm ⊢
      have HNO := hide hno
      have hnI : ¬ ((no : Int) = 0) := by omega
      clear hrow hidx hnil he hb1 hb3 hb4 hall hv hv' hrs hno hn BIH CB CBUILD
      go_wp2
      go_loopw [28] (fun s28 wx => ∃ i : Nat, s28 = .int .i64 (i : Int) ∧ i ≤ no ∧ LM rs n vb ia oa wx ∧ Below w.heap.size w wx) (fun s28 _ => no - (intOf s28).toNat)
      case atStart => exact ⟨0, rfl, Nat.zero_le _, LMH.out, HALL.out⟩
      case round =>
        obtain ⟨i, rfl, hin, hlm, hbel⟩ := hrel
        have LM1 := hide hlm
        have BE1 := hide hbel
        by_cases hi : i < no
        · have hiI : (i : Int) < (no : Int) := by omega
          obtain ⟨r, hr⟩ : ∃ r, rs[i]? = some r := ⟨_, List.getElem?_eq_getElem (by rw [HNO.out]; exact hi)⟩
          obtain ⟨hlog, g, ob, rfl, rfl, ci, ⟨x0, x3, x4, x5, x6⟩, y0, y3, y4, y5, y6⟩ := hlm.cells hr
          obtain ⟨slot, low, rel, log, ma, ml, mc⟩ := r
          simp only at hlog ci x0 x3 x4 x5 x6 y0 y3 y4 y5 y6
          have hlogI : (log : Int) < (n : Int) := by omega
          clear hlm hbel hr
          go_wp2
          go_quiet (fail)
          go_wp2
          go_roundw
          case rel => exact ⟨i + 1, by go_num, by omega, LM1.out.drewN _, below_drewN BE1.out _⟩
          case measure => simp [intOf]; omega
        · have hiI : ¬ (i : Int) < (no : Int) := by omega
          clear hlm hbel
          go_wp2
          go_ret
          exact ⟨rfl, BE1.out⟩

end Go.Proofs.Ybulkbcrm.model
