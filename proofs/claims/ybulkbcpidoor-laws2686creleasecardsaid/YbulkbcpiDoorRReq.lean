/-
  Seat b2686aD: a request is granted, queued or refused.
-/
import Derived.Test.YbulkbcpiDoorRInv2
namespace Go.Proofs.YbulkbcpiDoor.rel
open Go.RowKit

def NoE : Nat → Prop := fun _ => False

def Nxt (ow : Nat → Option Nat) (w : World) (M qm tm : Nat) (s : St) (w' : World) : Prop := ∃ s', To ow w M qm tm s s' w' ∧ Inv NoE NoE s'

section
variable {ow : Nat → Option Nat} {w : World} {M qm tm : Nat} {s : St} {i b : Nat}

theorem fr_below {w' : World} (h : Below w.heap.size w w') (hf : Fresh ow w) : Fr ow w ow w' [] :=
  ⟨h.os, h.tape, h.output, h.size, fun _ _ => rfl, fun k hk => hf k (by have := h.size; omega), fun k hk _ => h.block k hk⟩

theorem to_fr {w1 w' : World} {s' : St} (f : Fr ow w ow w1 []) (k : To ow w1 M qm tm s s' w') : To ow w M qm tm s s' w' := To.trans (FrX.of f (by simp) (fun _ _ hn => hn)) k

set_option maxRecDepth 50000 in
set_option maxHeartbeats 4000000 in
theorem request (h : Rep ow w M qm tm s) (I : Inv NoE NoE s) (hi : i < 3) (hb : s.qb i = some b) (y m : Nat) (u : Bool) (hy : y < 4) (hm : m < 2) (hu : u = has (s.gr i) y) (hum : u = true → m = 1) (hwl : s.wl y = none) (pos : Nat) (hpos : (u = false ∧ pos = (s.wt i).length) ∨ (u = true ∧ pos = 0))
    {ev : Value} (g7 : w.cell? ⟨7, 0, none⟩ = some ev) (o7 : ow 7 = none) :
    Calls Ybad.prog 29 #[.pointer (some ⟨M, 0, none⟩), .pointer (some ⟨b, 0, none⟩), pv (s.tb y), rv ⟨y, m, u⟩, .int .i64 (pos : Int)] w fun e w' => ∃ v er, e = .returned (.tuple #[v, er]) ∧ Nxt ow w M qm tm s w' := by
  have ok := I.qok i hi
  have hlen := ok.len
  have l7 : 7 < w.heap.size := cell_lt g7
  obtain ⟨W, hW⟩ : ∃ W, W = w.alloc (.cells #[.int .i64 (y : Int), .int .i64 (m : Int), .bool u, .bool false] 83) := ⟨_, rfl⟩
  have F0 : Fr ow w ow W [] := by rw [hW]; exact (Fr.refl h.fresh []).alloc _
  have h1 := h.still F0
  obtain ⟨gv, wv, q⟩ := h1.qs i hi b hb
  have hp1 : pos ≤ (s.wt i).length := by rcases hpos with ⟨_, h⟩ | ⟨_, h⟩ <;> omega
  have BLK : Aside (Calls Ybad.prog 37 #[.pointer (some ⟨b, 0, none⟩), .int .i64 (y : Int), .int .i64 (m : Int), .int .i64 (pos : Int)] W fun e w' => ∃ v', e = .returned v' ∧ Cfd W W.heap.size ((s.gr i).length + pos) v' w') := blockers q h1.fresh y m pos hp1 (by omega) (by omega)
  have BOX : Aside (W.heap[w.heap.size]? = some (.cells #[.int .i64 (y : Int), .int .i64 (m : Int), .bool u, .bool false] 83 (0, 0))) := by rw [hW]; exact heap_new w _
  have REP : Aside (Rep ow w M qm tm s) := h
  have FR0 : Aside (Fr ow w ow W []) := F0
  have INV : Aside (Inv NoE NoE s) := I
  have HB : Aside (s.qb i = some b) := hb
  have HO7 : Aside (ow 7 = none) := o7
  have HU : Aside (u = has (s.gr i) y) := hu
  have HWL : Aside (s.wl y = none) := hwl
  have HPOS : Aside ((u = false ∧ pos = (s.wt i).length) ∨ (u = true ∧ pos = 0)) := hpos
  have G7 : Aside (w.cell? ⟨7, 0, none⟩ = some ev) := g7
  have OB : Aside (ow w.heap.size = none) := h.fresh _ (Nat.le_refl _)
  obtain ⟨tv, htv⟩ : ∃ tv, pv (s.tb y) = tv := ⟨_, rfl⟩
  have TV : Aside (pv (s.tb y) = tv) := htv
  obtain ⟨ti, hti, hz0, hz1, hz2⟩ := info_parts Ybad.info64
  have hWl : w.heap.size < W.heap.size := by rw [hW]; simp
  rw [htv]
  clear h h1 I hb hu hwl hpos q F0 htv o7 g7 ok hlen hp1
  unfold rv
  go_enter Ybad.func29, Ybad.ntmps29
  go_wp2_with fail
  rw [← hW]
  clear hW
  refine BLK.out.mono ?_
  rintro e w1 ⟨v1, rfl, zs, hints, hzl, hbel⟩
  have F1 : Fr ow w ow w1 [] := FR0.out.trans (fr_below hbel FR0.out.fresh0)
  have hR1 := REP.out.still F1
  have hB1 := (hbel.block _ hWl).trans BOX.out
  obtain ⟨b0, b1, b2, b3⟩ : w1.cell? ⟨w.heap.size, 0, none⟩ = some (.int .i64 (y : Int)) ∧ w1.cell? ⟨w.heap.size, 1, none⟩ = some (.int .i64 (m : Int)) ∧ w1.cell? ⟨w.heap.size, 2, none⟩ = some (.bool u) ∧ w1.cell? ⟨w.heap.size, 3, none⟩ = some (.bool false) := by
    refine ⟨?_, ?_, ?_, ?_⟩ <;> rw [cell_of_row _ _ _ _ _ _ hB1] <;> rfl
  have lB1 := heap_lt hB1
  obtain ⟨a1, c1, rfl⟩ : ∃ a c, v1 = .slice a zs.length c := by
    rcases hints.form with ⟨rfl, rfl⟩ | ⟨g, cap, rfl, _⟩
    · exact ⟨_, _, rfl⟩
    · exact ⟨_, _, rfl⟩
  obtain ⟨n, hn⟩ : ∃ n, zs.length = n := ⟨_, rfl⟩
  rw [hn] at hzl ⊢
  have R1 : Aside (Rep ow w1 M qm tm s) := hR1
  have FF1 : Aside (Fr ow w ow w1 []) := F1
  have HB1 : Aside (w1.heap[w.heap.size]? = some (.cells #[.int .i64 (y : Int), .int .i64 (m : Int), .bool u, .bool false] 83 (0, 0))) := hB1
  have HZL : Aside (n ≤ (s.gr i).length + pos) := hzl
  clear hints hbel F1 hR1 hB1 hn BLK BOX hzl
  by_cases hn0 : n = 0
  · subst hn0
    have GR : Aside (Calls Ybad.prog 38 #[.pointer (some ⟨M, 0, none⟩), .pointer (some ⟨b, 0, none⟩), tv, .agg #[.int .i64 (y : Int), .int .i64 (m : Int), .bool u, .bool false]] w1 fun e w' => e = .returned (.tuple #[]) ∧ Nxt ow w M qm tm s w') := by
      have I := INV.out
      have ok := I.qok i hi
      cases hu : u with
      | true =>
        have := HU.out
        rw [hu] at this
        have hm1 : m = 1 := hum hu
        subst hm1
        refine (grantU R1.out hi HB.out y tv this.symm (fun r hr => (ok.glt r hr).2) (by have := ok.len; omega)).mono ?_
        rintro e w' ⟨rfl, k, r, e1, e2, to⟩
        exact ⟨rfl, _, to_fr FF1.out to, inv_grantU I hi e1⟩
      | false =>
        have hno := HU.out
        rw [hu] at hno
        have := grantN R1.out hi HB.out y m hy hm (fun e => I.tn y hy (fun e => e) e) (by have := ok.len; omega) (by have := I.lo3; omega) (by have := I.hl3 hy; omega)
        rw [TV.out] at this
        refine this.mono ?_
        rintro e w' ⟨rfl, tb', st', to, t1, t2⟩
        exact ⟨rfl, _, to_fr FF1.out to, inv_grantN (r := ⟨y, m, false⟩) I hi hy hm hno.symm HWL.out (by rw [HB.out]; simp) t1 t2⟩
    go_wp2_with fail
    refine GR.out.mono ?_
    rintro e w2 ⟨rfl, hE⟩
    have E := hide hE
    clear hE
    go_wp2
    exact bodyPost_ret (by simp [results, Ybad.results29, go_sem]; exact ⟨rfl, rfl⟩) rfl ⟨_, _, rfl, E.out⟩
  · have hnb : ¬ (n : Int) = 0 := by omega
    have WF : Aside (Calls Ybad.prog 39 #[.pointer (some ⟨M, 0, none⟩), .pointer (some ⟨b, 0, none⟩), .int .i64 (y : Int)] w1 fun e w' => ∃ c : Bool, e = .returned (.bool c) ∧ Fr ow w1 ow w' []) := by
      have I := INV.out
      refine waitsFor R1.out hi HB.out y (fun j hj r hr => ((I.qok j hj).glt r hr).1) (fun j hj => by have := (I.qok j hj).len; omega) (fun z hz j e => ?_)
      have hj := I.wl3 z hz j e
      refine ⟨hj, ?_⟩
      cases hq : s.qb j with
      | none =>
        have h1 := (I.wait j hj z hz).2 e
        rw [(I.qn j hj hq).2] at h1
        cases h1
      | some b => exact ⟨b, rfl⟩
    go_wp2_with fail
    refine WF.out.mono ?_
    rintro e w2 ⟨c, rfl, hF2⟩
    have F2 : Fr ow w ow w2 [] := FF1.out.trans hF2
    have hB2 : w2.heap[w.heap.size]? = some (.cells #[.int .i64 (y : Int), .int .i64 (m : Int), .bool u, .bool false] 83 (0, 0)) := (hF2.keep _ lB1 (fun x e => by rw [OB.out] at e; cases e)).trans HB1.out
    have d7 : w2.cell? ⟨7, 0, none⟩ = some ev := by rw [F2.cell (a := ⟨7, 0, none⟩) l7 (fun x e => by rw [HO7.out] at e; cases e)]; exact G7.out
    have R2 : Aside (Rep ow w2 M qm tm s) := REP.out.still F2
    have FF2 : Aside (Fr ow w ow w2 []) := F2
    have l72 : 7 < w2.heap.size := cell_lt d7
    obtain ⟨b0', b1', b2', b3'⟩ : w2.cell? ⟨w.heap.size, 0, none⟩ = some (.int .i64 (y : Int)) ∧ w2.cell? ⟨w.heap.size, 1, none⟩ = some (.int .i64 (m : Int)) ∧ w2.cell? ⟨w.heap.size, 2, none⟩ = some (.bool u) ∧ w2.cell? ⟨w.heap.size, 3, none⟩ = some (.bool false) := by
      refine ⟨?_, ?_, ?_, ?_⟩ <;> rw [cell_of_row _ _ _ _ _ _ hB2] <;> rfl
    have lB2 := heap_lt hB2
    have HB2 : Aside (w2.heap[w.heap.size]? = some (.cells #[.int .i64 (y : Int), .int .i64 (m : Int), .bool u, .bool false] 83 (0, 0))) := hB2
    clear hF2 F2 hB2 WF R1 FF1 HB1 b0 b1 b2 b3 lB1
    cases c with
    | true =>
      have E : Aside (Nxt ow w M qm tm s w2) := ⟨s, ⟨ow, FrX.of FF2.out (by simp) (fun _ _ hn => hn), R2.out⟩, INV.out⟩
      have E' : Aside (Nxt ow w M qm tm s w2.drew) := ⟨s, ⟨ow, FrX.of FF2.out.drew (by simp) (fun _ _ hn => hn), REP.out.still FF2.out.drew⟩, INV.out⟩
      clear R2 FF2 HB2 INV REP
      go_wp2
      go_region
      all_goals
        go_wp2
        exact bodyPost_ret (by simp [results, Ybad.results29, go_sem]; exact ⟨rfl, rfl⟩) rfl ⟨_, _, rfl, E'.out⟩
    | false =>
      obtain ⟨s2, hs2⟩ : ∃ s2, s2 = s.setQ i (s.gr i) (insAt (s.wt i) pos ⟨y, m, u⟩) s.lo (s.wa + 1) := ⟨_, rfl⟩
      have INS : Aside (Calls Ybad.prog 40 #[.pointer (some ⟨b, 0, none⟩), .int .i64 (pos : Int), .agg #[.int .i64 (y : Int), .int .i64 (m : Int), .bool u, .bool false]] w2 fun e w' => e = .returned (.tuple #[]) ∧ To ow w2 M qm tm s s2 w') := by
        rw [hs2]
        have I := INV.out
        exact insertR R2.out hi HB.out ⟨y, m, u⟩ hm pos (by rcases HPOS.out with ⟨_, h⟩ | ⟨_, h⟩; exact .inl h; exact .inr h) (by have := (I.qok i hi).len; omega) (by have := I.wa12; omega)
      have T2 : Aside (s2.tb = s.tb ∧ s2.hl = s.hl ∧ s2.wl = s.wl ∧ s2.qb = s.qb) := by rw [hs2]; exact ⟨rfl, rfl, rfl, rfl⟩
      have S2 : Aside (s2 = s.setQ i (s.gr i) (insAt (s.wt i) pos ⟨y, m, u⟩) s.lo (s.wa + 1)) := hs2
      clear hs2
      go_wp2_with fail
      refine INS.out.mono ?_
      rintro e w3 ⟨rfl, ow3, f3, h3⟩
      have e0 : w3.cell? ⟨w.heap.size, 0, none⟩ = some (.int .i64 (y : Int)) := by rw [f3.cell (a := ⟨w.heap.size, 0, none⟩) lB2 OB.out]; exact b0'
      have lB3 : w.heap.size < w3.heap.size := Nat.lt_of_lt_of_le lB2 f3.size
      have REC : Aside (Calls Ybad.prog 41 #[.pointer (some ⟨M, 0, none⟩), tv, .int .i64 (y : Int)] w3 fun e w' => ∃ t, e = .returned (.pointer (some ⟨t, 0, none⟩)) ∧ RecP ow3 w3 M qm tm s2 y t w') := by
        have := recordR h3 hy (by rw [T2.out.1, T2.out.2.1, T2.out.2.2.1]; exact fun e => INV.out.tn y hy (fun e => e) e)
        rw [T2.out.1, TV.out] at this
        exact this
      have F3 : Aside (FrX ow w ow3 w3 M qm tm s s2) := FrX.trans (FrX.of FF2.out (by simp) (fun _ _ hn => hn)) f3
      clear INS f3 h3 b0' b1' b2' b3' HB2 R2 FF2
      go_wp2_with fail
      refine REC.out.mono ?_
      rintro e w4 ⟨t, rfl, tb', st', ⟨ow4, f4, h4⟩, ht, hz⟩
      obtain ⟨hv, wv, x⟩ := h4.ts y hy t ht
      have ewl : s2.wl y = none := by rw [T2.out.2.2.1]; exact HWL.out
      simp only [ewl, Option.toList_none, List.map_nil] at x
      obtain ⟨xa, xc, rfl⟩ := row_form x.wrow
      have tl := heap_lt x.blk
      have x1 := x.c.2.1
      simp only [List.length_nil] at x x1
      have RW : Aside (w4.ownsRow 0 64 1 (.slice xa 0 xc) 0 (List.map qp [])) := x.wrow
      have FIN : Aside (∀ g cap2 w5, w5.ownsRow 0 64 1 (.slice (some ⟨g, 0, none⟩) (0 + 1) cap2) (0 + 1) (List.map qp [] ++ [qp b]) → (w4.alloc (.cells #[.pointer (some ⟨b, 0, none⟩)] 64)).grownBy w5 (Value.slice xa 0 xc).ownBlock →
          ((Value.slice xa 0 xc).ownBlock = some g ∨ g = w4.heap.size + 1) → g < w5.heap.size → (w5.cell? ⟨t, 1, none⟩ = some (.slice xa 0 xc) ∧ w5.frozen? ⟨t, 1, none⟩ = false ∧ t < w5.heap.size) ∧ Nxt ow w M qm tm s (w5.setCell ⟨t, 1, none⟩ (.slice (some ⟨g, 0, none⟩) (0 + 1) cap2))) := by
        intro g cap2 w5 k1 k2 k3 k4
        obtain ⟨cs, ow5, F5, x5⟩ := tx_app1 x h4.fresh rfl k1 k2 k3 k4
        refine ⟨cs, _, To.trans (F3.out.trans f4) (updT_to h4 hy ht F5 (hl' := s.hl y) (wl' := some i) (hv' := hv) (wv' := .slice (some ⟨g, 0, none⟩) (0 + 1) cap2) ?_), ?_⟩
        · have e1 : blk s.qb i = b := by simp [blk, HB.out]
          simp only [Option.toList_some, List.map_cons, List.map_nil]
          rw [T2.out.2.2.2, e1, ← T2.out.2.1, ← T2.out.2.2.2]
          exact x5
        · rw [S2.out]
          have I := INV.out
          refine inv_wait (r := ⟨y, m, u⟩) I hi hy hm ⟨?_, hum⟩ HWL.out (fun hg => ?_) pos (by rw [ht]; rfl) (fun z hz' => by rw [hz z hz', T2.out.1])
          · show u = true ↔ has (s.gr i) y = true
            rw [HU.out]
          · have hz1 := HZL.out
            rw [hg] at hz1
            have hw := I.emp i hi (fun e => e) hg
            rcases HPOS.out with ⟨_, h⟩ | ⟨_, h⟩
            · rw [h, hw] at hz1; simp at hz1; omega
            · rw [h] at hz1; simp at hz1; omega
      clear REC f4 h4 x hz ht F3 T2 S2 HB HU HWL HPOS HZL INV REP G7 d7 e0
      go_wp2_with (at_builtin; refine wpList_append_lies _ rfl (.tmp 47) (.tmp 49) 58 rfl 0 64 ti _ 1 8 Ybad.underlying58 hti hz0 hz1 hz2 rfl (by decide) (.slice xa 0 xc) 0 (List.map qp []) rfl ?h1 ⟨w4.heap.size, 0, none⟩ 1 1 [qp b] rfl rfl ?h2 ?h3 ?h4 ?h5 ?h6 ?h7 (w4.heap.size + 1) ?h8 ?h9)
      case h1 => exact (appP RW.out b rfl).1.out
      case h2 => exact (appP RW.out b rfl).2.1.out
      case h3 => exact (appP RW.out b rfl).2.2.out
      case h4 => omega
      case h5 => simp only [maxLen]; omega
      case h6 => omega
      case h7 => exact Nat.zero_le _
      case h8 => simp
      case h9 =>
        intro g cap2 w5 hown hgrow hat hlt
        obtain ⟨⟨k1, k2, k3⟩, hfin⟩ := FIN.out g cap2 w5 hown hgrow hat hlt
        have E := hide hfin
        clear hfin hown hgrow hat FIN
        go_wp2
        exact bodyPost_ret (by simp [results, Ybad.results29, go_sem]; exact ⟨rfl, rfl⟩) rfl ⟨_, _, rfl, E.out⟩

end

end Go.Proofs.YbulkbcpiDoor.rel
