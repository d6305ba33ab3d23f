/-
  Seat b2686aD: a request is granted: the walks.
-/
import Derived.Test.YbulkbcpiDoorRGrant
namespace Go.Proofs.YbulkbcpiDoor.rel
open Go.RowKit

section
variable {ow : Nat → Option Nat} {w : World} {M qm tm : Nat} {s : St} {i b : Nat}

def GrU (ow : Nat → Option Nat) (w : World) (M qm tm : Nat) (s : St) (i y : Nat) (w' : World) : Prop :=
  ∃ k r, (s.gr i)[k]? = some r ∧ r.y = y ∧ To ow w M qm tm s (s.setQ i ((s.gr i).set k ⟨r.y, 1, r.u⟩) (s.wt i) s.lo s.wa) w'

theorem still_frx {o : Obj} (h : Rep ow w M qm tm s) : Rep ow (w.alloc o) M qm tm s ∧ FrX ow w ow (w.alloc o) M qm tm s s := by
  have f : Fr ow w ow (w.alloc o) [] := (Fr.refl h.fresh []).alloc o
  exact ⟨h.still f, FrX.of f (by simp) (fun _ _ hn => hn)⟩

set_option maxRecDepth 50000 in
set_option maxHeartbeats 1000000 in
theorem grantU (h : Rep ow w M qm tm s) (hi : i < 3) (hb : s.qb i = some b) (y : Nat) (tv : Value) (hy : has (s.gr i) y = true) (hms : ∀ r ∈ s.gr i, r.m < 2) (hlen : (s.gr i).length ≤ 8) :
    Calls Ybad.prog 38 #[.pointer (some ⟨M, 0, none⟩), .pointer (some ⟨b, 0, none⟩), tv, rv ⟨y, 1, true⟩] w fun e w' => e = .returned (.tuple #[]) ∧ GrU ow w M qm tm s i y w' := by
  obtain ⟨h1, f1⟩ := still_frx (o := .cells #[.int .i64 (y : Int), .int .i64 (1 : Int), .bool true, .bool false] 83) h
  have CALL : Aside (Calls Ybad.prog 52 #[.pointer (some ⟨b, 0, none⟩), .int .i64 (y : Int), .int .i64 1] (w.alloc (.cells #[.int .i64 (y : Int), .int .i64 (1 : Int), .bool true, .bool false] 83)) fun e w' => e = .returned (.tuple #[]) ∧ GrU ow w M qm tm s i y w') := by
    refine (convertR h1 hi hb y hy hms hlen).mono ?_
    rintro e w' ⟨rfl, k, r, e1, e2, to⟩
    exact ⟨rfl, k, r, e1, e2, To.trans f1 to⟩
  clear h h1 f1
  unfold rv
  go_enter Ybad.func38, Ybad.ntmps38
  go_wp2_with fail
  refine CALL.out.mono ?_
  rintro e w1 ⟨rfl, hE⟩
  have E := hide hE
  clear hE
  go_wp2
  exact bodyPost_ret (by simp [results, Ybad.results38, go_sem]) rfl ⟨rfl, E.out⟩

def GrN (ow : Nat → Option Nat) (w : World) (M qm tm : Nat) (s : St) (i : Nat) (r : Req) (w' : World) : Prop :=
  ∃ tb' st', To ow w M qm tm s (St.setT { s.setQ i (s.gr i ++ [r]) (s.wt i) (s.lo + if (s.gr i).length = 0 then 1 else 0) s.wa with tb := tb', st := st' } r.y (s.hl r.y ++ [i]) (s.wl r.y)) w' ∧ (tb' r.y).isSome = true ∧ ∀ z, z ≠ r.y → tb' z = s.tb z

set_option maxRecDepth 50000 in
set_option maxHeartbeats 4000000 in
theorem grantN (h : Rep ow w M qm tm s) (hi : i < 3) (hb : s.qb i = some b) (y m : Nat) (hy4 : y < 4) (hm : m < 2) (hn : s.tb y = none → s.hl y = [] ∧ s.wl y = none) (hlen : (s.gr i).length ≤ 8) (hlo2 : s.lo ≤ 8) (hhl : (s.hl y).length ≤ 8) :
    Calls Ybad.prog 38 #[.pointer (some ⟨M, 0, none⟩), .pointer (some ⟨b, 0, none⟩), pv (s.tb y), rv ⟨y, m, false⟩] w fun e w' => e = .returned (.tuple #[]) ∧ GrN ow w M qm tm s i ⟨y, m, false⟩ w' := by
  obtain ⟨h1, f1⟩ := still_frx (o := .cells #[.int .i64 (y : Int), .int .i64 (m : Int), .bool false, .bool false] 83) h
  obtain ⟨W, hW⟩ : ∃ W, W = w.alloc (.cells #[.int .i64 (y : Int), .int .i64 (m : Int), .bool false, .bool false] 83) := ⟨_, rfl⟩
  rw [← hW] at h1 f1
  obtain ⟨s2, hs2⟩ : ∃ s2, s2 = s.setQ i (s.gr i ++ [⟨y, m, false⟩]) (s.wt i) (s.lo + if (s.gr i).length = 0 then 1 else 0) s.wa := ⟨_, rfl⟩
  have CALL : Aside (Calls Ybad.prog 53 #[.pointer (some ⟨b, 0, none⟩), .agg #[.int .i64 (y : Int), .int .i64 (m : Int), .bool false, .bool false]] W fun e w' => e = .returned (.tuple #[]) ∧ To ow W M qm tm s s2 w') := by
    rw [hs2]
    exact appendR h1 hi hb ⟨y, m, false⟩ hm hlen hlo2
  have BOX : Aside (∀ ow2 w2, FrX ow W ow2 w2 M qm tm s s2 → w2.cell? ⟨w.heap.size, 0, none⟩ = some (.int .i64 (y : Int)) ∧ w.heap.size < w2.heap.size) := by
    intro ow2 w2 f2
    have hl : w.heap.size < W.heap.size := by rw [hW]; simp
    refine ⟨?_, Nat.lt_of_lt_of_le hl f2.size⟩
    rw [f2.cell (a := ⟨w.heap.size, 0, none⟩) hl (h.fresh _ (Nat.le_refl _)), hW, cell_of_row _ _ _ _ _ _ (heap_new w _)]
    rfl
  have T2 : Aside (s2.tb = s.tb ∧ s2.hl = s.hl ∧ s2.wl = s.wl ∧ s2.qb = s.qb) := by rw [hs2]; exact ⟨rfl, rfl, rfl, rfl⟩
  have S2 : Aside (s2 = s.setQ i (s.gr i ++ [⟨y, m, false⟩]) (s.wt i) (s.lo + if (s.gr i).length = 0 then 1 else 0) s.wa) := hs2
  have FW : Aside (FrX ow w ow W M qm tm s s) := f1
  have HN : Aside (s.tb y = none → s.hl y = [] ∧ s.wl y = none) := hn
  have HB : Aside (s.qb i = some b) := hb
  have HH : Aside ((s.hl y).length ≤ 8) := hhl
  obtain ⟨ti, hti, hz0, hz1, hz2⟩ := info_parts Ybad.info64
  obtain ⟨tv, htv⟩ : ∃ tv, pv (s.tb y) = tv := ⟨_, rfl⟩
  have TV : Aside (pv (s.tb y) = tv) := htv
  clear h h1 f1 hs2 hn hb hlen hlo2 hm hhl
  unfold rv
  rw [htv]
  clear htv
  go_enter Ybad.func38, Ybad.ntmps38
  go_wp2_with fail
  rw [← hW]
  clear hW
  refine CALL.out.mono ?_
  rintro e w2 ⟨rfl, ow2, f2, h2⟩
  obtain ⟨c0, l0⟩ := BOX.out _ _ f2
  have REC : Aside (Calls Ybad.prog 41 #[.pointer (some ⟨M, 0, none⟩), tv, .int .i64 (y : Int)] w2 fun e w' => ∃ t, e = .returned (.pointer (some ⟨t, 0, none⟩)) ∧ RecP ow2 w2 M qm tm s2 y t w') := by
    have := recordR h2 hy4 (by rw [T2.out.1, T2.out.2.1, T2.out.2.2.1]; exact HN.out)
    rw [T2.out.1, TV.out] at this
    exact this
  have F2 : Aside (FrX ow w ow2 w2 M qm tm s s2) := FW.out.trans f2
  clear CALL BOX FW f2 h2
  go_wp2_with fail
  refine REC.out.mono ?_
  rintro e w3 ⟨t, rfl, tb', st', ⟨ow3, f3, h3⟩, ht, hz⟩
  obtain ⟨hv, wv, x⟩ := h3.ts y hy4 t ht
  obtain ⟨sqv, stv, mg, _, _⟩ := h3.mg
  obtain ⟨ha, hc, rfl⟩ := row_form x.hrow
  obtain ⟨L, hL⟩ : ∃ L, (s2.hl y).map (blk s2.qb) = L := ⟨_, rfl⟩
  obtain ⟨n, hnn⟩ : ∃ n, L.length = n := ⟨_, rfl⟩
  simp only [hL, hnn] at x
  have hn8 : n ≤ 8 := by rw [← hnn, ← hL, List.length_map, T2.out.2.1]; exact HH.out
  have htM := x.ne_mg mg
  have tl := heap_lt x.blk
  have ml := heap_lt mg
  have x0 := x.c.1
  have RW : Aside (w3.ownsRow 0 64 1 (.slice ha n hc) n (L.map qp)) := by have := x.hrow; rw [hnn] at this; exact this
  have FIN : Aside (∀ g cap2 w4, w4.ownsRow 0 64 1 (.slice (some ⟨g, 0, none⟩) (n + 1) cap2) (n + 1) (L.map qp ++ [qp b]) → (w3.alloc (.cells #[.pointer (some ⟨b, 0, none⟩)] 64)).grownBy w4 (Value.slice ha n hc).ownBlock →
      ((Value.slice ha n hc).ownBlock = some g ∨ g = w3.heap.size + 1) → g < w4.heap.size → (w4.cell? ⟨t, 0, none⟩ = some (.slice ha n hc) ∧ w4.frozen? ⟨t, 0, none⟩ = false ∧ w4.cell? ⟨t, 2, none⟩ = some (.bool false) ∧ w4.frozen? ⟨t, 2, none⟩ = false ∧ t < w4.heap.size) ∧ w4.cell? ⟨M, 2, none⟩ = some (.bool false) ∧ M < w4.heap.size ∧
      GrN ow w M qm tm s i ⟨y, m, false⟩ ((w4.setCell ⟨t, 0, none⟩ (.slice (some ⟨g, 0, none⟩) (n + 1) cap2)).setCell ⟨t, 2, none⟩ (.bool false))) := by
    intro g cap2 w4 k1 k2 k3 k4
    obtain ⟨cs, ow4, F4, x4⟩ := tx_app0 x h3.fresh hnn k1 k2 k3 k4
    have hM4 : w4.heap[M]? = w3.heap[M]? := by
      rw [k2.block M (by simp; omega) (fun e => ?_), Below.heap_alloc _ _ _ ml]
      have := x.hown M e.symm
      rw [h3.oM] at this
      injection this with this
      exact htM this.symm
    refine ⟨cs, ?_, ?_, tb', st', ?_, by rw [ht]; rfl, fun z hz' => by rw [hz z hz', T2.out.1]⟩
    · rw [World.cell?_of_block (a := ⟨M, 2, none⟩) hM4]; exact mg.c.2.2.1
    · exact heap_lt (hM4.trans mg)
    · refine To.trans (F2.out.trans f3) ?_
      have := updT_to h3 hy4 ht F4 (hl' := s.hl y ++ [i]) (wl' := s.wl y) (hv' := .slice (some ⟨g, 0, none⟩) (n + 1) cap2) (wv' := wv) ?_
      · rw [S2.out] at this ⊢
        exact this
      · have e1 : blk s.qb i = b := by simp [blk, HB.out]
        simp only [List.map_append, List.map_cons, List.map_nil]
        rw [T2.out.2.2.2, e1, ← T2.out.2.1, ← T2.out.2.2.1, ← T2.out.2.2.2, hL]
        exact x4
  clear REC f3 h3 x mg hz ht hnn hL F2 T2 S2 HN HB HH TV c0 l0
  go_wp2_with (at_builtin; refine wpList_append_lies _ rfl (.tmp 28) (.tmp 30) 58 rfl 0 64 ti _ 1 8 Ybad.underlying58 hti hz0 hz1 hz2 rfl (by decide) (.slice ha n hc) n (L.map qp) rfl ?h1 ⟨w3.heap.size, 0, none⟩ 1 1 [qp b] rfl rfl ?h2 ?h3 ?h4 ?h5 ?h6 ?h7 (w3.heap.size + 1) ?h8 ?h9)
  case h1 => exact (appP RW.out b rfl).1.out
  case h2 => exact (appP RW.out b rfl).2.1.out
  case h3 => exact (appP RW.out b rfl).2.2.out
  case h4 => omega
  case h5 => simp only [maxLen]; omega
  case h6 => omega
  case h7 => exact Nat.zero_le _
  case h8 => simp
  case h9 =>
    intro g cap2 w4 hown hgrow hat hlt
    obtain ⟨⟨k1, k2, k3, k4, k5⟩, k6, k7, hfin⟩ := FIN.out g cap2 w4 hown hgrow hat hlt
    have E := hide hfin
    have MT : M ≠ t := Ne.symm htM
    clear hfin hown hgrow hat FIN
    go_wp2_with fail
    refine (conservative (w := w4.setCell ⟨t, 0, none⟩ (.slice (some ⟨g, 0, none⟩) (n + 1) cap2)) ?c2).mono ?_
    case c2 => rw [← k6]; exact World.cell?_of_block (hset_other _ _ _ htM)
    rintro e w5 ⟨rfl, rfl⟩
    go_wp2
    go_end0
    exact ⟨rfl, E.out⟩

end

end Go.Proofs.YbulkbcpiDoor.rel
