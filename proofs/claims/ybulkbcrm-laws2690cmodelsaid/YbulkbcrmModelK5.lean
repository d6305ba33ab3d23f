/-
  Seat b2690a: LawS2690CModel: Compact.
-/
import Derived.Test.YbulkbcrmModelK4
namespace Go.Proofs.Ybulkbcrm.model
open Go.RowKit Go.Shelf

attribute [local go_sem] Oper.semAt_some

def st0 : PSt := ⟨0, 0, fun _ => none, 0, fun _ => none, []⟩

theorem inv0 : Inv st0 := ⟨⟨fun i r h => by simp [st0] at h⟩, fun i j a b h => by simp [st0] at h, fun i h => rfl, fun r h => by simp [st0] at h, by simp [st0]⟩

theorem Inv.addP {st : PSt} (h : Inv st) {r : Rec} (hs : r.slot < 16) (hl : r.low < 16) (ms : List (Nat × Nat)) : Inv (addP st r ms) := ((h.lowP hl).regP r ms).keptP.putP hs

abbrev SM := Rec × List (Nat × Nat)

def compP (ps : List SM) : PSt := ps.foldl (fun st p => addP st p.1 p.2) st0
def outP (st : PSt) : List Rec := st.held ++ (List.range 16).filterMap st.L

theorem compP_take (ps : List SM) (i : Nat) (p : SM) (h : ps[i]? = some p) : compP (ps.take (i + 1)) = addP (compP (ps.take i)) p.1 p.2 := by
  unfold compP
  rw [List.take_add_one, h, List.foldl_append]
  rfl

theorem compP_inv (ps : List SM) (h : ∀ p ∈ ps, p.1.slot < 16 ∧ p.1.low < 16) : Inv (compP ps) := by
  have key : ∀ (l : List SM) (st : PSt), Inv st → (∀ p ∈ l, p.1.slot < 16 ∧ p.1.low < 16) → Inv (l.foldl (fun st p => addP st p.1 p.2) st) := by
    intro l
    induction l with
    | nil => intro st h0 _; exact h0
    | cons a r ih =>
      intro st h0 hh
      have := hh a (by simp)
      exact ih _ (h0.addP this.1 this.2 _) (fun p hp => hh p (by simp [hp]))
  exact key ps st0 inv0 h

theorem Rep.quiet {B : Nat} {w w' : World} {sb : Nat} {st : PSt} (h : Rep B w sb st) (hB : B ≤ w.heap.size) (f : Fr (fun _ => False) w w') : Rep B w' sb st := by
  obtain ⟨mv, lv, hv, h⟩ := h
  exact ⟨mv, lv, hv, (h.quiet f).rebase hB⟩

/-- The row of saved states. -/
def SvRow (w : World) (v : Value) (ps : List SM) : Prop :=
  ∃ a cap, v = .slice a ps.length cap ∧ ∀ (i : Nat) (p : SM), ps[i]? = some p → (p.1.slot < 16 ∧ p.1.low < 16) ∧ MkRow w p.1.mv p.2 ∧ ∃ b off, a = some ⟨b, off, none⟩ ∧ ∀ (t : Nat) (u : Value), (rcl p.1)[t]? = some u → w.cell? ⟨b, off + i * 12 + t, none⟩ = some u

theorem rc12_at {w : World} {g o : Nat} {r : Rec} (h : ∀ (j : Nat) (u : Value), (rcl r)[j]? = some u → w.cell? ⟨g, o + j, none⟩ = some u) :
    w.cell? ⟨g, o, none⟩ = some (.int .u64 r.slot) ∧ w.cell? ⟨g, o + 1, none⟩ = some (.int .u64 0) ∧ w.cell? ⟨g, o + 2, none⟩ = some (.int .u32 0) ∧ w.cell? ⟨g, o + 3, none⟩ = some (.int .u64 r.low) ∧ w.cell? ⟨g, o + 4, none⟩ = some (.slice r.ma r.ml r.mc) ∧ w.cell? ⟨g, o + 5, none⟩ = some (.int .u64 r.rel) ∧ w.cell? ⟨g, o + 6, none⟩ = some (.int .u64 r.log) ∧ w.cell? ⟨g, o + 7, none⟩ = some (.int .u64 0) ∧ w.cell? ⟨g, o + 8, none⟩ = some (.int .u32 0) ∧ w.cell? ⟨g, o + 9, none⟩ = some (.int .u64 0) ∧ w.cell? ⟨g, o + 10, none⟩ = some (.int .u32 0) ∧ w.cell? ⟨g, o + 11, none⟩ = some (.slice none 0 0) :=
  ⟨h 0 _ rfl, h 1 _ rfl, h 2 _ rfl, h 3 _ rfl, h 4 _ rfl, h 5 _ rfl, h 6 _ rfl, h 7 _ rfl, h 8 _ rfl, h 9 _ rfl, h 10 _ rfl, h 11 _ rfl⟩

theorem MkRow.below {w w' : World} {v : Value} {ms : List (Nat × Nat)} (h : MkRow w v ms) {n : Nat} (b : Below n w w') (hn : w.heap.size ≤ n) : MkRow w' v ms := h.same (fun k _ hk => b.block k (Nat.lt_of_lt_of_le (heap_lt hk) hn))

theorem kpI_appended {V w1 : World} {n₀ Bv : Nat} {v v' : Value} {k : Nat} {xs : List Value} {tmp : Obj} (hv : Boxed V Bv 41 v) (hrow : V.ownsRow n₀ 52 12 v k xs) (hgrow : (V.alloc tmp).grownBy w1 v.ownBlock) (hk : KeepsOthers V (w1.setCell ⟨Bv, 0, none⟩ v')) : KpI V (w1.setCell ⟨Bv, 0, none⟩ v') := by
  refine ⟨hk.size, fun j o ho hw => hk.same j o ho (Obj.not_cells_of_walk hw), fun j cur t ho h41 h52 => ?_⟩
  have hj := heap_lt ho
  rw [hset_other _ _ _ (fun e => by
    simp only at e
    subst e
    unfold Boxed at hv
    rw [ho] at hv
    cases hv
    exact h41 rfl)]
  rw [hgrow.block j (by simp; omega) (fun e => by
    rcases hrow.2 with ⟨rfl, _⟩ | ⟨g, cap, cur', rfl, _, hg, _⟩
    · cases e
    · cases e
      rw [ho] at hg
      cases hg
      exact h52 rfl), Below.heap_alloc _ _ _ hj]
  exact ho

theorem rcl_one (r : Rec) : ∀ u ∈ rcl r, u.oneCell' = true := by
  intro u hu
  simp only [rcl, List.mem_cons, List.not_mem_nil, or_false] at hu
  rcases hu with rfl | rfl | rfl | rfl | rfl | rfl | rfl | rfl | rfl | rfl | rfl | rfl <;> rfl

theorem rcl_news (V : World) (r : Rec) : ∀ (j : Nat) (u : Value), (rcl r)[j]? = some u → (V.alloc (.cells (rcl r).toArray 52)).cell? ((⟨V.heap.size, 0, none⟩ : Addr).add j) = some u := fun j u hu => by
  rw [addr_add, Nat.zero_add]
  exact cell_of (alloc_new _ _) (by simpa using hu)

set_option maxRecDepth 100000 in
set_option maxHeartbeats 4000000 in
theorem compact {w : World} {v : Value} {ps : List SM} (hrow : SvRow w v ps) (hn : ps.length ≤ 300) :
    Calls Yba.prog 10 #[v] w fun e w' => ∃ v', e = .returned v' ∧ w'.ownsRow w.heap.size 52 12 v' (outP (compP ps)).length ((outP (compP ps)).flatMap rcl) ∧ (v' = .slice none 0 0 ↔ outP (compP ps) = []) ∧ Below w.heap.size w w' := by
  obtain ⟨va, vcap, rfl, hcells⟩ := hrow
  have HC := hide hcells
  clear hcells
  obtain ⟨sb, hsb⟩ : ∃ sb, w.heap.size = sb := ⟨_, rfl⟩
  obtain ⟨W1, hW1⟩ : ∃ W1, W1 = w.alloc (.cells #[.nilFunc, .int .u64 0, .int .u64 0, .map none, .int .u64 0, .map none, .slice none 0 0] 72) := ⟨_, rfl⟩
  have b1 : Below sb w W1 := by rw [hW1, ← hsb]; exact (Below.refl _ w).alloc (Nat.le_refl _) _
  have hs1 : W1.heap.size = sb + 1 := by rw [hW1, ← hsb]; simp
  have r1 : Rep sb W1 sb st0 := by
    refine ⟨.map none, .map none, .slice none 0 0, ⟨?_, .inl ⟨rfl, fun _ => rfl⟩, .inl ⟨rfl, fun _ => rfl⟩, .inl ⟨rfl, rfl⟩, fun m e => (by cases e), .inl ⟨Nat.le_refl _, by omega⟩, fun m e => (by cases e), fun m e => (by cases e), fun m e => (by cases e), Fr.refl _ _⟩⟩
    rw [hW1, ← hsb]
    exact alloc_new _ _
  have R1 := hide r1
  have HW1 := hide hW1
  have B1 := hide b1
  clear r1 hW1 b1
  refine (callsIn_wide (n := 9)).1 ?_
  refine callsIn_of_wp_marks Yba.func10 rfl trivial ?_ rfl
  simp only [Yba.ntmps10, List.size_toArray, List.length_cons, List.length_nil, Nat.reduceAdd, Nat.reduceSub, Array.replicate_succ, Array.replicate_zero, List.push_toArray, List.append_toArray, List.nil_append, List.cons_append]
  gi_wp2
  gi_loopw [11] (fun s11 wr => ∃ i : Nat, s11 = .int .i64 (i : Int) ∧ i ≤ ps.length ∧ Rep sb wr sb (compP (ps.take i)) ∧ Below sb w wr ∧ sb ≤ wr.heap.size) (fun s11 _ => ps.length - (intOf s11).toNat)
  case atStart =>
    rw [← HW1.out]
    exact ⟨0, rfl, Nat.zero_le _, R1.out, B1.out, by omega⟩
  case round =>
    obtain ⟨i, rfl, hin, hrep, hbel, hsz⟩ := hrel
    by_cases hi : i < ps.length
    · have hiI : (i : Int) < (ps.length : Int) := by omega
      obtain ⟨p, hp⟩ : ∃ p, ps[i]? = some p := ⟨_, List.getElem?_eq_getElem hi⟩
      obtain ⟨⟨hp1, hp2⟩, hmk, b, off, rfl, hcl⟩ := HC.out i p hp
      have hcw : ∀ (t : Nat) (u : Value), (rcl p.1)[t]? = some u → wr.cell? ⟨b, off + i * 12 + t, none⟩ = some u := fun t u hu => by
        have e := hcl t u hu
        rw [hbel.cell (p := ⟨b, off + i * 12 + t, none⟩) (by have := cell_lt e; omega)]
        exact e
      obtain ⟨x0, x1, x2, x3, x4, x5, x6, x7, x8, x9, x10, x11⟩ := rc12_at hcw
      have bA : Below sb wr (wr.alloc (.cells (rcl p.1).toArray 52)) := (Below.refl _ wr).alloc hsz _
      have cA := add (hrep.quiet hsz ((Fr.refl (fun _ => False) wr).alloc (.cells (rcl p.1).toArray 52))) (by simp; omega) (compP_inv (ps.take i) (fun q hq => by
        obtain ⟨j, hj⟩ := List.mem_iff_getElem?.1 (List.mem_of_mem_take hq)
        exact (HC.out j q hj).1)) p.1 p.2 hp1 hp2 (fun wx hx => hmk.below (hbel.trans (bA.trans hx)) (by omega))
      have MID := hide (fun (w3 : World) (h : Below sb (wr.alloc (.cells (rcl p.1).toArray 52)) w3) => hbel.trans (bA.trans h))
      rw [← compP_take ps i p hp] at cA
      obtain ⟨⟨slot, low', rel', log, ra', rl', rc'⟩, ms⟩ := p
      unfold rcl rcv at cA
      unfold rcl at MID
      simp only at cA MID x0 x1 x2 x3 x4 x5 x6 x7 x8 x9 x10 x11
      have CA := hide cA
      have hh : 1 ≤ 9 := by decide
      clear hcw hcl hmk hp cA bA hrep
      gi_wp2_with (refine ⟨trivial, ?_⟩; gi_at_call 11; refine (callsIn_wide.2 CA.out).mono ?_; rintro e w3 ⟨rfl, hr3, hb3⟩)
      have hb3' := MID.out w3 hb3
      have hsz3 : sb ≤ w3.heap.size := by have := hb3'.size; omega
      go_roundw
      case rel => exact ⟨i + 1, by go_num, by omega, hr3, hb3', hsz3⟩
      case measure => simp [intOf]; omega
    · have hiI : ¬ (i : Int) < (ps.length : Int) := by omega
      rw [List.take_of_length_le (by omega)] at hrep
      have cAll := all sb (wr.alloc (.cells #[.slice none 0 0] 41))
      simp only [World.size_alloc] at cAll
      gi_wp2_with (refine ⟨trivial, ?_⟩; gi_at_call 12; refine (callsIn_wide.2 cAll).mono ?_; rintro e w3 ⟨rfl, rfl⟩)
      obtain ⟨i0, hi0, hz0, hz1, hz2⟩ := info_parts Yba.info52
      obtain ⟨W3, hW3⟩ : ∃ W3, W3 = (wr.alloc (.cells #[.slice none 0 0] 41)).alloc (.cells #[.pointer (some ⟨sb, 0, none⟩)] 77) := ⟨_, rfl⟩
      have f3 : Fr (fun _ => False) wr W3 := by rw [hW3]; exact ((Fr.refl _ wr).alloc _).alloc _
      obtain ⟨mv, lv, hv, hst⟩ := hrep.quiet hsz f3
      have bO : Boxed W3 wr.heap.size 41 (.slice none 0 0) := by
        rw [hW3]
        unfold Boxed
        rw [Below.heap_alloc _ _ _ (by simp)]
        exact alloc_new _ _
      have pb3 : PB W3 (wr.heap.size + 1) sb := by
        have e := alloc_new (wr.alloc (.cells #[.slice none 0 0] 41)) (.cells #[.pointer (some ⟨sb, 0, none⟩)] 77)
        rw [World.size_alloc] at e
        rw [hW3]
        exact e
      obtain ⟨mb, rfl⟩ : ∃ mb, lv = .map mb := by
        rcases hst.live with ⟨e, _⟩ | ⟨m, e, _⟩
        · exact ⟨none, e⟩
        · exact ⟨some m, e⟩
      have inv : Inv (compP ps) := compP_inv ps (fun q hq => by
        obtain ⟨j, hj⟩ := List.mem_iff_getElem?.1 hq
        exact (HC.out j q hj).1)
      have sR : StR W3 (wr.heap.size + 1) sb _ _ mv _ mb hv (compP ps).L (compP ps).held := ⟨pb3, hst.blk, hst.live, hst.seg⟩
      have hB3 : Below sb w W3 := hbel.trans (f3.below hsz (fun _ h => h.elim))
      have hs3 : sb ≤ W3.heap.size := by have := f3.size; omega
      have hbv : wr.heap.size < W3.heap.size := Boxed.lt bO
      rw [← hW3]
      clear hrep hst pb3 f3 hW3 cAll R1 HW1 B1 hs1
      refine rangeFuncO (by decide) (gf := 22) (lb := #[.pointer (some ⟨wr.heap.size + 1, 0, none⟩)]) rfl (enters_of Yba.func22 (by kernel_rfl) rfl)
        (all1 8 (by decide) sR inv.ok inv.len) rfl
        (fun pre V => (∃ v, Boxed V wr.heap.size 41 v ∧ V.ownsRow sb 52 12 v pre.length (pre.flatMap rcl) ∧ (v = .slice none 0 0 ↔ pre = [])) ∧ Below sb w V)
        (OwnFrom.and (Own.from (holdsRow_own sb wr.heap.size 41 52 12 (fun pre : List Rec => pre.length) (fun pre : List Rec => pre.flatMap rcl) (fun pre v => v = .slice none 0 0 ↔ pre = [])) _) (ownFrom_below (by omega) hs3))
        ⟨⟨_, bO, World.ownsRow_nil _ _ _ _, by simp⟩, hB3⟩
        (fun x a' V => ∃ Bx, V.heap[Bx]? = some (.cells (rcl x).toArray 52 (0, 0)) ∧ a' = { tmps := #[.slice va ps.length vcap, undef, .slice none 0 0, .pointer (some ⟨sb, 0, none⟩), undef, u5, .pointer (some ⟨wr.heap.size, 0, none⟩), undef, .pointer (some ⟨Bx, 0, none⟩), .slice va ps.length vcap, .int .i64 (ps.length : Int), .int .i64 (i : Int), .bool false, u13, u14, u15, u16, u17, u18, .func (.func 22) #[] #[.pointer (some ⟨wr.heap.size + 1, 0, none⟩)], .int .u64 (x.slot : Int), rcv x, undef, undef, undef, undef, undef], defers := [] })
        (fun x a' s V V' row hs hg hr => by
          obtain ⟨Bx, hb, ha'⟩ := hs
          refine ⟨Bx, (hg.block _ (heap_lt hb) (fun e => ?_)).trans hb, ha'⟩
          obtain ⟨_, o, ho, hc⟩ := hr _ e.symm
          rw [hb] at ho
          cases ho
          cases hc)
        ?assign ?body ?done
      case assign =>
        rintro m l pre x V K ⟨⟨v, hv, hrow, hnil⟩, hB⟩ hK
        have E := fun a' V' => hK a' V'
        clear hK
        obtain ⟨slot, low', rel', log, ra', rl', rc'⟩ := x
        unfold encR2 rcv
        have bV : Below V.heap.size V (V.alloc (.cells #[.int .u64 (slot : Int), .int .u64 0, .int .u32 0, .int .u64 (low' : Int), .slice ra' rl' rc', .int .u64 (rel' : Int), .int .u64 (log : Int), .int .u64 0, .int .u32 0, .int .u64 0, .int .u32 0, .slice none 0 0] 52)) := (Below.refl _ V).alloc (Nat.le_refl _) _
        gi_wp2
        refine E _ _ (KeepsOthers.alloc _ _) (KpI.of_below bV (Nat.le_refl _)) ⟨⟨v, hv.alloc _, hrow.alloc _, hnil⟩, hB.alloc (by have := hB.size; omega) _⟩ ⟨V.heap.size, alloc_new _ _, ?_⟩
        unfold rcv
        rfl
      case body =>
        rintro m l pre x a' V ⟨⟨v, hv, hrow, hnil⟩, hB⟩ ⟨Bx, hbx, rfl⟩ hlt
        have hc := hv.cell
        have hsV : sb ≤ V.heap.size := by have := hB.size; omega
        have hnews := rcl_news V x
        have hone := rcl_one x
        have hlen12 : (rcl x).length = 1 * 12 := rfl
        have DONE := hide (fun (w1 : World) (g' cap' : Nat) (hown' : w1.ownsRow sb 52 12 (.slice (some ⟨g', 0, none⟩) (pre.length + 1) cap') (pre.length + 1) (pre.flatMap rcl ++ rcl x)) (hgrow : (V.alloc (.cells (rcl x).toArray 52)).grownBy w1 v.ownBlock) => hv.appended (by decide) hrow hsV (by omega : sb ≤ wr.heap.size) hown' hgrow)
        have DONE2 := hide (fun (w1 : World) (v' : Value) (hgrow : (V.alloc (.cells (rcl x).toArray 52)).grownBy w1 v.ownBlock) (hk : KeepsOthers V (w1.setCell ⟨wr.heap.size, 0, none⟩ v')) => kpI_appended hv hrow hgrow hk)
        have hrowA : (V.alloc (.cells (rcl x).toArray 52)).ownsRow sb 52 12 v pre.length (pre.flatMap rcl) := hrow.alloc _
        have FIN := hide (show ∀ (w1 : World) (g' cap' : Nat), w1.ownsRow sb 52 12 (.slice (some ⟨g', 0, none⟩) (pre.length + 1) cap') (pre.length + 1) (pre.flatMap rcl ++ rcl x) → (V.alloc (.cells (rcl x).toArray 52)).grownBy w1 v.ownBlock →
            KeepsOthers V (w1.setCell ⟨wr.heap.size, 0, none⟩ (.slice (some ⟨g', 0, none⟩) (pre.length + 1) cap')) ∧ KpI V (w1.setCell ⟨wr.heap.size, 0, none⟩ (.slice (some ⟨g', 0, none⟩) (pre.length + 1) cap')) ∧ ((∃ v, Boxed (w1.setCell ⟨wr.heap.size, 0, none⟩ (.slice (some ⟨g', 0, none⟩) (pre.length + 1) cap')) wr.heap.size 41 v ∧ (w1.setCell ⟨wr.heap.size, 0, none⟩ (.slice (some ⟨g', 0, none⟩) (pre.length + 1) cap')).ownsRow sb 52 12 v (pre ++ [x]).length ((pre ++ [x]).flatMap rcl) ∧ (v = .slice none 0 0 ↔ pre ++ [x] = [])) ∧ Below sb w (w1.setCell ⟨wr.heap.size, 0, none⟩ (.slice (some ⟨g', 0, none⟩) (pre.length + 1) cap'))) ∧ Boxed w1 wr.heap.size 41 v from fun w1 g' cap' hown' hgrow => by
          obtain ⟨hv1, hv2, hr2, hk2, hb2⟩ := DONE.out w1 g' cap' hown' hgrow
          refine ⟨hk2, DONE2.out w1 _ hgrow hk2, ⟨⟨_, hv2, ?_, by simp⟩, hB.trans hb2⟩, hv1⟩
          rw [List.flatMap_append, List.length_append]
          simpa using hr2)
        obtain ⟨slot, low', rel', log, ra', rl', rc'⟩ := x
        unfold rcl at hbx hnews hone hlen12 hrowA
        simp only at hbx hnews hone hlen12 hrowA
        have x0 : V.cell? ⟨Bx, 0, none⟩ = some (.int .u64 (slot : Int)) := cell_of hbx rfl
        have x1 : V.cell? ⟨Bx, 1, none⟩ = some (.int .u64 0) := cell_of hbx rfl
        have x2 : V.cell? ⟨Bx, 2, none⟩ = some (.int .u32 0) := cell_of hbx rfl
        have x3 : V.cell? ⟨Bx, 3, none⟩ = some (.int .u64 (low' : Int)) := cell_of hbx rfl
        have x4 : V.cell? ⟨Bx, 4, none⟩ = some (.slice ra' rl' rc') := cell_of hbx rfl
        have x5 : V.cell? ⟨Bx, 5, none⟩ = some (.int .u64 (rel' : Int)) := cell_of hbx rfl
        have x6 : V.cell? ⟨Bx, 6, none⟩ = some (.int .u64 (log : Int)) := cell_of hbx rfl
        have x7 : V.cell? ⟨Bx, 7, none⟩ = some (.int .u64 0) := cell_of hbx rfl
        have x8 : V.cell? ⟨Bx, 8, none⟩ = some (.int .u32 0) := cell_of hbx rfl
        have x9 : V.cell? ⟨Bx, 9, none⟩ = some (.int .u64 0) := cell_of hbx rfl
        have x10 : V.cell? ⟨Bx, 10, none⟩ = some (.int .u32 0) := cell_of hbx rfl
        have x11 : V.cell? ⟨Bx, 11, none⟩ = some (.slice none 0 0) := cell_of hbx rfl
        clear hbx
        gi_wp2_with (gi_at_builtin; refine wpListIn_append_own _ rfl _ _ 41 rfl sb 52 i0 _ 12 128 Yba.underlying41 hi0 hz0 hz1 hz2 rfl (by decide) _ _ _ rfl hrowA ⟨V.heap.size, 0, none⟩ 1 1 _ rfl hlen12 hnews hone (by simp only [maxLen]; omega) (by omega) (by simp; omega) ?_; intro v' w1 hown' hgrow _; obtain ⟨g', cap', rfl⟩ := ownsRow_succ hown'; obtain ⟨e1, e2, e3, e4⟩ := FIN.out w1 g' cap' hown' hgrow; have hc1 := Boxed.cell e4; have hf1 := Boxed.frozen e4)
        obtain ⟨v2, q1, q2, q3⟩ := e3.1
        exact ⟨v2, q1, by simpa using q2, by simpa using q3⟩
      case done =>
        rintro D ys V hD hS ⟨⟨v, hv, hrow, hnil⟩, hB⟩ hK
        have hc := hv.cell
        gi_wp2
        refine ⟨by simp, .inl ⟨_, _, rfl, run_takeDeferred hK, ?_⟩⟩
        have hS' : ys = outP (compP ps) := hS
        subst hS'
        subst hsb
        exact ⟨_, results_tmp rfl _ _ _, v, rfl, ownsRow_putObj hrow _ hK rfl, hnil, hB.trans (belowK_b (w := w) (Nat.le_refl _) V D _ _ (by omega) hK rfl rfl)⟩

end Go.Proofs.Ybulkbcrm.model
