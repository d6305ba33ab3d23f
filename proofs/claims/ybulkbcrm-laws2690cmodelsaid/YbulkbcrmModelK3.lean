/-
  Seat b2690a: LawS2690CModel: the iterator All.
-/
import Derived.Test.YbulkbcrmModelK2
namespace Go.Proofs.Ybulkbcrm.model
open Go.RowKit Go.Shelf

attribute [local go_sem] Oper.semAt_some

/-- What a round of the outer loop keeps. -/
structure KpX (B : Nat) (W W' : World) : Prop where
  kp : KpI W W'
  from' : KeepsFrom B W W'

theorem KpX.trans {B : Nat} {X Y Z : World} (h : KpX B X Y) (k : KpX B Y Z) : KpX B X Z := ⟨h.kp.trans k.kp, h.from'.trans k.from'⟩

/-- An iterator over states that never is told to stop. -/
def SeqO (n : Nat) (g : Nat) (lb : Array Value) (S : List Rec → Prop) (w0 : World) : Prop :=
  ∀ (l : Nat) (J : List Rec → World → Prop) (W : World), Below w0.heap.size w0 W → OwnFrom W.heap.size J →
    (∀ m pre x W1, J pre W1 → pre.length < 40 → YieldAt Fence.wide m Yba.prog l (encR2 x) W1 fun e W' => e = .returned (.bool true) ∧ J (pre ++ [x]) W' ∧ KpX W.heap.size W1 W') →
    J [] W → CallsIn Fence.wide n Yba.prog g (#[.func (.yield l) #[] #[]] ++ lb) W fun e W' => (∃ v, e = .returned v) ∧ ∃ xs, S xs ∧ J xs W'

theorem ownFrom_le {β : Type} {B B' : Nat} {I : β → World → Prop} (h : OwnFrom B I) (hB : B ≤ B') : OwnFrom B' I := fun s W W' row hs hg hr => h s W W' row hs hg (fun r e => ⟨Nat.le_trans hB (hr r e).1, (hr r e).2⟩)

def yv (l : Nat) : Value := .func (.yield l) #[] #[]

set_option maxRecDepth 100000 in
set_option maxHeartbeats 4000000 in
theorem all1 (n : Nat) (hn : 6 ≤ n) {w : World} {Bs sb low rel : Nat} {mv : Value} {kept : Nat} {mb : Option Nat} {hv : Value} {L : Nat → Option Rec} {held : List Rec} (hst : StR w Bs sb low rel mv kept mb hv L held) (ok : Lok L) (hl16 : held.length ≤ 16) :
    SeqO n 22 #[.pointer (some ⟨Bs, 0, none⟩)] (fun xs => xs = held ++ (List.range 16).filterMap L) w := fun l J W hW hJ hY h0 => by
  have s0 : StR W Bs sb low rel mv kept mb hv L held := hst.kp (KpI.of_below hW (Nat.le_refl _))
  obtain ⟨W1, hW1⟩ : ∃ W1, W1 = W.alloc (.cells #[yv l] 89) := ⟨_, rfl⟩
  have b1 : Below W.heap.size W W1 := by rw [hW1]; exact (Below.refl _ W).alloc (Nat.le_refl _) _
  have s1 := s0.kp (KpI.of_below b1 (Nat.le_refl _))
  have J1 : J [] W1 := by rw [hW1]; exact hJ.alloc _ h0
  have y1 : W1.heap[W.heap.size]? = some (.cells #[yv l] 89 (0, 0)) := by rw [hW1]; exact alloc_new _ _
  obtain ⟨ha, hcap, hhv, _⟩ := s0.seg.form
  subst hhv
  have pb0 : W.cell? ⟨Bs, 0, none⟩ = some (.pointer (some ⟨sb, 0, none⟩)) := cell_of s0.pb rfl
  have c6 := s0.blk.c6
  have pl := heap_lt s0.pb
  have sl := s0.blk.lt
  have HW1 := hide hW1
  have S1 := hide s1
  have J1' := hide J1
  have Y1 := hide y1
  clear s0 s1 J1 y1 hst hW1
  have h1 : 1 ≤ n := by omega
  refine callsIn_of_wp_marks Yba.func22 rfl trivial ?_ rfl
  simp only [Yba.ntmps22, List.size_toArray, List.length_cons, List.length_nil, Nat.reduceAdd, Nat.reduceSub, Array.replicate_succ, Array.replicate_zero, List.push_toArray, List.append_toArray, List.nil_append, List.cons_append]
  gi_wp2
  gi_loopw [12] (fun s12 wr => ∃ j : Nat, s12 = .int .i64 (j : Int) ∧ j ≤ held.length ∧ StR wr Bs sb low rel mv kept mb (.slice ha held.length hcap) L held ∧ wr.heap[W.heap.size]? = some (.cells #[yv l] 89 (0, 0)) ∧ W.heap.size ≤ wr.heap.size ∧ J (held.take j) wr) (fun s12 _ => held.length - (intOf s12).toNat)
  case atStart =>
    have e := HW1.out
    unfold yv at e
    rw [← e]
    exact ⟨0, rfl, Nat.zero_le _, S1.out, Y1.out, b1.size, J1'.out⟩
  case round =>
    obtain ⟨j, rfl, hjn, s4, y4, hsz4, hJ4⟩ := hrel
    clear HW1 S1 J1' Y1 b1 pb0 c6 pl sl
    by_cases hj : j < held.length
    · have hjI : (j : Int) < (held.length : Int) := by omega
      obtain ⟨r, hr⟩ : ∃ r, held[j]? = some r := ⟨_, List.getElem?_eq_getElem hj⟩
      obtain ⟨_, _, e1, hrow⟩ := s4.seg.form
      cases e1
      obtain ⟨g, off, rfl, _, hcells⟩ := hrow j r hr
      obtain ⟨x0, x1, x2, x3, x4, x5, x6, x7, x8, x9, x10, x11, x12⟩ := rc_at hcells
      have yc : wr.cell? ⟨W.heap.size, 0, none⟩ = some (.func (.yield l) #[] #[]) := cell_of y4 rfl
      have ylt := heap_lt y4
      have hJ5 : J (held.take j) (wr.alloc (.cells (hcl r).toArray 80)) := hJ.alloc _ hJ4
      have hlen : (held.take j).length < 40 := by rw [List.length_take]; omega
      obtain ⟨fn, tmps, assign, body, hyy, hR⟩ := hY (n - 1) _ r _ hJ5 hlen
      have b5 : Below wr.heap.size wr (wr.alloc (.cells (hcl r).toArray 80)) := (Below.refl _ wr).alloc (Nat.le_refl _) _
      have S5 := hide (s4.kp (KpI.of_below b5 (Nat.le_refl _)))
      have Y5 := hide ((Below.heap_alloc wr (.cells (hcl r).toArray 80) _ ylt).trans y4)
      have HRR := hide hr
      unfold encR2 at hyy
      obtain ⟨slot, low', rel', log, ra', rl', rc'⟩ := r
      unfold hcl rcl at hyy hR S5 Y5
      unfold rcv at hyy
      simp only at hyy
      clear s4 hrow hcells hr y4 hJ5 b5
      gi_wp2
      refine hR.mono ?_
      rintro e W6 ⟨rfl, hJ6, hk6⟩
      have hsz6 := hk6.kp.size
      simp at hsz6
      gi_wp2
      go_roundw
      case rel =>
        refine ⟨j + 1, by go_num, by omega, S5.out.kp hk6.kp, hk6.kp.cell _ _ _ Y5.out (by decide) (by decide), by omega, ?_⟩
        rw [List.take_add_one, HRR.out]
        exact hJ6
      case measure => simp [intOf]; omega
    · have hjI : ¬ (j : Int) < (held.length : Int) := by omega
      rw [List.take_of_length_le (by omega)] at hJ4
      have cF := fromLow sb wr
      have pb4 : wr.cell? ⟨Bs, 0, none⟩ = some (.pointer (some ⟨sb, 0, none⟩)) := cell_of s4.pb rfl
      gi_wp2_with (refine ⟨trivial, ?_⟩; gi_at_call 23; refine (callsIn_wide.2 cF).mono ?_; rintro e w2 ⟨rfl, rfl⟩)
      have b2 : Below wr.heap.size wr (wr.alloc (.cells #[.pointer (some ⟨sb, 0, none⟩)] 77)) := (Below.refl _ wr).alloc (Nat.le_refl _) _
      have s5 := s4.kp (KpI.of_below b2 (Nat.le_refl _))
      have s6 : StR (wr.alloc (.cells #[.pointer (some ⟨sb, 0, none⟩)] 77)) wr.heap.size sb low rel mv kept mb (.slice ha held.length hcap) L held := ⟨alloc_new _ _, s5.blk, s5.live, s5.seg⟩
      have hJ6 : J held (wr.alloc (.cells #[.pointer (some ⟨sb, 0, none⟩)] 77)) := hJ.alloc _ hJ4
      have y6 : (wr.alloc (.cells #[.pointer (some ⟨sb, 0, none⟩)] 77)).heap[W.heap.size]? = some (.cells #[yv l] 89 (0, 0)) := (Below.heap_alloc _ _ _ (heap_lt y4)).trans y4
      have hsz6 : W.heap.size ≤ (wr.alloc (.cells #[.pointer (some ⟨sb, 0, none⟩)] 77)).heap.size := by simp; omega
      obtain ⟨B2, hB2⟩ : ∃ B2, wr.heap.size = B2 := ⟨_, rfl⟩
      rw [hB2] at s6
      generalize hW2 : wr.alloc (.cells #[.pointer (some ⟨sb, 0, none⟩)] 77) = W2 at *
      rw [hB2]
      clear s4 s5 y4 hJ4 b2 cF pb4
      have ownYv : OwnFrom W2.heap.size (fun (_ : List Rec) (V : World) => V.heap[W.heap.size]? = some (.cells #[yv l] 89 (0, 0))) := fun s V V' row hs hg hr => by
        refine (hg.block _ (heap_lt hs) (fun e => ?_)).trans hs
        obtain ⟨_, o, ho, hc⟩ := hr _ e.symm
        rw [hs] at ho
        cases ho
        cases hc
      have ownJ : OwnFrom W2.heap.size (fun (pre : List Rec) (V : World) => J (held ++ pre) V) := fun s V V' row hs hg hr => (ownFrom_le hJ hsz6) (held ++ s) V V' row hs hg hr
      refine wpIn_rangeFunc_ownH rfl h1 (gf := 31) (lb := #[.pointer (some ⟨B2, 0, none⟩)]) rfl trivial (enters_of Yba.func31 (by kernel_rfl) rfl)
        (fromLow1 (n - 1) (by omega) s6 ok) KpI.trans KpI.put (Below.refl _ _) (fun _ => rfl)
        (fun pre V => J (held ++ pre) V ∧ V.heap[W.heap.size]? = some (.cells #[yv l] 89 (0, 0)))
        (fun _ _ _ => False)
        (OwnFrom.and ownJ ownYv)
        (fun _ _ _ _ _ hs _ _ => hs)
        ⟨by rw [List.append_nil]; exact hJ6, y6⟩
        (fun x a' V => ∃ Bx, V.heap[Bx]? = some (.cells (rcl x).toArray 52 (0, 0)) ∧ a' = { tmps := #[.func (.yield l) #[] #[], .pointer (some ⟨Bs, 0, none⟩), .pointer (some ⟨W.heap.size, 0, none⟩), undef, u4, .int .u64 (x.slot : Int), .pointer (some ⟨Bx, 0, none⟩), .pointer (some ⟨sb, 0, none⟩), .pointer (some ⟨sb, 0, none⟩), .pointer (some ⟨sb, 6, none⟩), .slice ha held.length hcap, .int .i64 (held.length : Int), .int .i64 (j : Int), .bool false, u14, u15, u16, u17, u18, u19, u20, u21, u22, u23, .pointer (some ⟨sb, 0, none⟩), .func (.func 31) #[] #[.pointer (some ⟨B2, 0, none⟩)], .int .u64 (x.slot : Int), rcv x, undef, undef, undef, undef, undef], defers := [] })
        (fun x a' s V V' row hs hg hr => by
          obtain ⟨Bx, hb, ha'⟩ := hs
          refine ⟨Bx, (hg.block _ (heap_lt hb) (fun e => ?_)).trans hb, ha'⟩
          obtain ⟨_, o, ho, hc⟩ := hr _ e.symm
          rw [hb] at ho
          cases ho
          cases hc)
        ?assign ?body ?done ?stop
      case assign =>
        rintro l2 pre x V K ⟨hi1, hi2⟩ hK
        have E := fun a' V' => hK a' V'
        clear hK
        obtain ⟨slot, low', rel', log, ra', rl', rc'⟩ := x
        unfold encR2 rcv
        have bV : Below V.heap.size V (V.alloc (.cells #[.int .u64 (slot : Int), .int .u64 0, .int .u32 0, .int .u64 (low' : Int), .slice ra' rl' rc', .int .u64 (rel' : Int), .int .u64 (log : Int), .int .u64 0, .int .u32 0, .int .u64 0, .int .u32 0, .slice none 0 0] 52)) := (Below.refl _ V).alloc (Nat.le_refl _) _
        gi_wp2
        refine E _ _ ((KeepsOthers.alloc _ _).from _) (KpI.of_below bV (Nat.le_refl _)) ⟨ownJ.alloc (s := pre) _ hi1, ownYv.alloc (s := pre) _ hi2⟩ ⟨V.heap.size, alloc_new _ _, ?_⟩
        unfold rcv
        rfl
      case body =>
        rintro l2 pre x a' V hl2 _ ⟨hi1, hi2⟩ ⟨Bx, hbx, rfl⟩ hlt
        have yc : V.cell? ⟨W.heap.size, 0, none⟩ = some (.func (.yield l) #[] #[]) := cell_of hi2 rfl
        obtain ⟨fn, tmps, assign, body, hyy, hR⟩ := hY (n - 1 - 1 - 1) _ x _ hi1 (by rw [List.length_append]; omega)
        have HBX := hide hbx
        obtain ⟨slot, low', rel', log, ra', rl', rc'⟩ := x
        unfold rcl at hbx
        simp only at hbx
        have x0 : V.cell? ⟨Bx, 0, none⟩ = some (.int .u64 (slot : Int)) := cell_of hbx rfl
        have x1 : V.cell? ⟨Bx, 1, none⟩ = some (.int .u64 0) := cell_of hbx rfl
        have x2 : V.cell? ⟨Bx, 2, none⟩ = some (.int .u32 0) := cell_of hbx rfl
        have x3 : V.cell? ⟨Bx, 3, none⟩ = some (.int .u64 (low' : Int)) := cell_of hbx rfl
        have x4 : V.cell? ⟨Bx, 4, none⟩ = some (.slice ra' rl' rc') := cell_of hbx rfl
        have x5 : V.cell? ⟨Bx, 5, none⟩ = some (.int .u64 (rel' : Int)) := cell_of hbx rfl
        have x6 : V.cell? ⟨Bx, 6, none⟩ = some (.int .u64 (log : Int)) := cell_of hbx rfl
        have x7 : V.cell? ⟨Bx, 7, none⟩ = some (.int .u64 0) := cell_of hbx rfl
        have x8 : V.cell? ⟨Bx, 8, none⟩ = some (.int .u32 0) := cell_of hbx rfl
        have x9 : V.cell? ⟨Bx, 9, none⟩ = some (.int .u64 0) := cell_of hbx rfl
        have x10 : V.cell? ⟨Bx, 10, none⟩ = some (.int .u32 0) := cell_of hbx rfl
        have x11 : V.cell? ⟨Bx, 11, none⟩ = some (.slice none 0 0) := cell_of hbx rfl
        unfold encR2 rcv at hyy
        unfold rcv
        simp only at hyy
        clear hbx
        have h1' : 1 ≤ n - 1 - 1 := by omega
        gi_wp2
        refine RoundIn.mono (F := Fence.wide.inRound l2) hR ?_
        rintro e V3 ⟨rfl, hJ3, hk3⟩
        gi_wp2
        exact ⟨⟨hk3.from'.size, fun k o hB ho hc => hk3.from'.same k o (by omega) ho hc⟩, hk3.kp, by rw [← List.append_assoc]; exact hJ3, hk3.kp.cell _ _ _ hi2 (by decide) (by decide)⟩
      case done =>
        rintro D ys V hD hS ⟨hi1, hi2⟩ hK
        gi_wp2
        refine ⟨by simp, .inl ⟨_, _, rfl, run_takeDeferred hK, ?_⟩⟩
        exact ⟨_, results_none rfl _ _ _, ⟨_, rfl⟩, held ++ ys, by rw [hS], hJ.putObj (s := held ++ ys) _ hi1 (by omega) hK rfl⟩
      case stop =>
        rintro D c pre V _ _ h _
        exact h.elim

end Go.Proofs.Ybulkbcrm.model
