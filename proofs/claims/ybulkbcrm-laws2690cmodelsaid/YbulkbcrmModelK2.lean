/-
  Seat b2690a: LawS2690CModel: the iterator FromLow.
-/
import Derived.Test.YbulkbcrmModelK1
import Derived.Test.YbulkbcrmModelN4
namespace Go.Proofs.Ybulkbcrm.model
open Go.RowKit Go.Shelf

attribute [local go_sem] Oper.semAt_some

/-- What a round keeps: maps and their walks, and cells that are neither the row of states nor the variable that holds it. -/
structure KpI (W W' : World) : Prop where
  size : W.heap.size ≤ W'.heap.size
  walk : ∀ (k : Nat) (o : Obj), W.heap[k]? = some o → o.isWalk = true → W'.heap[k]? = some o
  cell : ∀ (k : Nat) (cur : Array Value) (t : TypeId), W.heap[k]? = some (.cells cur t (0, 0)) → t ≠ 41 → t ≠ 52 → W'.heap[k]? = some (.cells cur t (0, 0))

theorem KpI.refl (W : World) : KpI W W := ⟨Nat.le_refl _, fun _ _ h _ => h, fun _ _ _ h _ _ => h⟩
theorem KpI.trans {A B C : World} (h : KpI A B) (k : KpI B C) : KpI A C :=
  ⟨Nat.le_trans h.size k.size, fun i o a b => k.walk i o (h.walk i o a b) b, fun i c t a b d => k.cell i c t (h.cell i c t a b d) b d⟩
theorem KpI.put {w : World} (W : World) (l : Nat) (o o' : Obj) (_ : w.heap.size ≤ l) (h : W.heap[l]? = some o) (hc : o.isCells = false) (hw : o.isWalk = false) : KpI W (W.putObj l o') := by
  refine ⟨by simp [World.putObj], fun k o2 h2 hw2 => ?_, fun k cur t h2 _ _ => ?_⟩
  · rw [World.putObj_heap_other (fun e => by subst e; rw [h] at h2; cases h2; rw [hw] at hw2; cases hw2)]
    exact h2
  · rw [World.putObj_heap_other (fun e => by subst e; rw [h] at h2; cases h2; cases hc)]
    exact h2

/-- A Standing that is only read. -/
structure StR (W : World) (Bs sb : Nat) (low rel : Nat) (mv : Value) (kept : Nat) (mb : Option Nat) (hv : Value) (L : Nat → Option Rec) (held : List Rec) : Prop where
  pb : PB W Bs sb
  blk : SB W sb low rel mv kept (.map mb) hv
  live : LV W (.map mb) L
  seg : Seg W hv held

theorem StR.kp {W W' : World} {Bs sb low rel : Nat} {mv : Value} {kept : Nat} {mb : Option Nat} {hv : Value} {L : Nat → Option Rec} {held : List Rec} (h : StR W Bs sb low rel mv kept mb hv L held) (k : KpI W W') : StR W' Bs sb low rel mv kept mb hv L held := by
  refine ⟨k.cell _ _ _ h.pb (by decide) (by decide), k.cell _ _ _ h.blk (by decide) (by decide), ?_, ?_⟩
  · rcases h.live with h1 | ⟨m, e, h1⟩
    · exact .inl h1
    · refine .inr ⟨m, e, ?_⟩
      obtain ⟨es, c, he⟩ := h1.isMap
      exact h1.same ((k.walk m _ he rfl).trans he.symm)
  · refine h.seg.same (fun g e => ?_)
    obtain ⟨cur, hc⟩ := h.seg.kind e
    exact (k.cell _ _ _ hc (by decide) (by decide)).trans hc.symm

theorem KpI.of_below {n : Nat} {W W' : World} (h : Below n W W') (hn : W.heap.size ≤ n) : KpI W W' := by
  have hk : ∀ (k : Nat) (o : Obj), W.heap[k]? = some o → W'.heap[k]? = some o := fun k o ho => (h.block k (Nat.lt_of_lt_of_le (heap_lt ho) hn)).trans ho
  exact ⟨h.size, fun k o ho _ => hk k o ho, fun k cur t ho _ _ => hk k _ ho⟩

theorem slots_map {L : Nat → Option Rec} (ok : Lok L) : ∀ (ys : List Nat), (∀ y ∈ ys, ∃ r, L y = some r) → (ys.filterMap L).map (·.slot) = ys
  | [], _ => rfl
  | y :: ys, h => by
    obtain ⟨r, hr⟩ := h y (by simp)
    rw [List.filterMap_cons_some hr, List.map_cons, slots_map ok ys (fun z hz => h z (by simp [hz])), (ok.slot y r hr).1]

theorem keys_all {L : Nat → Option Rec} (ok : Lok L) {ys : List Nat} (hk : KeysOf (lvf L) ys) (ha : ys.Pairwise (· < ·)) : ys.filterMap L = (List.range 16).filterMap L := by
  have hsome : ∀ y ∈ ys, ∃ r, L y = some r := fun y hy => by
    have := ((hk.2 y).1 hy).2
    cases hq : L y with
    | none => simp [lvf, hq] at this
    | some r => exact ⟨r, rfl⟩
  have hsl := slots_map ok ys hsome
  refine took_sorted ok (xs := ys.filterMap L) ⟨fun r => ?_, by rw [hsl]; exact hk.1⟩ (List.Perm.refl _) (fun i j a b hi hj hij => ?_)
  · rw [List.mem_filterMap]
    constructor
    · rintro ⟨i, h1, h2⟩
      exact ⟨i, ((hk.2 i).1 h1).1, h2⟩
    · rintro ⟨i, h1, h2⟩
      exact ⟨i, (hk.2 i).2 ⟨h1, by simp [lvf, h2]⟩, h2⟩
  · have e1 : ys[i]? = some a.slot := by rw [← hsl, List.getElem?_map, hi]; rfl
    have e2 : ys[j]? = some b.slot := by rw [← hsl, List.getElem?_map, hj]; rfl
    obtain ⟨i1, i2⟩ := List.getElem?_eq_some_iff.1 e1
    obtain ⟨j1, j2⟩ := List.getElem?_eq_some_iff.1 e2
    have := List.pairwise_iff_getElem.1 ha i j i1 j1 hij
    omega

def encR2 (r : Rec) : Array Value := #[.int .u64 (r.slot : Int), rcv r]

set_option maxRecDepth 100000 in
set_option maxHeartbeats 4000000 in
theorem fromLow1 (n : Nat) (hn : 1 ≤ n) {w : World} {Bs sb low rel : Nat} {mv : Value} {kept : Nat} {mb : Option Nat} {hv : Value} {L : Nat → Option Rec} {held : List Rec} (hst : StR w Bs sb low rel mv kept mb hv L held) (ok : Lok L) :
    SeqStopsK Fence.wide n Yba.prog 31 #[.pointer (some ⟨Bs, 0, none⟩)] encR2 KpI (fun xs => xs = (List.range 16).filterMap L) (fun _ => True) 16 w := fun l J Jx W hW hJ _ hY h0 => by
  have s0 : StR W Bs sb low rel mv kept mb hv L held := hst.kp (KpI.of_below hW (Nat.le_refl _))
  obtain ⟨W1, hW1⟩ : ∃ W1, W1 = W.alloc (.cells #[.map mb] 69) := ⟨_, rfl⟩
  have b1 : Below W.heap.size W W1 := by rw [hW1]; exact (Below.refl _ W).alloc (Nat.le_refl _) _
  have s1 := s0.kp (KpI.of_below b1 (Nat.le_refl _))
  have hbox : W1.cell? ⟨W.heap.size, 0, none⟩ = some (.map mb) := by rw [hW1]; exact cell_of (alloc_new _ _) rfl
  have hseq : SeqStopsK Fence.wide 4 Yba.prog 46 #[.pointer (some ⟨W.heap.size, 0, none⟩)] (fun x : Nat => #[Value.int .u64 (x : Int)]) KeepsWalks (KeysOf (lvf L)) (fun _ => True) 16 W1 := by
    rcases s1.live with ⟨e, h1⟩ | ⟨m, e, h1⟩
    · cases e
      exact keys1Nil 4 _ _ _ hbox (fun i => by simp [lvf, h1 i])
    · cases e
      exact keys1 4 (by decide) _ _ _ _ hbox h1
  have cK := keys mb W
  have cS := sorted W.heap.size (lvf L) W1 hseq
  rw [hW1] at cS
  have pb0 : W.cell? ⟨Bs, 0, none⟩ = some (.pointer (some ⟨sb, 0, none⟩)) := cell_of s0.pb rfl
  have c5 := s0.blk.c5
  have S0 := hide s0
  have HW1 := hide hW1
  have B1 := hide b1
  have CS := hide cS
  clear hseq hbox s1 s0 hW1 b1 cS hst
  refine callsIn_of_wp Yba.func31 rfl trivial ?_ rfl
  simp only [Yba.ntmps31, List.size_toArray, List.length_cons, List.length_nil, Nat.reduceAdd, Nat.reduceSub, Array.replicate_succ, Array.replicate_zero, List.push_toArray, List.append_toArray, List.nil_append, List.cons_append]
  gi_wp2_with (first | (refine ⟨trivial, ?_⟩; gi_at_call 33; refine (callsIn_wide.2 cK).mono ?_; rintro e w2 ⟨rfl, rfl⟩) | (refine ⟨trivial, ?_⟩; gi_at_call 32; refine (callsIn_wide.2 CS.out).mono ?_; rintro e w3 ⟨v, ys, rfl, hkeys, hasc, ⟨ra, rcap, rfl, hcells⟩, hbel⟩))
  have hb3 : Below W.heap.size W w3 := by
    have := B1.out
    rw [HW1.out] at this
    exact this.trans (hbel.mono (by simp))
  have s3 := S0.out.kp (KpI.of_below hb3 (Nat.le_refl _))
  have hJ3 : J [] w3 := hJ [] W w3 none h0 ⟨hb3.os, hb3.tape, hb3.output, hb3.size, fun k hk _ => hb3.block k hk⟩ (fun r e => by cases e)
  have hrow : KRow w3 (.slice ra ys.length rcap) ys := ⟨ra, rcap, rfl, hcells⟩
  have hm16 : ys.length ≤ 16 := hkeys.len
  have HROW := hide hrow
  have HKEYS := hide hkeys
  have HASC := hide hasc
  have S3 := hide s3
  have J3 := hide hJ3
  clear hrow hcells hkeys hasc s3 hJ3 hb3 hbel CS cK pb0 c5 HW1 B1
  gi_loopw [12] (fun s12 wr => ∃ j : Nat, s12 = .int .i64 (j : Int) ∧ j ≤ ys.length ∧ StR wr Bs sb low rel mv kept mb hv L held ∧ KRow wr (.slice ra ys.length rcap) ys ∧ J ((ys.take j).filterMap L) wr) (fun s12 _ => ys.length - (intOf s12).toNat)
  case atStart => exact ⟨0, rfl, Nat.zero_le _, S3.out, HROW.out, J3.out⟩
  case round =>
    obtain ⟨j, rfl, hjm, s4, hrow, hJ4⟩ := hrel
    by_cases hj : j < ys.length
    · have hjI : (j : Int) < (ys.length : Int) := by omega
      obtain ⟨y, hy⟩ : ∃ y, ys[j]? = some y := ⟨_, List.getElem?_eq_getElem hj⟩
      have hyk := (HKEYS.out.2 y).1 (List.mem_of_getElem? hy)
      obtain ⟨r, hr⟩ : ∃ r, L y = some r := by
        cases hq : L y with
        | none => simp [lvf, hq] at hyk
        | some r => exact ⟨r, rfl⟩
      obtain ⟨mm, e1, hpm⟩ : ∃ mm, mb = some mm ∧ PM wr 30 .u64 16 mm (lvf L) := by
        rcases s4.live with ⟨_, h1⟩ | ⟨mm, e, h1⟩
        · rw [h1 y] at hr; cases hr
        · cases e; exact ⟨mm, rfl, h1⟩
      subst e1
      obtain ⟨_, _, e2, hcells⟩ := hrow
      cases e2
      obtain ⟨g, cur, rfl, hg, hc⟩ := hcells j y hy
      have hcell := cell_of hg hc
      have LK := hpm.look keyed30 Yba.underlying69 (zero52 wr) hyk.1 (key30 hyk.1)
      have e3 : (lvf L y).getD (rcv zrec) = rcv r := by simp [lvf, hr]
      rw [e3] at LK
      have pb4 : wr.cell? ⟨Bs, 0, none⟩ = some (.pointer (some ⟨sb, 0, none⟩)) := cell_of s4.pb rfl
      have c5 := s4.blk.c5
      have hrs := (ok.slot y r hr).1
      have hlen : ((ys.take j).filterMap L).length < 16 := by
        have := List.length_filterMap_le L (ys.take j)
        rw [List.length_take] at this
        omega
      obtain ⟨fn, tmps, assign, body, hyy, hR⟩ := hY _ r wr hJ4 hlen
      unfold encR2 at hyy
      rw [hrs] at hyy
      have S4 := hide s4
      have HY := hide hy
      have HRR := hide hr
      have HROW4 := hide (show KRow wr (.slice (some ⟨g, 0, none⟩) ys.length rcap) ys from ⟨_, rcap, rfl, hcells⟩)
      obtain ⟨slot, low', rel', log, ra', rl', rc'⟩ := r
      unfold rcv at LK hyy
      simp only at LK hyy
      clear s4 hpm hg hc hcells e3 hyk hy hr
      gi_wp2
      refine hR.mono ?_
      rintro e W5 (⟨rfl, hJ5, hk5⟩ | ⟨rfl, hJx5⟩)
      · gi_wp2
        go_roundw
        case rel =>
          refine ⟨j + 1, by go_num, by omega, S4.out.kp hk5, HROW4.out.same (fun g' cur' h => hk5.cell _ _ _ h (by decide) (by decide)), ?_⟩
          rw [List.take_add_one, HY.out, List.filterMap_append]
          have e : List.filterMap L (some y).toList = [⟨slot, low', rel', log, ra', rl', rc'⟩] := by
            simp [HRR.out]
          rw [e]
          exact hJ5
        case measure => simp [intOf]; omega
      · gi_wp2
        refine bodyPost_ret (results_none rfl _ _ _) rfl ?_
        exact ⟨⟨_, rfl⟩, .inr ⟨_, trivial, hJx5⟩⟩
    · have hjE : ¬ (j : Int) < (ys.length : Int) := by omega
      gi_wp2
      go_end0
      rw [List.take_of_length_le (by omega), keys_all ok HKEYS.out HASC.out] at hJ4
      exact ⟨⟨_, rfl⟩, .inl hJ4⟩

set_option maxRecDepth 100000 in
set_option maxHeartbeats 1000000 in
theorem fromLow (sb : Nat) (w : World) : Calls Yba.prog 23 #[.pointer (some ⟨sb, 0, none⟩)] w fun e w' => e = .returned (.func (.func 31) #[] #[.pointer (some ⟨w.heap.size, 0, none⟩)]) ∧ w' = w.alloc (.cells #[.pointer (some ⟨sb, 0, none⟩)] 77) := by
  have hmf : ∀ (fn : Fn) (first cap : Array Value) (w : World), (Instr.makeFunc fn first cap).run Yba.prog w = .ok (.func fn first cap) w := fun _ _ _ _ => rfl
  go_enter Yba.func23, Yba.ntmps23
  go_wp2_with fail
  go_ret
  exact ⟨rfl, rfl⟩

set_option maxRecDepth 100000 in
set_option maxHeartbeats 1000000 in
theorem all (sb : Nat) (w : World) : Calls Yba.prog 12 #[.pointer (some ⟨sb, 0, none⟩)] w fun e w' => e = .returned (.func (.func 22) #[] #[.pointer (some ⟨w.heap.size, 0, none⟩)]) ∧ w' = w.alloc (.cells #[.pointer (some ⟨sb, 0, none⟩)] 77) := by
  have hmf : ∀ (fn : Fn) (first cap : Array Value) (w : World), (Instr.makeFunc fn first cap).run Yba.prog w = .ok (.func fn first cap) w := fun _ _ _ _ => rfl
  go_enter Yba.func12, Yba.ntmps12
  go_wp2_with fail
  go_ret
  exact ⟨rfl, rfl⟩

end Go.Proofs.Ybulkbcrm.model
