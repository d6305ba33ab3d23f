/-
  Seat b2686aD: the holders of an item appended to a row, with the frame of an append; the set of visited queues.
-/
import Derived.Test.YbulkbcpiDoorRPidx
namespace Go.Proofs.YbulkbcpiDoor.rel
open Go.RowKit

structure Hold (w : World) (v : Value) (w' : World) (v' : Value) : Prop where
  os : w'.os = w.os
  tape : w'.tape = w.tape
  output : w'.output = w.output
  size : w.heap.size ≤ w'.heap.size
  keep : ∀ k, k < w.heap.size → v.ownBlock ≠ some k → w'.heap[k]? = w.heap[k]?
  pos : ∀ g, v'.ownBlock = some g → v.ownBlock = some g ∨ w.heap.size ≤ g

theorem Hold.refl (w : World) (v : Value) : Hold w v w v := ⟨rfl, rfl, rfl, Nat.le_refl _, fun _ _ _ => rfl, fun _ e => .inl e⟩

theorem Hold.alloc {w w' : World} {v v' : Value} (h : Hold w v w' v') (o : Obj) : Hold w v (w'.alloc o) v' := by
  have := h.size
  refine ⟨h.os, h.tape, h.output, by simp; omega, fun k hk e => ?_, h.pos⟩
  rw [Below.heap_alloc _ _ _ (by omega)]
  exact h.keep k hk e

theorem Hold.grown {w w1 w2 : World} {v v1 v2 : Value} (h : Hold w v w1 v1) (hg : w1.grownBy w2 v1.ownBlock) (hp : ∀ g, v2.ownBlock = some g → v1.ownBlock = some g ∨ w1.heap.size ≤ g) : Hold w v w2 v2 := by
  have hs := h.size
  have hs2 := hg.size
  refine ⟨hg.os.trans h.os, hg.tape.trans h.tape, hg.output.trans h.output, by omega, fun k hk e => ?_, fun g e => ?_⟩
  · rw [hg.block k (by omega) (fun e2 => ?_), h.keep k hk e]
    rcases h.pos k e2.symm with e3 | e3
    · exact e e3
    · omega
  · rcases hp g e with e1 | e1
    · exact h.pos g e1
    · exact .inr (by omega)

theorem Ints.one2 {w : World} {v : Value} {zs : List Nat} (h : Ints w 0 v zs) (y : Nat) (hl : zs.length < 1000) {a : Act} {ops : Array Oper} {rest : List Oper} {o : Oper} {Q : Exit → Act → World → Prop} (hgd : o.guard = none) (s x : Operand)
    (ho : o.op = .call { callee := .builtin .append, args := #[s, x], argTypes := #[29, 29] }) (hs : a.eval s = v) {B : Nat} (hx : a.eval x = .slice (some ⟨B, 0, none⟩) 1 1) (hB : w.cell? ⟨B, 0, none⟩ = some (.int .i64 y))
    (hK : ∀ v' w', Ints w' 0 v' (zs ++ [y]) → w.grownBy w' v.ownBlock → (∀ g, v'.ownBlock = some g → v.ownBlock = some g ∨ w.heap.size ≤ g) → wpList Ybad.prog ops Q rest (a.put o.dst v') w') : wpList Ybad.prog ops Q (o :: rest) a w := by
  obtain ⟨ti, hi, hz0, hz1, hz2⟩ := info_parts Ybad.info3
  refine wpList_append_lies w hgd s x 29 ho 0 3 ti _ 1 8 Ybad.underlying29 hi hz0 hz1 hz2 rfl (by decide) v zs.length (zs.map iv) hs h ⟨B, 0, none⟩ 1 1 [.int .i64 y] hx rfl (fun j u hu => ?_) (by simp; rfl) (by omega) (by simp only [maxLen]; omega) (by omega) (Nat.zero_le _) _ rfl ?_
  · cases j with
    | zero => simp at hu; subst hu; rw [Addr.add_lit]; exact hB
    | succ j => simp at hu
  · intro g cap w' h1 h2 h3 _
    refine hK _ w' ?_ h2 (fun g' e => ?_)
    · unfold Ints
      rw [List.length_append, List.map_append]
      exact h1
    · simp [Value.ownBlock] at e
      subst e
      rcases h3 with h3 | h3
      · exact .inl h3
      · exact .inr (by omega)

def HoldR (w : World) (v : Value) (zs : List Nat) (v' : Value) (w' : World) : Prop := Ints w' 0 v' zs ∧ Hold w v w' v'

set_option maxRecDepth 50000 in
set_option maxHeartbeats 2000000 in
theorem holdersF {w : World} {b : Nat} {gv v : Value} {gr : List Req} {zs : List Nat} (hc : w.cell? ⟨b, 1, none⟩ = some gv) (hs : Seg w gv gr) (hz : Ints w 0 v zs) (hgb : ∀ g, gv.ownBlock = some g → v.ownBlock ≠ some g) (ex : Nat) (hl : zs.length + gr.length < 500) :
    Calls Ybad.prog 55 #[.pointer (some ⟨b, 0, none⟩), v, .int .i64 ex] w fun e w' => ∃ v', e = .returned v' ∧ HoldR w v (zs ++ hds gr ex) v' w' := by
  rcases hs with ⟨rfl, rfl⟩ | ⟨g, off, cap, cur, rfl, hg, hle, hcap, _, hcur⟩
  · have E : Aside (HoldR w v (zs ++ hds [] ex) v w) := ⟨by simpa [hds] using hz, Hold.refl _ _⟩
    clear hz
    go_enter Ybad.func55, Ybad.ntmps55
    go_wp2
    refine wp_loop_rounds 1 ?_
    rw [rounds_succ]
    go_wp2
    go_ret
    exact ⟨_, rfl, E.out⟩
  · have HG : Aside (w.heap[g]? = some (.cells cur 83 (0, 0)) ∧ ∀ j u, (rcs gr)[j]? = some u → cur[off + j]? = some u) := ⟨hg, hcur⟩
    have hgl := heap_lt hg
    have HV : Aside (v.ownBlock ≠ some g) := hgb g rfl
    have HZ : Aside (Ints w 0 v zs) := hz
    obtain ⟨n, hn⟩ : ∃ n, gr.length = n := ⟨_, rfl⟩
    rw [hn] at hc hle hl
    have HN : Aside (gr.length = n) := hn
    clear hg hcur hz hgb hn
    go_enter Ybad.func55, Ybad.ntmps55
    go_wp2
    go_loopw [14, 1] (fun i bv wr => ∃ (k : Nat) (v1 : Value), k ≤ n ∧ i = .int .i64 (k : Int) ∧ v1 = bv ∧ HoldR w v (zs ++ hds (gr.take k) ex) v1 wr) (fun i _ _ => n - (intOf i).toNat)
    case atStart => exact ⟨0, _, Nat.zero_le _, rfl, rfl, by simpa [hds] using HZ.out, Hold.refl _ _⟩
    case round =>
      obtain ⟨k, v1, hk, rfl, rfl, hint, hbel⟩ := hrel
      have hws : w.heap.size ≤ wr.heap.size := hbel.size
      by_cases hlt : k < n
      · obtain ⟨r, hr⟩ : ∃ r, gr[k]? = some r := ⟨_, List.getElem?_eq_getElem (by rw [HN.out]; exact hlt)⟩
        obtain ⟨c0, c1, c2, c3⟩ := seg_cells ((hbel.keep g hgl HV.out).trans HG.out.1) HG.out.2 hr
        have hgs : g < wr.heap.size := by omega
        have BE : Aside (Hold w v wr v1) := hbel
        have IN : Aside (Ints wr 0 v1 (zs ++ hds (gr.take k) ex)) := hint
        have STEP : Aside (hds (gr.take (k + 1)) ex = hds (gr.take k) ex ++ (if r.y = ex then [] else [r.y])) := hds_step hr
        have LEN : Aside ((zs ++ hds (gr.take k) ex).length < 1000) := by
          show (zs ++ hds (gr.take k) ex).length < 1000
          have := hds_len (gr.take k) ex
          rw [List.length_append]
          rw [List.length_take] at this
          omega
        obtain ⟨ry, rm, ru⟩ := r
        simp only at c0 c1 c2
        clear hbel hr hint hc
        by_cases hy : ry = ex
        · subst hy
          go_wp2
          go_roundw
          case rel => exact ⟨k + 1, _, by omega, by go_num, rfl, by rw [STEP.out]; simp only [if_true, List.append_nil]; exact IN.out.keep _ rfl, BE.out.alloc _⟩
          case measure => simp [intOf]; omega
        · have hyb : ((ry : Int) == (ex : Int)) = false := by rw [beq_eq_false_iff_ne]; omega
          have hyb2 : ((ry : Int) != (ex : Int)) = true := by rw [bne, hyb]; rfl
          go_wp2_with (at_builtin; refine ((IN.out.keep _ rfl).keep _ rfl).one2 ry LEN.out rfl (.tmp 22) (.tmp 25) rfl rfl (B := wr.heap.size + 1) rfl ?c1 ?_)
          intro v' w' hint' hgrow hpos
          have HI : Aside (HoldR w v (zs ++ hds (gr.take (k + 1)) ex) v' w') := by
            refine ⟨by rw [STEP.out, if_neg hy]; exact hint', ((BE.out.alloc _).alloc _).grown hgrow (by simpa using hpos)⟩
          clear hint' hgrow hpos
          go_wp2
          go_roundw
          case rel => exact ⟨k + 1, _, by omega, by go_num, rfl, HI.out⟩
          case measure => simp [intOf]; omega
      · have IN : Aside (HoldR w v (zs ++ hds gr ex) v1 wr) := by
          have h1 : gr.take k = gr := List.take_of_length_le (by rw [HN.out]; omega)
          rw [h1] at hint
          exact ⟨hint, hbel⟩
        clear hint hbel
        go_wp2
        go_ret
        exact ⟨_, rfl, IN.out⟩

/-! ### the visited queues -/

/-- Block g is the set of the queues at the blocks V. -/
def VM (w : World) (g : Nat) (V : List Nat) : Prop := ∃ es clock, w.heap[g]? = some (.map es clock) ∧ es.toList.map (fun e => (e.key, e.val)) = V.map (fun b => (qp b, Value.bool true))

theorem VM.same {w w' : World} {g : Nat} {V : List Nat} (h : VM w g V) (e : w'.heap[g]? = w.heap[g]?) : VM w' g V := by
  obtain ⟨es, c, h1, h2⟩ := h
  exact ⟨es, c, by rw [e]; exact h1, h2⟩

theorem VM.lt {w : World} {g : Nat} {V : List Nat} (h : VM w g V) : g < w.heap.size := by
  obtain ⟨es, c, h1, h2⟩ := h
  exact heap_lt h1

def msize (w : World) (g : Nat) : Nat := match w.heap[g]? with | some (.map es _) => es.size | _ => 0

theorem VM.size {w : World} {g : Nat} {V : List Nat} (h : VM w g V) : msize w g = V.length := by
  obtain ⟨es, c, h1, h2⟩ := h
  have := congrArg List.length h2
  simp at this
  simp [msize, h1, this]

theorem ptrEq2 {w : World} {b z : Nat} {cb cz : Array Value} (hb : w.heap[b]? = some (.cells cb 88 (0, 0))) (hz : w.heap[z]? = some (.cells cz 88 (0, 0))) :
    (Op.equal 64 (qp b) (qp z)).run Ybad.prog w = .ok (decide (b = z)) w := by
  cases hq : Ybad.prog.info? 88 with
  | none => have := Ybad.info88; rw [hq] at this; cases this
  | some j =>
    have hs : j.size ≠ 0 := by have := Ybad.info88; rw [hq] at this; simp at this; omega
    by_cases e : b = z
    · subst e
      have h : ∀ d : Nat, (Op.equalIn (d + 1) 64 (qp b) (qp b)).run Ybad.prog w = .ok true w := fun d => by
        simp [Op.equalIn, qp, run_underlying Ybad.underlying64, sizeOf, typeInfo, hq, run_sameAddr_same]
      simp [Op.equal, Op.maxDepth, h 9999]
    · have hne : (⟨b, 0, none⟩ : Addr) ≠ ⟨z, 0, none⟩ := by intro h; injection h with h; exact e h
      have h : ∀ d : Nat, (Op.equalIn (d + 1) 64 (qp b) (qp z)).run Ybad.prog w = .ok false w := fun d => by
        simp [Op.equalIn, qp, run_underlying Ybad.underlying64, sizeOf, typeInfo, hq, hs, run_sameAddr_other w hne hb hz]
      simp [Op.equal, Op.maxDepth, h 9999, e]

theorem find_run {w : World} {c : Nat} {cc : Array Value} (hc : w.heap[c]? = some (.cells cc 88 (0, 0))) : ∀ (es : List MapEntry) (V : List Nat) (i : Nat), es.map (fun e => (e.key, e.val)) = V.map (fun b => (qp b, Value.bool true)) → (∀ b ∈ V, ∃ cs, w.heap[b]? = some (.cells cs 88 (0, 0))) →
    (c ∈ V → ∃ j, (Instr.findAsking 64 (qp c) es i).run Ybad.prog w = .ok (some (j, .bool true)) w) ∧ (c ∉ V → (Instr.findAsking 64 (qp c) es i).run Ybad.prog w = .ok none w)
  | [], V, i, h, _ => by
    cases V with
    | nil => exact ⟨fun h => by simp at h, fun _ => by simp [Instr.findAsking]⟩
    | cons b V => simp at h
  | e :: es, V, i, h, hV => by
    cases V with
    | nil => simp at h
    | cons b V =>
      simp only [List.map_cons, List.cons.injEq, Prod.mk.injEq] at h
      obtain ⟨⟨h1, h2⟩, h3⟩ := h
      obtain ⟨cs, hb⟩ := hV b (by simp)
      have hE := ptrEq2 hc hb
      obtain ⟨k1, k2⟩ := find_run hc es V (i + 1) h3 (fun b hb => hV b (by simp [hb]))
      by_cases e1 : c = b
      · subst e1
        refine ⟨fun _ => ⟨i, ?_⟩, fun hn => absurd (List.mem_cons_self ..) hn⟩
        simp [Instr.findAsking, h1, hE, h2]
      · refine ⟨fun hm => ?_, fun hn => ?_⟩
        · obtain ⟨j, hj⟩ := k1 (by simpa [e1] using hm)
          exact ⟨j, by simp [Instr.findAsking, h1, hE, e1, hj]⟩
        · have := k2 (fun hm => hn (by simp [hm]))
          simp [Instr.findAsking, h1, hE, e1, this]

theorem findKey_run {w : World} {c : Nat} {cc : Array Value} (hc : w.heap[c]? = some (.cells cc 88 (0, 0))) {es : List MapEntry} {V : List Nat} (h : es.map (fun e => (e.key, e.val)) = V.map (fun b => (qp b, Value.bool true))) (hV : ∀ b ∈ V, ∃ cs, w.heap[b]? = some (.cells cs 88 (0, 0))) :
    (c ∈ V → ∃ j, (Instr.findKey 64 (qp c) es).run Ybad.prog w = .ok (some (j, .bool true)) w) ∧ (c ∉ V → (Instr.findKey 64 (qp c) es).run Ybad.prog w = .ok none w) := by
  obtain ⟨k1, k2⟩ := find_run hc es V 0 h hV
  cases es with
  | nil =>
    cases V with
    | nil => exact ⟨fun h => by simp at h, fun _ => by simp [Instr.findKey, run_underlying Ybad.underlying64, Instr.findNow]⟩
    | cons b V => simp at h
  | cons e es =>
    have hf : Instr.findNow (.pointer 88) (qp c) (e :: es) 0 = none := by simp [Instr.findNow, Instr.sameNow]
    refine ⟨fun hm => ?_, fun hn => ?_⟩
    · obtain ⟨j, hj⟩ := k1 hm
      exact ⟨j, by simp [Instr.findKey, run_underlying Ybad.underlying64, hf, hj]⟩
    · simp [Instr.findKey, run_underlying Ybad.underlying64, hf, k2 hn]

theorem checkKey_ptr (w : World) (em : Bool) (c : Nat) : (Instr.checkKey em 10000 64 (qp c)).run Ybad.prog w = .ok () w := by
  have : ∀ n, (Instr.checkKey em (n + 1) 64 (qp c)).run Ybad.prog w = .ok () w := fun n => by simp [Instr.checkKey, run_underlying Ybad.underlying64, qp]
  exact this 9999

theorem VM.look {w : World} {g c : Nat} {V : List Nat} (h : VM w g V) {cc : Array Value} (hc : w.heap[c]? = some (.cells cc 88 (0, 0))) (hV : ∀ b ∈ V, ∃ cs, w.heap[b]? = some (.cells cs 88 (0, 0))) :
    (Instr.lookup 117 (.map (some g)) (qp c) false).run Ybad.prog w = .ok (.bool (decide (c ∈ V))) w := by
  obtain ⟨es, clock, h1, h2⟩ := h
  obtain ⟨k1, k2⟩ := findKey_run hc h2 hV
  have hz : (zeroValue 4).run Ybad.prog w = .ok (.bool false) w := by kernel_rfl
  by_cases hm : c ∈ V
  · obtain ⟨j, hj⟩ := k1 hm
    simp [Instr.lookup, run_underlying Ybad.underlying117, MapKept.run_getObj_map h1, checkKey_ptr, hj, hm, Result.andThen]
  · simp [Instr.lookup, run_underlying Ybad.underlying117, MapKept.run_getObj_map h1, checkKey_ptr, k2 hm, hm, hz, Result.andThen]

theorem VM.put {w : World} {g c : Nat} {V : List Nat} (h : VM w g V) {cc : Array Value} (hc : w.heap[c]? = some (.cells cc 88 (0, 0))) (hV : ∀ b ∈ V, ∃ cs, w.heap[b]? = some (.cells cs 88 (0, 0))) (hm : c ∉ V) :
    ∃ w', (Instr.mapUpdate 117 (.map (some g)) (qp c) (.bool true)).run Ybad.prog w = .ok () w' ∧ VM w' g (V ++ [c]) ∧ w.mapTurned w' g := by
  obtain ⟨es, clock, h1, h2⟩ := h
  obtain ⟨_, k2⟩ := findKey_run hc h2 hV
  refine ⟨ChangeMaps.setBlock w g (.map (es.push ⟨qp c, .bool true, clock⟩) (clock + 1)), by simp [Instr.mapUpdate, run_underlying Ybad.underlying117, MapKept.run_getObj_map h1, checkKey_ptr, k2 hm, MapKept.run_setObj_map _ h1, Result.andThen, ChangeMaps.setBlock], ⟨_, _, ChangeMaps.heap_setBlock_same h1 _, ?_⟩, ⟨es, clock, _, _, h1, rfl⟩⟩
  simp [h2]

end Go.Proofs.YbulkbcpiDoor.rel
