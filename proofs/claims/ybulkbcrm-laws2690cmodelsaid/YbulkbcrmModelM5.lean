/-
  Seat b2690a: LawS2690CModel: the row of held slots grows (Add's closure); it is cleared in front.
-/
import Derived.Test.YbulkbcrmModelM4
import Derived.Laws.EntriesVeiled
namespace Go.Proofs.Ybulkbcrm.model
open Go.RowKit

/-! ### cells set one by one, in a block that is known whole -/

def over (cur : Array Value) (o : Nat) : List Value → Array Value
  | [] => cur
  | v :: r => over (cur.setIfInBounds o v) (o + 1) r

theorem over_size : ∀ (vs : List Value) (o : Nat) (cur : Array Value), (over cur o vs).size = cur.size
  | [], _, _ => rfl
  | v :: r, o, cur => by rw [over, over_size r]; simp

theorem over_get : ∀ (vs : List Value) (o : Nat) (cur : Array Value) (j : Nat), o + vs.length ≤ cur.size → (over cur o vs)[j]? = if o ≤ j ∧ j < o + vs.length then vs[j - o]? else cur[j]?
  | [], o, cur, j, _ => by simp only [over]; rw [if_neg (by simp)]
  | v :: r, o, cur, j, h => by
    simp only [List.length_cons] at h
    rw [over, over_get r (o + 1) _ j (by simp; omega)]
    by_cases h1 : o + 1 ≤ j ∧ j < o + 1 + r.length
    · rw [if_pos h1, if_pos (by simp; omega), show j - o = (j - (o + 1)) + 1 by omega]
      rfl
    · rw [if_neg h1]
      by_cases h2 : j = o
      · subst h2
        rw [if_pos (by simp)]
        rw [Nat.sub_self, Array.getElem?_setIfInBounds_self_of_lt (by omega)]
        rfl
      · rw [if_neg (by simp; omega), Array.getElem?_setIfInBounds_ne (by omega)]

theorem heap_setCells_same {b : Nat} {e : TypeId} {fz : Nat × Nat} : ∀ (vs : List Value) (o : Nat) (w : World) (cur : Array Value), w.heap[b]? = some (.cells cur e fz) → (w.setCells b o vs).heap[b]? = some (.cells (over cur o vs) e fz)
  | [], _, _, _, h => h
  | v :: r, o, _, _, h => heap_setCells_same r (o + 1) _ _ (hset_same h o v)

theorem heap_setCells_ne {b k : Nat} (hk : b ≠ k) : ∀ (vs : List Value) (o : Nat) (w : World), (w.setCells b o vs).heap[k]? = w.heap[k]?
  | [], _, _ => rfl
  | v :: r, o, w => (heap_setCells_ne hk r (o + 1) _).trans (hset_other w ⟨b, o, none⟩ v hk)

theorem size_setCells {b : Nat} : ∀ (vs : List Value) (o : Nat) (w : World), (w.setCells b o vs).heap.size = w.heap.size
  | [], _, _ => rfl
  | v :: r, o, w => (size_setCells r (o + 1) _).trans (by simp)

theorem env_setCells {b : Nat} : ∀ (vs : List Value) (o : Nat) (w : World), (w.setCells b o vs).os = w.os ∧ (w.setCells b o vs).tape = w.tape ∧ (w.setCells b o vs).output = w.output
  | [], _, _ => ⟨rfl, rfl, rfl⟩
  | v :: r, o, w => env_setCells r (o + 1) (w.setCell ⟨b, o, none⟩ v)

theorem grown_setCells (w : World) (b o : Nat) (vs : List Value) : w.grownBy (w.setCells b o vs) (some b) :=
  ⟨(env_setCells vs o w).1, (env_setCells vs o w).2.1, (env_setCells vs o w).2.2, by rw [size_setCells]; exact Nat.le_refl _, fun k _ hk => heap_setCells_ne (fun e => hk (by rw [e])) vs o w⟩

/-! ### an append onto the row -/

theorem addr_add (g off j : Nat) : (⟨g, off, none⟩ : Addr).add j = ⟨g, off + j, none⟩ := by
  unfold Addr.add
  split
  · rename_i h
    simp
  · rfl

/-- At a step of a region that draws its order: an append whose run is known. -/
theorem step_append_run {P : Program} {w : World} {ops : Array Oper} {o : Oper} {a : Act} {K : Act → World → Prop} {Q : Exit → Act → World → Prop} {E : Prop} (hgd : o.guard = none) (s x : Operand) (t : TypeId)
    (ho : o.op = .call { callee := .builtin .append, args := #[s, x], argTypes := #[t, t] }) (v xv v' : Value) (w' : World) (hs : a.eval s = v) (hx : a.eval x = xv)
    (hr : (Builtin.append_ #[t, t] o.type #[v, xv]).run P w = .ok v' w') (h : K (a.put o.dst v') w') :
    if Region.wanted o (yielded ops a.tmps) = true then Oper.wp P o a w K Q else E := by
  have hw : Region.wanted o (yielded ops a.tmps) = true := by simp [Region.wanted, hgd]
  rw [if_pos hw]
  unfold Oper.wp execOp
  simp only [ho, resolve, invoke, builtin, Sem.run_bind, Sem.run_pure, Result.andThen_ok, List.map_toArray, List.map_cons, List.map_nil, hs, hx, hr]
  exact h

theorem wpList_append_run {P : Program} {w : World} {ops : Array Oper} {rest : List Oper} {o : Oper} {a : Act} {Q : Exit → Act → World → Prop} (hgd : o.guard = none) (s x : Operand) (t : TypeId)
    (ho : o.op = .call { callee := .builtin .append, args := #[s, x], argTypes := #[t, t] }) (v xv v' : Value) (w' : World) (hs : a.eval s = v) (hx : a.eval x = xv)
    (hr : (Builtin.append_ #[t, t] o.type #[v, xv]).run P w = .ok v' w') (h : wpList P ops Q rest (a.put o.dst v') w') : wpList P ops Q (o :: rest) a w := by
  refine wpList_plain hgd fun _ hK => ?_
  unfold Oper.wp execOp
  simp only [ho, resolve, invoke, builtin, Sem.run_bind, Sem.run_pure, Result.andThen_ok, List.map_toArray, List.map_cons, List.map_nil, hs, hx, hr]
  exact hK _ _ h


theorem hcl_one {r : Rec} : ∀ u ∈ hcl r, u.oneCell' = true := by
  intro u hu
  simp only [hcl, rcl, List.mem_cons, List.not_mem_nil, or_false] at hu
  rcases hu with rfl | rfl | rfl | rfl | rfl | rfl | rfl | rfl | rfl | rfl | rfl | rfl | rfl <;> rfl

theorem Seg.of_own {w : World} {base : Nat} {v : Value} {l : List Rec} (h : w.ownsRow base 80 13 v l.length (hcs l)) : Seg w v l ∧ ∀ g, v.ownBlock = some g → base ≤ g := by
  rcases h.2 with ⟨rfl, h0⟩ | ⟨g, cap, cur, rfl, h1, h2, h3, h4, h5, h6⟩
  · exact ⟨.inl ⟨rfl, List.length_eq_zero_iff.1 h0⟩, fun g hg => by cases hg⟩
  · refine ⟨.inr ⟨g, 0, cap, cur, rfl, h2, h3, h4, by omega, fun j u hu => ?_⟩, fun g' hg => by simp [Value.ownBlock] at hg; omega⟩
    rw [← h6, List.getElem?_take] at hu
    split at hu
    · simpa using hu
    · cases hu

theorem Seg.append {w : World} {v : Value} {l : List Rec} (h : Seg w v l) (r : Rec) (ad : Addr) (hnews : ∀ j u, (hcl r)[j]? = some u → w.cell? (ad.add j) = some u) (hn : l.length ≤ 100) (ty : TypeId) :
    ∃ v' w', (Builtin.append_ #[70, 70] ty #[v, .slice (some ad) 1 1]).run Yba.prog w = .ok v' w' ∧ Seg w' v' (l ++ [r]) ∧ w.grownBy w' v.ownBlock ∧ (v'.ownBlock = v.ownBlock ∨ ∀ g, v'.ownBlock = some g → w.heap.size ≤ g) := by
  obtain ⟨ti, hti, hz, hsz, hby⟩ : ∃ i, Yba.prog.info? 80 = some i ∧ i.zero = some (.agg #[.int .u64 0, .int .u64 0, .int .u64 0, .int .u32 0, .int .u64 0, .slice none 0 0, .int .u64 0, .int .u64 0, .int .u64 0, .int .u32 0, .int .u64 0, .int .u32 0, .slice none 0 0]) ∧ i.size = 13 ∧ i.bytes = 136 := by
    have e := Yba.info80
    cases hi : Yba.prog.info? 80 with
    | none => rw [hi] at e; cases e
    | some i => rw [hi] at e; simp at e; exact ⟨i, rfl, e.1, e.2.1, e.2.2⟩
  have e13 : (hcl r).length = 1 * 13 := rfl
  have hlen : l.length + 1 = (l ++ [r]).length := by simp
  have hcat : hcs l ++ hcl r = hcs (l ++ [r]) := by rw [hcs_append]; simp [hcs]
  rcases h with ⟨rfl, rfl⟩ | ⟨g, off, cap, cur, rfl, hg, hlc, hcm, hsize, hcells⟩
  · obtain ⟨v', w', hrun, hown, hgr, _, hat⟩ := run_append_own_at (P := Yba.prog) w w.heap.size 70 ty 80 ti _ 13 136 Yba.underlying70 hti hz hsz hby rfl (by decide) (.slice none 0 0) 0 [] ⟨by simp, .inl ⟨rfl, rfl⟩⟩ ad 1 1 (hcl r) e13 hnews hcl_one (by decide) (by decide) (Nat.le_refl _)
    have hs := Seg.of_own (l := [r]) (by simpa [hcs] using hown)
    exact ⟨v', w', hrun, hs.1, hgr, .inr hs.2⟩
  · by_cases hroom : l.length + 1 ≤ cap
    · have hrun := run_append_room_cells (P := Yba.prog) w 70 ty 80 ti Yba.underlying70 hti g off l.length cap ad 1 1 (hcl r) (by rw [hsz]; rfl) hnews hcl_one hroom
        (fun j hj => by
          rw [hsz]
          rw [hcl_length] at hj
          rw [cell_of (v := cur[off + l.length * 13 + j]'(by omega)) hg (Array.getElem?_eq_getElem _)]
          rfl)
        (fun j hj => by simp [World.frozen?, hg])
      rw [hsz] at hrun
      refine ⟨_, _, hrun, .inr ⟨g, off, cap, _, by simp, heap_setCells_same _ _ w cur hg, by simp; omega, hcm, by rw [over_size]; exact hsize, fun j u hu => ?_⟩, grown_setCells _ _ _ _, .inl rfl⟩
      rw [over_get _ _ _ _ (by rw [hcl_length]; omega), hcl_length]
      rw [← hcat] at hu
      by_cases hj : j < l.length * 13
      · rw [if_neg (by omega)]
        rw [List.getElem?_append_left (by rw [hcs_length]; exact hj)] at hu
        exact hcells j u hu
      · rw [List.getElem?_append_right (by rw [hcs_length]; omega), hcs_length] at hu
        have hj2 := (List.getElem?_eq_some_iff.1 hu).1
        rw [hcl_length] at hj2
        rw [if_pos (by omega), show off + j - (off + l.length * 13) = j - l.length * 13 by omega]
        exact hu
    · obtain ⟨v', w', hrun, hown, hgr⟩ := run_append_arg_grows (P := Yba.prog) w 70 ty 80 ti _ 13 136 Yba.underlying70 hti hz hsz hby rfl (by decide) ⟨g, off, none⟩ l.length cap (hcs l) (hcs_length l) (fun j u hu => by rw [addr_add]; exact cell_of hg (hcells j u hu)) ad 1 1 (hcl r) e13 hnews (by omega) (by simp only [maxLen]; omega) (by omega)
      have hs := Seg.of_own (l := l ++ [r]) (by rw [hcat, hlen] at hown; exact hown)
      exact ⟨v', w', hrun, hs.1, ⟨hgr.os, hgr.tape, hgr.output, hgr.size, fun k hk _ => hgr.block k hk (by simp)⟩, .inr hs.2⟩

/-! ### Add's closure -/

def PB (w : World) (pb sb : Nat) : Prop := w.heap[pb]? = some (.cells #[.pointer (some ⟨sb, 0, none⟩)] 77 (0, 0))
theorem PB.fr {S : Nat → Prop} {w w' : World} {pb sb : Nat} (h : PB w pb sb) (f : Fr S w w') (hs : ¬ S pb) : PB w' pb sb := (f.keep pb (heap_lt h) hs).trans h

theorem seg_ne {w : World} {sb low rel : Nat} {mv : Value} {kept : Nat} {lv hv v : Value} {l : List Rec} (h : SB w sb low rel mv kept lv hv) (hg : Seg w v l) : v.ownBlock ≠ some sb := fun e => by
  obtain ⟨cur, hc⟩ := hg.kind e
  have := h
  unfold SB at this
  rw [hc] at this
  cases this

theorem seg_ne_pb {w : World} {pb sb : Nat} {v : Value} {l : List Rec} (h : PB w pb sb) (hg : Seg w v l) : v.ownBlock ≠ some pb := fun e => by
  obtain ⟨cur, hc⟩ := hg.kind e
  have := h
  unfold PB at this
  rw [hc] at this
  cases this

set_option maxRecDepth 100000 in
set_option maxHeartbeats 2000000 in
theorem add1 {w : World} {sb pb low rel : Nat} {mv : Value} {kept : Nat} {lv hv : Value} {l : List Rec} (r : Rec) (hp : PB w pb sb) (hs : SB w sb low rel mv kept lv hv) (hg : Seg w hv l) (hn : l.length ≤ 100) :
    Calls Yba.prog 14 #[.int .u64 (r.slot : Int), rcv r, .pointer (some ⟨pb, 0, none⟩)] w fun e w' => e = .returned (.tuple #[]) ∧
      ∃ hv', SB w' sb low rel mv kept lv hv' ∧ Seg w' hv' (l ++ [r]) ∧ Fr (fun k => k = sb ∨ hv.ownBlock = some k) w w' ∧ (hv'.ownBlock = hv.ownBlock ∨ ∀ g, hv'.ownBlock = some g → w.heap.size ≤ g) := by
  have c6 := hs.c6
  have hpc : w.cell? ⟨pb, 0, none⟩ = some (.pointer (some ⟨sb, 0, none⟩)) := cell_of hp rfl
  have hsl := hs.lt
  have hpl := heap_lt hp
  obtain ⟨W, hW⟩ : ∃ W, W = ((w.alloc (.cells (rcl r).toArray 52)).alloc (.cells (hcl r).toArray 80)).drew := ⟨_, rfl⟩
  have F0 : Fr (fun _ => False) w W := by rw [hW]; exact (((Fr.refl _ w).alloc _).alloc _).drew
  have hWs : W.heap.size = w.heap.size + 2 := by rw [hW]; simp
  have hnews : ∀ j u, (hcl r)[j]? = some u → W.cell? ((⟨w.heap.size + 1, 0, none⟩ : Addr).add j) = some u := by
    have e := alloc_new (w.alloc (.cells (rcl r).toArray 52)) (.cells (hcl r).toArray 80)
    simp only [World.size_alloc] at e
    intro j u hu
    rw [addr_add, Nat.zero_add, hW]
    exact cell_of (w := ((w.alloc (.cells (rcl r).toArray 52)).alloc (.cells (hcl r).toArray 80)).drew) e (by simpa using hu)
  obtain ⟨hv', w', hrun, hseg, hgr, hat⟩ := (hg.fr F0 (fun _ _ h => h)).append r ⟨w.heap.size + 1, 0, none⟩ hnews hn 70
  obtain ⟨va, vc, rfl⟩ : ∃ a c, hv' = .slice a (l ++ [r]).length c := by obtain ⟨a, c, e, _⟩ := hseg.form; exact ⟨a, c, e⟩
  have hSB' : SB w' sb low rel mv kept lv hv := hs.same ((hgr.block sb (by omega) (fun e => seg_ne hs hg e.symm)).trans (F0.keep sb hsl (fun h => h)))
  have hPB' : PB w' pb sb := ((hgr.block pb (by omega) (fun e => seg_ne_pb hp hg e.symm)).trans (F0.keep pb hpl (fun h => h))).trans hp
  have c6' := hSB'.c6
  have f6' := hSB'.fz 6
  have p0' : w'.cell? ⟨pb, 0, none⟩ = some (.pointer (some ⟨sb, 0, none⟩)) := cell_of hPB' rfl
  have END := hide (show (∃ hv'', SB (w'.setCell ⟨sb, 6, none⟩ (.slice va (l ++ [r]).length vc)) sb low rel mv kept lv hv'' ∧ Seg (w'.setCell ⟨sb, 6, none⟩ (.slice va (l ++ [r]).length vc)) hv'' (l ++ [r]) ∧ Fr (fun k => k = sb ∨ hv.ownBlock = some k) w (w'.setCell ⟨sb, 6, none⟩ (.slice va (l ++ [r]).length vc)) ∧ (hv''.ownBlock = hv.ownBlock ∨ ∀ g, hv''.ownBlock = some g → w.heap.size ≤ g)) by
    refine ⟨_, hSB'.set6 _, hseg.same (fun g e => hset_other _ _ _ (fun e2 => seg_ne hSB' hseg (by rw [e, ← e2]))), ?_, ?_⟩
    · refine Fr.setCell (((F0.mono (T := fun k => k = sb ∨ hv.ownBlock = some k) (fun k h => h.elim)).grown hgr (fun k e => .inl (.inr e)))) (.inl (.inl rfl)) _ _
    · rcases hat with h | h
      · exact .inl h
      · exact .inr (fun g e => by have := h g e; omega))
  obtain ⟨m, hm⟩ : ∃ m, (l ++ [r]).length = m := ⟨_, rfl⟩
  rw [hm] at END hrun
  clear hm
  obtain ⟨slot, low', rel', log, ra, rl, rc⟩ := r
  have HS := hide hs
  unfold rcl hcl rcl at hW
  simp only at hW
  unfold rcv
  have hW2 := hide hW
  clear hs hp hg F0 hWs hnews hseg hgr hat hSB' hPB' hW
  go_enter Yba.func14, Yba.ntmps14
  go_wp2_with fail
  rw [hW2.out] at hrun
  have HRUN := hide hrun
  clear hrun
  go_region_law (refine step_append_run rfl (.tmp 9) (.tmp 13) 70 rfl _ _ _ _ (by simp [Act.eval]) (by simp [Act.eval]) HRUN.out ?_)
  all_goals (go_wp2_with fail; go_end0; exact ⟨rfl, END.out⟩)

end Go.Proofs.Ybulkbcrm.model
