/-
  Seat b2690a: LawS2690CModel: Add.
-/
import Derived.Test.YbulkbcrmModelN3
import Derived.Deep.RegionHeld3
namespace Go.Proofs.Ybulkbcrm.model
open Go.RowKit

/-- The Standing between two calls. -/
def Rep (B : Nat) (w : World) (sb : Nat) (st : PSt) : Prop := ∃ mv lv hv, StW B w.heap.size w sb st mv lv hv w

theorem StW.lt (B N : Nat) (W0 : World) (sb : Nat) (st : PSt) (mv lv hv : Value) (wx : World) (h : StW B N W0 sb st mv lv hv wx) : sb < wx.heap.size ∧ (∀ m, mv = .map (some m) → m < wx.heap.size) ∧ (∀ m, lv = .map (some m) → m < wx.heap.size) ∧ ∀ k, hv.ownBlock = some k → k < wx.heap.size :=
  ⟨h.blk.lt, fun m e => by obtain ⟨_, _, he⟩ := h.mne e; exact heap_lt he, fun m e => by obtain ⟨_, _, he⟩ := h.lne e; exact heap_lt he, fun k e => h.seg.lt e⟩

/-- The picture with a later world as its base. -/
theorem StW.rebase {B N : Nat} {W0 : World} {sb : Nat} {st : PSt} {mv lv hv : Value} {wx : World} (h : StW B N W0 sb st mv lv hv wx) (hB : B ≤ W0.heap.size) : StW B wx.heap.size wx sb st mv lv hv wx := by
  obtain ⟨a1, a2, a3, a4⟩ := StW.lt _ _ _ _ _ _ _ _ _ h
  have k : ∀ k, Own B N W0.heap.size k → k < wx.heap.size → Own B wx.heap.size wx.heap.size k := fun k h1 h2 => by
    rcases h1 with h1 | h1
    · exact .inl ⟨h1.1, h2⟩
    · exact .inl ⟨by omega, h2⟩
  exact ⟨h.blk, h.mm, h.live, h.seg, h.ne, k _ h.osb a1, fun m e => k _ (h.om m e) (a2 m e), fun m e => k _ (h.ol m e) (a3 m e), fun m e => k _ (h.oh m e) (a4 m e), Fr.refl _ _⟩

theorem StW.base {B : Nat} {w W0 : World} {sb : Nat} {st : PSt} {mv lv hv : Value} (h : StW B w.heap.size w sb st mv lv hv w) (f : Fr (fun _ => False) w W0) : StW B w.heap.size W0 sb st mv lv hv W0 := by
  obtain ⟨a1, a2, a3, a4⟩ := StW.lt _ _ _ _ _ _ _ _ _ h
  have k : ∀ k, Own B w.heap.size w.heap.size k → k < w.heap.size → Own B w.heap.size W0.heap.size k := fun k h1 h2 => by
    rcases h1 with h1 | h1
    · exact .inl h1
    · omega
  have q := h.quiet f
  exact ⟨q.blk, q.mm, q.live, q.seg, q.ne, k _ h.osb a1, fun m e => k _ (h.om m e) (a2 m e), fun m e => k _ (h.ol m e) (a3 m e), fun m e => k _ (h.oh m e) (a4 m e), Fr.refl _ _⟩

theorem StW.box {B N : Nat} {W0 : World} {sb : Nat} {st : PSt} {mv lv hv : Value} {wx : World} (h : StW B N W0 sb st mv lv hv wx) {b j : Nat} {v : Value} (hb : N ≤ b) (hc : W0.cell? ⟨b, j, none⟩ = some v) : wx.cell? ⟨b, j, none⟩ = some v := by
  rw [h.fr.cell (a := ⟨b, j, none⟩) (cell_lt hc) (fun e => by have := e.2; simp only at this; omega)]
  exact hc

theorem StW.pb {B N : Nat} {W0 : World} {sb : Nat} {st : PSt} {mv lv hv : Value} {wx : World} (h : StW B N W0 sb st mv lv hv wx) (hp : PB W0 N sb) : PB wx N sb := hp.fr h.fr (fun e => by have := e.2; omega)

/-- Behind the sort. -/
theorem StW.tail {B N : Nat} {W0 : World} {sb : Nat} {st : PSt} {mv lv hv : Value} {wx : World} {l xs : List Rec} (h : StW B N W0 sb { st with held := l ++ xs } mv lv hv wx) (hn : (l ++ xs).length ≤ 100) :
    (hv = .slice none 0 0 ∧ l = [] ∧ xs = []) ∨ ∃ g off cap, hv = .slice (some ⟨g, off, none⟩) (l ++ xs).length cap ∧ (l ++ xs).length ≤ cap ∧ cap ≤ maxLen ∧
      Calls Yba.prog 15 #[.slice (some ⟨g, off + l.length * 13, none⟩) ((l ++ xs).length - l.length) (cap - l.length), .func (Fn.func 16) #[] #[]] wx fun e w' => e = .returned (.tuple #[]) ∧
        ∃ ys : List Rec, ys.Perm xs ∧ (∀ (i j : Nat) (a b : Rec), ys[i]? = some a → ys[j]? = some b → i < j → a.slot ≤ b.slot) ∧ StW B N W0 sb { st with held := l ++ ys } mv lv hv w' := by
  rcases h.seg with ⟨e, e2⟩ | ⟨g, off, cap, cur, e, hg, h1, h2, h3, h4⟩
  · left
    have e3 : l ++ xs = [] := e2
    exact ⟨e, (List.append_eq_nil_iff.1 e3).1, (List.append_eq_nil_iff.1 e3).2⟩
  · right
    refine ⟨g, off, cap, e, h1, h2, ?_⟩
    have c := sortHeld (w := wx) (g := g) (off := off + l.length * 13) (cap - l.length) (xs := xs) hg (fun j u hu => by
      rw [Nat.add_assoc]
      refine h4 _ u ?_
      rw [hcs_append, List.getElem?_append_right (by rw [hcs_length]; omega), hcs_length, show l.length * 13 + j - l.length * 13 = j by omega]
      exact hu) (by rw [List.length_append] at hn; omega)
    rw [show (l ++ xs).length - l.length = xs.length by simp]
    refine c.mono ?_
    rintro e1 w' ⟨rfl, ys, a1, a2, a3, cur', a4, a5, a6, a7⟩
    exact ⟨rfl, ys, a1, a2, h.sorted e h4 ⟨h1, h2, h3⟩ a1.length_eq a3 a4 a5 a6 a7⟩

/-- Behind 'clear': the row is to be set anew. -/
structure Cl (B N : Nat) (W0 : World) (sb : Nat) (st : PSt) (mv lv hv : Value) (l' : List Rec) (hv' : Value) (wx : World) : Prop where
  blk : SB wx sb st.low st.rel mv st.kept lv hv
  mm : MM wx mv st.g
  live : LV wx lv st.L
  seg : Seg wx hv' l'
  ne : ∀ m, mv = .map (some m) → lv ≠ .map (some m)
  osb : Own B N W0.heap.size sb
  om : ∀ m, mv = .map (some m) → Own B N W0.heap.size m
  ol : ∀ m, lv = .map (some m) → Own B N W0.heap.size m
  oh : ∀ k, hv'.ownBlock = some k → Own B N W0.heap.size k
  fr : Fr (fun k => B ≤ k ∧ k < N) W0 wx

theorem Cl.set {B N : Nat} {W0 : World} {sb : Nat} {st : PSt} {mv lv hv : Value} {l' : List Rec} {hv' : Value} {wx : World} (h : Cl B N W0 sb st mv lv hv l' hv' wx) : StW B N W0 sb { st with held := l' } mv lv hv' (wx.drew.setCell ⟨sb, 6, none⟩ hv') := by
  have f : Fr (fun k => k = sb) wx (wx.drew.setCell ⟨sb, 6, none⟩ hv') := (Fr.refl (fun k => k = sb) wx).drew.setCell (.inl rfl) _ _
  have msb : ∀ m, mv = .map (some m) → m ≠ sb := by
    rintro m e rfl
    rcases h.mm with ⟨e1, _⟩ | ⟨m', e1, hp⟩
    · rw [e] at e1; cases e1
    · rw [e] at e1
      cases e1
      obtain ⟨es, c, he⟩ := hp.isMap
      have := h.blk
      unfold SB at this
      rw [he] at this
      cases this
  have lsb : ∀ m, lv = .map (some m) → m ≠ sb := by
    rintro m e rfl
    rcases h.live with ⟨e1, _⟩ | ⟨m', e1, hp⟩
    · rw [e] at e1; cases e1
    · rw [e] at e1
      cases e1
      obtain ⟨es, c, he⟩ := hp.isMap
      have := h.blk
      unfold SB at this
      rw [he] at this
      cases this
  have b1 : SB wx.drew sb st.low st.rel mv st.kept lv hv := h.blk
  refine ⟨b1.set6 hv', h.mm.fr f (fun m e => msb m e), h.live.fr f (fun m e => lsb m e), h.seg.fr f (fun k e e2 => seg_ne h.blk h.seg (by rw [e, e2])), h.ne, h.osb, h.om, h.ol, h.oh, h.fr.andThen f (fun k e => ?_)⟩
  rw [e]
  rcases h.osb with h1 | h1
  · exact .inl h1
  · exact .inr h1

/-- 'clear' of the row's first i slots, and what then stands. -/
theorem StW.clear {B N : Nat} {W0 : World} {sb : Nat} {st : PSt} {mv lv hv : Value} {wx : World} (h : StW B N W0 sb st mv lv hv wx) {i : Nat} (hi : i ≤ st.held.length) :
    (hv = .slice none 0 0 ∧ st.held = []) ∨ ∃ g off cap w', hv = .slice (some ⟨g, off, none⟩) st.held.length cap ∧ st.held.length ≤ cap ∧ cap ≤ maxLen ∧ (∀ ty, (Builtin.clear_ #[70] ty #[.slice (some ⟨g, off, none⟩) i cap]).run Yba.prog wx = .ok (.tuple #[]) w') ∧
      Cl B N W0 sb st mv lv hv (st.held.drop i) (.slice (some ⟨g, off + i * 13, none⟩) (st.held.length - i) (cap - i)) w' ∧ (cap ≤ i → Cl B N W0 sb st mv lv hv (st.held.drop i) (.slice (some ⟨g, off, none⟩) (st.held.length - i) 0) w') := by
  rcases h.seg with ⟨e, e2⟩ | ⟨g, off, cap, cur, e, hg, h1, h2, h3, h4⟩
  · exact .inl ⟨e, e2⟩
  · right
    have key : ∃ zs : List Value, zs.length = i * 13 ∧ ∀ ty, (Builtin.clear_ #[70] ty #[.slice (some ⟨g, off, none⟩) i cap]).run Yba.prog wx = .ok (.tuple #[]) (wx.setCells g off zs) := by
      by_cases h0 : i = 0
      · subst h0
        exact ⟨[], rfl, fun ty => clear_none wx 70 80 ty Yba.underlying70 _ _⟩
      · obtain ⟨z1, z2⟩ := zeros13 i
        refine ⟨_, z1, fun ty => run_clear_any wx 70 80 ty _ Yba.underlying70 zero80 g off i cap _ rfl z2 (by omega) (fun j hj => ?_) (fun j _ => by simp [World.frozen?, hg])⟩
        rw [z1] at hj
        rw [cell_of (v := cur[off + j]'(by omega)) hg (Array.getElem?_eq_getElem _)]
        rfl
    obtain ⟨zs, hz, hrun⟩ := key
    obtain ⟨a1, a2, a3, a4, a5⟩ := h.cleared zs e hg h4 ⟨h1, h2, h3⟩ hi hz
    refine ⟨g, off, cap, _, e, h1, h2, hrun, ⟨a1, a2, a3, a4, h.ne, h.osb, h.om, h.ol, fun k ek => h.oh k (by rw [e]; exact ek), a5⟩, fun hci => ⟨a1, a2, a3, .inr ⟨g, off, 0, over cur off zs, ?_, heap_setCells_same zs off wx cur hg, ?_, by simp [maxLen], by rw [over_size]; omega, fun j u hu => ?_⟩, h.ne, h.osb, h.om, h.ol, fun k ek => h.oh k (by rw [e]; exact ek), a5⟩⟩
    · simp
    · simp; omega
    · rw [List.drop_of_length_le (by omega)] at hu
      simp [hcs] at hu

set_option maxRecDepth 100000 in
set_option maxHeartbeats 8000000 in
theorem add {B : Nat} {w : World} {sb : Nat} {st : PSt} (hR : Rep B w sb st) (hB : B ≤ w.heap.size) (hI : Inv st) (r : Rec) (ms : List (Nat × Nat)) (hs16 : r.slot < 16) (hl16 : r.low < 16) (hmk : ∀ wx : World, Below B w wx → MkRow wx r.mv ms) :
    Calls Yba.prog 11 #[.pointer (some ⟨sb, 0, none⟩), rcv r, rcv r] w fun e w' => e = .returned (.tuple #[]) ∧ Rep B w' sb (addP st r ms) ∧ Below B w w' := by
  obtain ⟨mv0, lv0, hv0, h0⟩ := hR
  obtain ⟨N, hN⟩ : ∃ N, w.heap.size = N := ⟨_, rfl⟩
  obtain ⟨W0, hW0⟩ : ∃ W0, W0 = ((w.alloc (.cells #[.pointer (some ⟨sb, 0, none⟩)] 77)).alloc (.cells (rcl r).toArray 52)).alloc (.cells (rcl r).toArray 52) := ⟨_, rfl⟩
  have F0 : Fr (fun _ => False) w W0 := by rw [hW0]; exact (((Fr.refl _ w).alloc _).alloc _).alloc _
  have s0 : StW B N W0 sb st mv0 lv0 hv0 W0 := by rw [← hN]; exact h0.base F0
  have W0s : W0.heap.size = N + 3 := by rw [hW0, ← hN]; simp
  have p0 : PB W0 N sb := by
    rw [hW0, ← hN]
    unfold PB
    rw [Below.heap_alloc _ _ _ (by simp; omega), Below.heap_alloc _ _ _ (by simp)]
    exact alloc_new _ _
  have x1 : W0.heap[N + 1]? = some (.cells (rcl r).toArray 52 (0, 0)) := by
    have e := alloc_new (w.alloc (.cells #[.pointer (some ⟨sb, 0, none⟩)] 77)) (.cells (rcl r).toArray 52)
    simp only [World.size_alloc] at e
    rw [hW0, ← hN, Below.heap_alloc _ _ _ (by simp)]
    exact e
  have x2 : W0.heap[N + 2]? = some (.cells (rcl r).toArray 52 (0, 0)) := by
    have e := alloc_new ((w.alloc (.cells #[.pointer (some ⟨sb, 0, none⟩)] 77)).alloc (.cells (rcl r).toArray 52)) (.cells (rcl r).toArray 52)
    simp only [World.size_alloc] at e
    rw [hW0, ← hN]
    exact e
  have below : ∀ wx : World, Fr (fun k => B ≤ k ∧ k < N) W0 wx → Below B w wx := fun wx f => (F0.below hB (fun _ h => h.elim)).trans (f.below (by omega) (fun k h => h.1))
  obtain ⟨bb, hb1, hb3, hb2⟩ : ∃ bb : Bool, (∀ w : World, (binOp BinOp.eql 69 lv0 (.map none)).run Yba.prog w = .ok (.bool bb) w) ∧ (∀ w : World, Sem.run Yba.prog (eqGuard BinOp.eql 69 (Operand.tmp 17) (Operand.const (Value.map none)) lv0 (Value.map none)) w = .ok () w) ∧ ((bb = true ∧ lv0 = .map none) ∨ (bb = false ∧ ∃ m, lv0 = .map (some m))) := by
    rcases h0.live with ⟨rfl, _⟩ | ⟨m, rfl, _⟩
    · exact ⟨true, fun _ => by kernel_rfl, fun _ => by kernel_rfl, .inl ⟨rfl, rfl⟩⟩
    · exact ⟨false, fun _ => by kernel_rfl, fun _ => by kernel_rfl, .inr ⟨rfl, m, rfl⟩⟩
  have c5 := h0.blk.c5
  have sbl := h0.blk.lt
  have q1 : sb < w.heap.size + 1 := by omega
  have q2 : sb < w.heap.size + 1 + 1 := by omega
  have HI := hide hI
  have W0S := hide W0s
  clear W0s
  have S0 := hide s0
  have HW0 := hide hW0
  have P0 := hide p0
  have X1 := hide x1
  have X2 := hide x2
  have BEL := hide below
  have HB2 := hide hb2
  have HMK := hide hmk
  clear h0 hI s0 F0 hW0 p0 x1 x2 below hb2 hmk
  obtain ⟨slot, rlow, rrel, log, ra, rl, rc⟩ := r
  simp only at hs16 hl16
  subst hN
  unfold rcl at HW0
  simp only at HW0
  unfold rcv
  go_enter Yba.func11, Yba.ntmps11
  go_upto_region 1 with fail
  go_cut [18] from 14 (fun s18 wx => s18 = .bool bb ∧ wx = W0)
  case first =>
    go_wp2_with fail
    go_meet
    case rel => exact ⟨rfl, HW0.out.symm⟩
  case rest =>
    obtain ⟨rfl, hcut⟩ := hcut
    have hcut2 := hcut.symm
    subst hcut2
    clear HW0 hb1 hb3
    have b0 : W0.cell? ⟨w.heap.size, 0, none⟩ = some (.pointer (some ⟨sb, 0, none⟩)) := cell_of P0.out rfl
    go_upto_if 18 with fail
    go_cut [] from 19 (fun wx => ∃ lm, StW B w.heap.size W0 sb st mv0 (.map (some lm)) hv0 wx)
    case first =>
      rcases HB2.out with ⟨rfl, e⟩ | ⟨rfl, m, e⟩
      · have s1 := S0.out
        rw [e] at s1
        have d5 := s1.blk.c5
        have f5 := s1.blk.fz 5
        have hmm := @run_makeMap Yba.prog
        have S1 := hide s1.make
        have sbl2 := s1.blk.lt
        clear s1 e HB2
        go_wp2_with fail
        go_meet
        case rel => exact ⟨_, S1.out⟩
      · have s1 := S0.out
        rw [e] at s1
        have S1 := hide s1
        clear s1 e HB2
        go_wp2_with fail
        go_meet
        case rel => exact ⟨m, S1.out⟩
    case rest =>
      obtain ⟨lm, s1⟩ := hcut
      have S1 := hide s1
      have b0' := s1.box (Nat.le_refl _) b0
      have b3 : wc.cell? ⟨w.heap.size + 1, 3, none⟩ = some (.int .u64 (rlow : Int)) := s1.box (by omega) (cell_of X1.out rfl)
      have d1 := s1.blk.c1
      clear s1 HB2
      obtain ⟨bl, hbl⟩ : ∃ bl : Bool, decide ((st.low : Int) < (rlow : Int)) = bl := ⟨_, rfl⟩
      go_wp2_with fail
      go_region
      go_upto_if 29 with fail
      go_cut [6, 29] from 30 (fun _ _ wx => ∃ lm hv1, StW B w.heap.size W0 sb (lowP st ⟨slot, rlow, rrel, log, ra, rl, rc⟩) mv0 (.map (some lm)) hv1 wx)
      case first =>
        cases bl with
        | false =>
          have hlow : ¬ st.low < rlow := by simp at hbl; omega
          go_wp2_with fail
          go_meet
          case rel =>
            refine ⟨lm, hv0, ?_⟩
            unfold lowP
            rw [if_neg hlow]
            exact S1.out.drew
        | true =>
          have hlow : st.low < rlow := by simp at hbl; omega
          clear hbl
          obtain ⟨ha, hcap, hhv, _⟩ := S1.out.seg.form
          obtain ⟨hn, hhn⟩ : ∃ hn, st.held.length = hn := ⟨_, rfl⟩
          have d6 := S1.out.blk.c6
          have d5 := S1.out.blk.c5
          rw [hhv, hhn] at d6
          have cE := evict (fr := st.low) (tt := rlow) hlow (by omega) (S1.out.drew.drew.pb P0.out) S1.out.drew.drew.blk S1.out.drew.drew.seg HI.out.len HI.out.ok (by
            rcases S1.out.drew.drew.live with ⟨e, _⟩ | ⟨m, e, h⟩
            · cases e
            · cases e; exact h) HI.out.above
          unfold dropV at cE
          have CE := hide cE
          have hmf : ∀ (fn : Fn) (first cap : Array Value) (w : World), (Instr.makeFunc fn first cap).run Yba.prog w = .ok (.func fn first cap) w := fun _ _ _ _ => rfl
          clear cE
          go_wp2_with fail
          have MID := hide (fun (w2 : World) (xs : List Rec) (htk : Took st.L (fun i => i < rlow) xs) (hpm : PM w2 30 .u64 16 lm (lvf (cutL st.L (fun i => decide (i < rlow))))) (hev : Ev wc.drew.drew sb lm st.low st.rel mv0 st.kept (.map (some lm)) hv0 st.held xs w2) => S1.out.drew.drew.evicted hev hpm)
          go_region_held3 (fun w' => w'.cell? ⟨w.heap.size, 0, none⟩ = some (.pointer (some ⟨sb, 0, none⟩)) ∧ w'.cell? ⟨sb, 5, none⟩ = some (.map (some lm)) ∧ w'.cell? ⟨sb, 1, none⟩ = some (.int .u64 (st.low : Int)) ∧ w'.cell? ⟨w.heap.size + 1, 3, none⟩ = some (.int .u64 (rlow : Int))) (go_keep)
            (first | (go_at_call 13; refine CE.out.mono ?_; rintro e w2 ⟨rfl, xs, htk, hpm, hev⟩; obtain ⟨hv1, s2⟩ := MID.out w2 xs htk hpm hev; have k0 := s2.box (Nat.le_refl _) b0; have k5 := s2.blk.c5; have k1 := s2.blk.c1; have k3 : w2.cell? ⟨w.heap.size + 1, 3, none⟩ = some (.int .u64 (rlow : Int)) := s2.box (by omega) (cell_of X1.out rfl)))
          have S2 := hide s2
          have HTK := hide htk
          have lenX : (st.held ++ xs).length ≤ 100 := by
            have := htk.len HI.out.ok
            have := HI.out.len
            rw [List.length_append]
            omega
          have d6' := s2.blk.c6
          clear htk hpm hev CE MID d6 d5 d1 b0' b3 k5
          rcases s2.tail (st := { st with L := cutL st.L (fun i => decide (i < rlow)), held := st.held ++ xs }) lenX with ⟨hvE, he, hx⟩ | ⟨g, off, cap, hvE, hle1, hle2, cS⟩
          · have h0 : hn = 0 := by rw [← hhn, he]; rfl
            rw [hvE] at d6'
            have cS := AnyF.slices_SortFunc_none Yba.sortHS none 0 (.func (Fn.func 16) #[] #[]) w2
            change Calls Yba.prog 15 _ _ _ at cS
            have CS := hide cS
            have k1' := s2.blk.fz 1
            have FIN := hide (show StW B w.heap.size W0 sb (lowP st ⟨slot, rlow, rrel, log, ra, rl, rc⟩) mv0 (.map (some lm)) hv1 (w2.setCell ⟨sb, 1, none⟩ (.int .u64 (rlow : Int))) by
              have e := s2.set1 rlow
              have e2 := took_sorted HI.out.ok HTK.out (List.Perm.refl _) (fun i j a b h1 h2 h3 => by rw [hx] at h1; simp at h1)
              unfold lowP
              rw [if_pos hlow, ← e2]
              exact e)
            subst h0
            clear cS s2 hvE he hx
            go_wp2_with fail
            go_at_call 15
            refine CS.out.mono ?_
            rintro e w3 ⟨rfl, hw3⟩
            have hw3' := hw3.symm
            subst hw3'
            go_wp2_with fail
            go_meet
            case rel => exact ⟨lm, hv1, FIN.out⟩
          · obtain ⟨n1, hn1⟩ : ∃ n1, (st.held ++ xs).length = n1 := ⟨_, rfl⟩
            have hnn : hn ≤ n1 := by rw [← hhn, ← hn1, List.length_append]; omega
            have hnnI : (hn : Int) ≤ (n1 : Int) := by omega
            rw [hvE, hn1] at d6'
            rw [hn1] at hle1
            rw [hn1, hhn] at cS
            have FIN : ∀ (w3 : World) (ys : List Rec), ys.Perm xs → (∀ (i j : Nat) (a b : Rec), ys[i]? = some a → ys[j]? = some b → i < j → a.slot ≤ b.slot) → StW B w.heap.size W0 sb { st with L := cutL st.L (fun i => decide (i < rlow)), held := st.held ++ ys } mv0 (.map (some lm)) hv1 w3 → StW B w.heap.size W0 sb (lowP st ⟨slot, rlow, rrel, log, ra, rl, rc⟩) mv0 (.map (some lm)) hv1 (w3.setCell ⟨sb, 1, none⟩ (.int .u64 (rlow : Int))) := fun w3 ys hp hs s3 => by
              have e := s3.set1 rlow
              have e2 := took_sorted HI.out.ok HTK.out hp hs
              unfold lowP
              rw [if_pos hlow, ← e2]
              exact e
            have FIN' := hide FIN
            clear FIN
            by_cases hcap2 : hn < cap
            · have hcI : (hn : Int) < (cap : Int) := by omega
              have CS := hide cS
              clear cS s2 hvE
              go_wp2_with fail
              go_at_call 15
              refine CS.out.mono ?_
              rintro e w3 ⟨rfl, ys, hp, hs, s3⟩
              have z0 := s3.box (Nat.le_refl _) b0
              have z1 := s3.blk.c1
              have z2 := s3.blk.fz 1
              have z3 : w3.cell? ⟨w.heap.size + 1, 3, none⟩ = some (.int .u64 (rlow : Int)) := s3.box (by omega) (cell_of X1.out rfl)
              have E := hide (FIN'.out w3 ys hp hs s3)
              clear hp hs s3 CS
              go_wp2_with fail
              go_meet
              case rel => exact ⟨lm, hv1, E.out⟩
            · have e1 : cap = hn := by omega
              have e2 : n1 = hn := by omega
              have hx : xs = [] := by
                have : xs.length = 0 := by rw [List.length_append, hhn] at hn1; omega
                exact List.length_eq_zero_iff.1 this
              have cN := AnyF.slices_SortFunc_none Yba.sortHS (some ⟨g, off, none⟩) 0 (.func (Fn.func 16) #[] #[]) w2
              change Calls Yba.prog 15 _ _ _ at cN
              have CN := hide cN
              have k1' := s2.blk.fz 1
              have E := hide (FIN'.out w2 [] (by rw [hx]) (fun i j a b h1 => by simp at h1) (by rw [hx] at s2; exact s2))
              rw [e1, e2] at d6'
              clear cS s2 hvE cN hn1 hle1 hle2 e1 e2
              go_wp2_with fail
              go_at_call 15
              refine CN.out.mono ?_
              rintro e w3 ⟨rfl, hw3⟩
              have hw3' := hw3.symm
              subst hw3'
              go_wp2_with fail
              go_meet
              case rel => exact ⟨lm, hv1, E.out⟩
      case rest =>
        obtain ⟨lm1, hv1, s2⟩ := hcut
        obtain ⟨st1, hst1⟩ : ∃ st1, lowP st ⟨slot, rlow, rrel, log, ra, rl, rc⟩ = st1 := ⟨_, rfl⟩
        have hI1 : Inv st1 := by rw [← hst1]; exact HI.out.lowP hl16
        rw [hst1] at s2
        have S2 := hide s2
        have HST1 := hide hst1
        have HI1 := hide hI1
        clear S1 hst1 hI1 b0' b3 d1 hbl
        have b0' := s2.box (Nat.le_refl _) b0
        have y0 : wc.cell? ⟨w.heap.size + 1, 0, none⟩ = some (.int .u64 (slot : Int)) := s2.box (by omega) (cell_of X1.out rfl)
        have y1 : wc.cell? ⟨w.heap.size + 1, 1, none⟩ = some (.int .u64 0) := s2.box (by omega) (cell_of X1.out rfl)
        have y2 : wc.cell? ⟨w.heap.size + 1, 2, none⟩ = some (.int .u32 0) := s2.box (by omega) (cell_of X1.out rfl)
        have y3 : wc.cell? ⟨w.heap.size + 1, 3, none⟩ = some (.int .u64 (rlow : Int)) := s2.box (by omega) (cell_of X1.out rfl)
        have y4 : wc.cell? ⟨w.heap.size + 1, 4, none⟩ = some (.slice ra rl rc) := s2.box (by omega) (cell_of X1.out rfl)
        have y5 : wc.cell? ⟨w.heap.size + 1, 5, none⟩ = some (.int .u64 (rrel : Int)) := s2.box (by omega) (cell_of X1.out rfl)
        have y6 : wc.cell? ⟨w.heap.size + 1, 6, none⟩ = some (.int .u64 (log : Int)) := s2.box (by omega) (cell_of X1.out rfl)
        have y7 : wc.cell? ⟨w.heap.size + 1, 7, none⟩ = some (.int .u64 0) := s2.box (by omega) (cell_of X1.out rfl)
        have y8 : wc.cell? ⟨w.heap.size + 1, 8, none⟩ = some (.int .u32 0) := s2.box (by omega) (cell_of X1.out rfl)
        have y9 : wc.cell? ⟨w.heap.size + 1, 9, none⟩ = some (.int .u64 0) := s2.box (by omega) (cell_of X1.out rfl)
        have y10 : wc.cell? ⟨w.heap.size + 1, 10, none⟩ = some (.int .u32 0) := s2.box (by omega) (cell_of X1.out rfl)
        have y11 : wc.cell? ⟨w.heap.size + 1, 11, none⟩ = some (.slice none 0 0) := s2.box (by omega) (cell_of X1.out rfl)
        have cR := regAdd ⟨slot, rlow, rrel, log, ra, rl, rc⟩ ms s2.drew.blk s2.drew.mm (HMK.out _ (BEL.out _ s2.drew.fr))
        unfold rcv at cR
        have CR := hide cR
        have MID := hide (fun (w3 : World) (mv' : Value) (a1 : SB w3 sb st1.low (regR st1.rel rrel) mv' st1.kept (.map (some lm1)) hv1) (a2 : MM w3 mv' (regG st1.rel st1.g rrel ms)) (a3 : Fr (fun k => k = sb ∨ mv0 = .map (some k)) wc.drew w3) (a4 : mv' = mv0 ∨ mv' = .map none ∨ ∃ m', mv' = .map (some m') ∧ wc.drew.heap.size ≤ m') => s2.drew.reg a1 a2 a3 a4)
        clear cR s2
        go_upto_region 8 with fail
        go_cut [] from 59 (fun wx => ∃ mv1, StW B w.heap.size W0 sb (regP st1 ⟨slot, rlow, rrel, log, ra, rl, rc⟩ ms) mv1 (.map (some lm1)) hv1 wx)
        case first =>
          go_region_held3 (fun w' => w'.cell? ⟨w.heap.size, 0, none⟩ = some (.pointer (some ⟨sb, 0, none⟩)) ∧ w'.cell? ⟨w.heap.size + 1, 0, none⟩ = some (.int .u64 (slot : Int)) ∧ w'.cell? ⟨w.heap.size + 1, 1, none⟩ = some (.int .u64 0) ∧ w'.cell? ⟨w.heap.size + 1, 2, none⟩ = some (.int .u32 0) ∧ w'.cell? ⟨w.heap.size + 1, 3, none⟩ = some (.int .u64 (rlow : Int)) ∧ w'.cell? ⟨w.heap.size + 1, 4, none⟩ = some (.slice ra rl rc) ∧ w'.cell? ⟨w.heap.size + 1, 5, none⟩ = some (.int .u64 (rrel : Int)) ∧ w'.cell? ⟨w.heap.size + 1, 6, none⟩ = some (.int .u64 (log : Int)) ∧ w'.cell? ⟨w.heap.size + 1, 7, none⟩ = some (.int .u64 0) ∧ w'.cell? ⟨w.heap.size + 1, 8, none⟩ = some (.int .u32 0) ∧ w'.cell? ⟨w.heap.size + 1, 9, none⟩ = some (.int .u64 0) ∧ w'.cell? ⟨w.heap.size + 1, 10, none⟩ = some (.int .u32 0) ∧ w'.cell? ⟨w.heap.size + 1, 11, none⟩ = some (.slice none 0 0)) (go_keep)
            (first | (go_at_call 18; refine CR.out.mono ?_; rintro e w3 ⟨rfl, mv', a1, a2, a3, a4⟩; have s3 := MID.out w3 mv' a1 a2 a3 a4; have z := fun j v h => s3.box (b := w.heap.size + 1) (j := j) (v := v) (by omega) (cell_of X1.out h); have k0 := s3.box (Nat.le_refl _) b0; have k1 := z 0 _ rfl; have k2 := z 1 _ rfl; have k3 := z 2 _ rfl; have k4 := z 3 _ rfl; have k5 := z 4 _ rfl; have k6 := z 5 _ rfl; have k7 := z 6 _ rfl; have k8 := z 7 _ rfl; have k9 := z 8 _ rfl; have k10 := z 9 _ rfl; have k11 := z 10 _ rfl; have k12 := z 11 _ rfl; simp only [rcl] at k1 k2 k3 k4 k5 k6 k7 k8 k9 k10 k11 k12))
          go_wp2_with fail
          go_meet
          case rel => exact ⟨mv', s3⟩
        case rest =>
          obtain ⟨mv1, s3⟩ := hcut
          obtain ⟨st2, hst2⟩ : ∃ st2, regP st1 ⟨slot, rlow, rrel, log, ra, rl, rc⟩ ms = st2 := ⟨_, rfl⟩
          have hI2 : Inv st2 := by rw [← hst2]; exact HI1.out.regP _ _
          rw [hst2] at s3
          have HST2 := hide hst2
          have HI2 := hide hI2
          have S3 := hide s3
          clear hst2 hI2 S2 CR MID b0' y0 y1 y2 y3 y4 y5 y6 y7 y8 y9 y10 y11
          have b0' := s3.box (Nat.le_refl _) b0
          have d1 := s3.blk.c1
          have cK := keptOf st2.low s3.drew.blk s3.drew.mm
          have CK := hide cK
          clear cK
          go_upto_region 9 with fail
          go_cut [7] from 64 (fun s7 wx => s7 = .int .u64 (kMin st2.low st2.g : Int) ∧ StW B w.heap.size W0 sb st2 mv1 (.map (some lm1)) hv1 wx)
          case first =>
            go_region_held3 (fun w' => w'.cell? ⟨w.heap.size, 0, none⟩ = some (.pointer (some ⟨sb, 0, none⟩)) ∧ w'.cell? ⟨sb, 1, none⟩ = some (.int .u64 (st2.low : Int))) (go_keep)
              (first | (go_at_call 19; refine CK.out.mono ?_; rintro e w4 ⟨k, rfl, hk, hf⟩; have s4 := S3.out.drew.quiet hf; have k0 := s4.box (Nat.le_refl _) b0; have k1 := s4.blk.c1))
            go_wp2_with fail
            go_meet
            case rel =>
              refine ⟨?_, s4⟩
              rw [isMin_unique hk (kMin_is st2.low st2.g)]
          case rest =>
            obtain ⟨rfl, s4⟩ := hcut
            obtain ⟨kk, hkk⟩ : ∃ kk, kMin st2.low st2.g = kk := ⟨_, rfl⟩
            rw [hkk]
            have HKK := hide hkk
            have S4 := hide s4
            clear S3 CK b0' d1 hkk
            have b0' := s4.box (Nat.le_refl _) b0
            have d4 := s4.blk.c4
            obtain ⟨bl, hbl⟩ : ∃ bl : Bool, decide (st2.kept < kk) = bl := ⟨_, rfl⟩
            clear s4
            go_upto_if 77 with fail
            go_cut [8, 9, 11, 77] from 78 (fun _ _ _ _ wx => ∃ hv2, StW B w.heap.size W0 sb (keptP st2) mv1 (.map (some lm1)) hv2 wx)
            case first =>
              cases bl with
              | false =>
                have hlt : ¬ st2.kept < kk := by simpa using hbl
                go_wp2_with fail
                go_meet
                case rel =>
                  refine ⟨hv1, ?_⟩
                  unfold keptP
                  rw [HKK.out, if_neg hlt]
                  exact S4.out
              | true =>
                have hlt : st2.kept < kk := by simpa using hbl
                have cF := find kk S4.out.blk S4.out.seg HI2.out.asc HI2.out.len
                have CF := hide cF
                have hsn : sb ≠ w.heap.size := by omega
                have hsn2 : w.heap.size ≠ sb := by omega
                have KEY := hide (show ∀ i, (∀ (j : Nat) (r : Rec), st2.held[j]? = some r → (j < i ↔ r.slot < kk)) → keptP st2 = { st2 with kept := kk, held := st2.held.drop i } from fun i hi => by
                  unfold keptP
                  rw [HKK.out, if_pos hlt, drop_filter kk _ i hi])
                clear cF hbl
                go_wp2_with fail
                go_at_call 20
                refine CF.out.mono ?_
                rintro e w5 ⟨i, f, rfl, hi, hmem, hf⟩
                have s5 := S4.out.quiet hf
                have HMEM := hide (KEY.out i hmem)
                have v0 := s5.box (Nat.le_refl _) b0
                have v6 := s5.blk.c6
                have S5 := hide s5
                clear CF hmem hf KEY b0' d4
                rcases s5.seg with ⟨eh, el⟩ | ⟨g, off, cap, cur, eh, hg, hc1, hc2, hc3, hc4⟩
                · have hi0 : i = 0 := by rw [el] at hi; simpa using hi
                  subst hi0
                  subst eh
                  have hcl : ∀ ty, (Builtin.clear_ #[70] ty #[.slice none 0 0]).run Yba.prog w5 = .ok (.tuple #[]) w5 := fun ty => clear_none w5 70 80 ty Yba.underlying70 none 0
                  have f6 := s5.blk.fz 6
                  have f4 := s5.blk.fz 4
                  have v4 := s5.blk.c4
                  have FIN := hide (show StW B w.heap.size W0 sb (keptP st2) mv1 (.map (some lm1)) (.slice none 0 0) ((w5.drew.setCell ⟨sb, 6, none⟩ (.slice none 0 0)).setCell ⟨sb, 4, none⟩ (.int .u64 (kk : Int))) by
                    rw [HMEM.out]
                    have e := (s5.drew.set6 (.slice none 0 0) [] (.inl ⟨rfl, rfl⟩) (fun k e => by cases e)).set4 kk
                    rw [el]
                    exact e)
                  clear s5 S5 el
                  go_wp2_with fail
                  go_loopw [91] (fun s91 wx => s91 = .int .i64 0 ∧ wx = w5) (fun _ _ => 0)
                  case atStart => exact ⟨rfl, rfl⟩
                  case round =>
                    obtain ⟨rfl, hw⟩ := hrel
                    have hw' := hw.symm
                    subst hw'
                    go_wp2_with fail
                    go_region
                    go_wp2_with fail
                    go_meet
                    case rel => exact ⟨_, FIN.out⟩
                · obtain ⟨n, hnE⟩ : ∃ n, st2.held.length = n := ⟨_, rfl⟩
                  subst eh
                  have hn16 : n ≤ 16 := by rw [← hnE]; exact HI2.out.len
                  rw [hnE] at hi hc1 v6
                  have hiI : (i : Int) ≤ (n : Int) := by omega
                  have hicI : (i : Int) ≤ (cap : Int) := by omega
                  have hnE' := hide hnE
                  clear s5 hg hc3 hc4 hnE
                  go_wp2_with fail
                  go_loopw [91] (fun s91 wx => ∃ j : Nat, s91 = .int .i64 (j : Int) ∧ j ≤ i ∧ StW B w.heap.size W0 sb st2 mv1 (.map (some lm1)) (.slice (some ⟨g, off, none⟩) st2.held.length cap) wx) (fun s91 _ => i - (intOf s91).toNat)
                  case atStart => exact ⟨0, rfl, Nat.zero_le _, S5.out⟩
                  case round =>
                    obtain ⟨j, rfl, hj, s6⟩ := hrel
                    have S6 := hide s6
                    have v0' := s6.box (Nat.le_refl _) b0
                    by_cases hji : j < i
                    · have hjiI : (j : Int) < (i : Int) := by omega
                      obtain ⟨q, hq⟩ : ∃ q, st2.held[j]? = some q := ⟨_, List.getElem?_eq_getElem (by rw [hnE'.out]; omega)⟩
                      obtain ⟨aa, cc, e1, hrow⟩ := s6.seg.form
                      cases e1
                      obtain ⟨g', off', e2, _, hcells⟩ := hrow j q hq
                      cases e2
                      obtain ⟨x0, x1, x2, x3, x4, x5, x6, x7, x8, x9, x10, x11, x12⟩ := rc_at hcells
                      have nlt : w.heap.size < wr.heap.size := cell_lt v0'
                      have slt := s6.blk.lt
                      have cG := gone q ((s6.alloc (.cells (hcl q).toArray 80)).blk)
                      have MID := hide (fun (w7 : World) (hf : Fr (fun _ => False) (wr.alloc (.cells (hcl q).toArray 80)) w7) => (s6.alloc (.cells (hcl q).toArray 80)).quiet hf)
                      unfold rcv at cG
                      unfold hcl rcl at cG MID
                      have CG := hide cG
                      clear hrow hcells cG s6 hq
                      go_wp2_with fail
                      go_at_call 21
                      refine CG.out.mono ?_
                      rintro e w7 ⟨rfl, hf⟩
                      have S7 := hide (MID.out w7 hf)
                      clear CG MID hf
                      go_wp2_with fail
                      go_roundw
                      case rel => exact ⟨j + 1, by go_num, by omega, S7.out⟩
                      case measure => simp [intOf]; omega
                    · have hjE : j = i := by omega
                      subst hjE
                      have v6' := s6.blk.c6
                      rw [hnE'.out] at v6'
                      rcases s6.clear (i := j) (by rw [hnE'.out]; exact hi) with ⟨e, _⟩ | ⟨g', off', cap', w7, e, _, _, hrun, cl1, cl2⟩
                      · cases e
                      · cases e
                        rw [hnE'.out] at cl1 cl2
                        have z0 : w7.cell? ⟨w.heap.size, 0, none⟩ = some (.pointer (some ⟨sb, 0, none⟩)) := by
                          rw [cl1.fr.cell (a := ⟨w.heap.size, 0, none⟩) (cell_lt b0) (fun e => by have := e.2; simp only at this; omega)]
                          exact b0
                        have z6 := cl1.blk.c6
                        have z4 := cl1.blk.c4
                        have f6 := cl1.blk.fz 6
                        have f4 := cl1.blk.fz 4
                        by_cases hjc : j < cap
                        · have hjcI : (j : Int) < (cap : Int) := by omega
                          have FIN := hide (show StW B w.heap.size W0 sb (keptP st2) mv1 (.map (some lm1)) _ ((w7.drew.setCell ⟨sb, 6, none⟩ (.slice (some ⟨g, off + j * 13, none⟩) (n - j) (cap - j))).setCell ⟨sb, 4, none⟩ (.int .u64 (kk : Int))) from by
                            rw [HMEM.out]
                            exact cl1.set.set4 kk)
                          clear s6 S5 S6 cl1 cl2
                          go_wp2_with fail
                          go_region
                          go_wp2_with fail
                          go_meet
                          case rel => exact ⟨_, FIN.out⟩
                        · have hjcE : cap = j := by omega
                          have hnj : n = j := by omega
                          have cl3 := cl2 (by omega)
                          rw [show n - j = 0 by omega] at cl3
                          have FIN := hide (show StW B w.heap.size W0 sb (keptP st2) mv1 (.map (some lm1)) _ ((w7.drew.setCell ⟨sb, 6, none⟩ (.slice (some ⟨g, off, none⟩) 0 0)).setCell ⟨sb, 4, none⟩ (.int .u64 (kk : Int))) from by
                            rw [HMEM.out]
                            exact cl3.set.set4 kk)
                          clear cl3
                          subst hjcE
                          subst hnj
                          clear s6 S5 S6 cl1 cl2
                          go_wp2_with fail
                          go_region
                          go_wp2_with fail
                          go_meet
                          case rel => exact ⟨_, FIN.out⟩
            case rest =>
              obtain ⟨hv2, s5⟩ := hcut
              obtain ⟨st3, hst3⟩ : ∃ st3, keptP st2 = st3 := ⟨_, rfl⟩
              rw [hst3] at s5
              have EQ : addP st ⟨slot, rlow, rrel, log, ra, rl, rc⟩ ms = putP st3 ⟨slot, rlow, rrel, log, ra, rl, rc⟩ := by
                unfold addP
                rw [HST1.out, HST2.out, hst3]
              have HEQ := hide EQ
              have S5 := hide s5
              clear S4 HST1 HST2 HI HI1 HI2 hst3 EQ b0' d4 hbl HKK HMK
              have b0' := s5.box (Nat.le_refl _) b0
              have y0 : wc.cell? ⟨w.heap.size + 1, 0, none⟩ = some (.int .u64 (slot : Int)) := s5.box (by omega) (cell_of X1.out rfl)
              have d1 := s5.blk.c1
              have FIN : ∀ w' st' mv' lv' hv', StW B w.heap.size W0 sb st' mv' lv' hv' w' → Rep B w' sb st' ∧ Below B w w' := fun w' st' mv' lv' hv' s => ⟨⟨mv', lv', hv', s.rebase (by rw [W0S.out]; omega)⟩, BEL.out w' s.fr⟩
              have z0 : wc.cell? ⟨w.heap.size + 1 + 1, 0, none⟩ = some (.int .u64 (slot : Int)) := s5.box (by omega) (cell_of X2.out rfl)
              have z1 : wc.cell? ⟨w.heap.size + 1 + 1, 1, none⟩ = some (.int .u64 0) := s5.box (by omega) (cell_of X2.out rfl)
              have z2 : wc.cell? ⟨w.heap.size + 1 + 1, 2, none⟩ = some (.int .u32 0) := s5.box (by omega) (cell_of X2.out rfl)
              have z3 : wc.cell? ⟨w.heap.size + 1 + 1, 3, none⟩ = some (.int .u64 (rlow : Int)) := s5.box (by omega) (cell_of X2.out rfl)
              have z4 : wc.cell? ⟨w.heap.size + 1 + 1, 4, none⟩ = some (.slice ra rl rc) := s5.box (by omega) (cell_of X2.out rfl)
              have z5 : wc.cell? ⟨w.heap.size + 1 + 1, 5, none⟩ = some (.int .u64 (rrel : Int)) := s5.box (by omega) (cell_of X2.out rfl)
              have z6 : wc.cell? ⟨w.heap.size + 1 + 1, 6, none⟩ = some (.int .u64 (log : Int)) := s5.box (by omega) (cell_of X2.out rfl)
              have z7 : wc.cell? ⟨w.heap.size + 1 + 1, 7, none⟩ = some (.int .u64 0) := s5.box (by omega) (cell_of X2.out rfl)
              have z8 : wc.cell? ⟨w.heap.size + 1 + 1, 8, none⟩ = some (.int .u32 0) := s5.box (by omega) (cell_of X2.out rfl)
              have z9 : wc.cell? ⟨w.heap.size + 1 + 1, 9, none⟩ = some (.int .u64 0) := s5.box (by omega) (cell_of X2.out rfl)
              have z10 : wc.cell? ⟨w.heap.size + 1 + 1, 10, none⟩ = some (.int .u32 0) := s5.box (by omega) (cell_of X2.out rfl)
              have z11 : wc.cell? ⟨w.heap.size + 1 + 1, 11, none⟩ = some (.slice none 0 0) := s5.box (by omega) (cell_of X2.out rfl)
              by_cases hsl : slot < st3.low
              · have hslI : decide ((slot : Int) < (st3.low : Int)) = true := decide_eq_true (by omega)
                have cG := gone ⟨slot, rlow, rrel, log, ra, rl, rc⟩ s5.drew.blk
                unfold rcv at cG
                have CG := hide cG
                have EQ2 : putP st3 ⟨slot, rlow, rrel, log, ra, rl, rc⟩ = st3 := if_pos hsl
                have HEQ2 := hide (HEQ.out.trans EQ2)
                have FIN' := hide FIN
                clear cG s5 FIN EQ2
                go_wp2_with fail
                go_region
                go_wp2_with fail
                go_at_call 21
                refine CG.out.mono ?_
                rintro e w6 ⟨rfl, hf⟩
                have E := hide (FIN'.out w6 _ _ _ _ (S5.out.drew.quiet hf))
                clear CG hf FIN'
                go_wp2_with fail
                (try simp only [Exit.inBlock, Exit.then])
                refine bodyPost_ret (results_none rfl _ _ _) rfl ?_
                exact ⟨rfl, by rw [HEQ2.out]; exact E.out⟩
              · obtain ⟨W5, hW5⟩ : ∃ W5, W5 = wc := ⟨_, rfl⟩
                subst hW5
                have hslI : decide ((slot : Int) < (st3.low : Int)) = false := decide_eq_false (by omega)
                have EQ2 : putP st3 ⟨slot, rlow, rrel, log, ra, rl, rc⟩ = { st3 with L := upd st3.L slot (some ⟨slot, rlow, rrel, log, ra, rl, rc⟩) } := if_neg hsl
                have HEQ2 := hide (HEQ.out.trans EQ2)
                have d5 := s5.blk.c5
                have hpm : PM W5 30 .u64 16 lm1 (lvf st3.L) := by
                  rcases s5.live with ⟨e, _⟩ | ⟨m, e, h⟩
                  · cases e
                  · cases e; exact h
                have LK := PM.lookOk (show PM W5.drew.drew 30 .u64 16 lm1 (lvf st3.L) from hpm) keyed30 Yba.underlying69 (zero52 _) hs16 (key30 hs16)
                have LK2 := PM.lookOk (show PM (W5.alloc (.cells #[.int .u64 0, .int .u64 0, .int .u32 0, .int .u64 0, .slice none 0 0, .int .u64 0, .int .u64 0, .int .u64 0, .int .u32 0, .int .u64 0, .int .u32 0, .slice none 0 0] 52)).drew.drew 30 .u64 16 lm1 (lvf st3.L) from hpm.same (Below.heap_alloc _ _ _ hpm.lt)) keyed30 Yba.underlying69 (zero52 _) hs16 (key30 hs16)
                obtain ⟨q, bo, e1, e2, _⟩ := lvf_zero st3.L slot
                rw [e1, e2] at LK LK2
                have cG := gone q (s5.drew.drew.alloc (.cells (rcl q).toArray 52)).blk
                have MID := hide (fun (w7 : World) (hf : Fr (fun _ => False) (W5.drew.drew.alloc (.cells (rcl q).toArray 52)) w7) => (s5.drew.drew.alloc (.cells (rcl q).toArray 52)).quiet hf)
                have MID0 := hide (s5.drew.drew.alloc (.cells (rcl q).toArray 52))
                obtain ⟨qs, ql, qr, qg, qa, qn, qc⟩ := q
                unfold rcv at LK LK2 cG
                unfold rcl at cG MID MID0
                simp only at LK LK2 cG MID MID0
                have CG := hide cG
                have FIN' := hide FIN
                have nlt : w.heap.size < W5.heap.size := cell_lt b0'
                have nlt1 : w.heap.size + 1 < W5.heap.size := cell_lt y0
                have slt := s5.blk.lt
                clear cG FIN EQ2 s5 hpm e1 e2 z0 z1 z2 z3 z4 z5 z6 z7 z8 z9 z10 z11
                go_wp2_with fail
                go_region
                go_upto_region 22 with fail
                go_cut [12, 13] from 119 (fun s12 s13 wx => s12 = .pointer (some ⟨W5.heap.size, 0, none⟩) ∧ s13 = .bool bo ∧ wx = W5.drew.drew.alloc (.cells #[.int .u64 (qs : Int), .int .u64 0, .int .u32 0, .int .u64 (ql : Int), .slice qa qn qc, .int .u64 (qr : Int), .int .u64 (qg : Int), .int .u64 0, .int .u32 0, .int .u64 0, .int .u32 0, .slice none 0 0] 52))
                case first =>
                  go_region
                  all_goals (go_wp2_with fail; go_meet; case rel => exact ⟨rfl, rfl, rfl⟩)
                case rest =>
                obtain ⟨rfl, rfl, hw⟩ := hcut
                subst hw
                clear LK LK2
                go_upto_if 139 with fail
                go_cut [12, 13] from 119 (fun _ _ wx => StW B w.heap.size W0 sb st3 mv1 (.map (some lm1)) hv2 wx)
                case first =>
                  cases bo with
                  | false =>
                    go_wp2_with fail
                    go_meet
                    case rel => exact MID0.out
                  | true =>
                    go_wp2_with fail
                    go_at_call 21
                    refine CG.out.mono ?_
                    rintro e w6 ⟨rfl, hf⟩
                    have E := hide (MID.out w6 hf)
                    clear hf CG
                    go_wp2_with fail
                    go_meet
                    case rel => exact E.out
                case rest =>
                  have s7 := hcut
                  have S7 := hide s7
                  clear S5 MID MID0 CG b0' y0 d1 d5 nlt nlt1 slt
                  have b0' := s7.box (Nat.le_refl _) b0
                  have y0 : wc.cell? ⟨w.heap.size + 1, 0, none⟩ = some (.int .u64 (slot : Int)) := s7.box (by omega) (cell_of X1.out rfl)
                  have d5 := s7.blk.c5
                  have z0 : wc.cell? ⟨w.heap.size + 1 + 1, 0, none⟩ = some (.int .u64 (slot : Int)) := s7.box (by omega) (cell_of X2.out rfl)
                  have z1 : wc.cell? ⟨w.heap.size + 1 + 1, 1, none⟩ = some (.int .u64 0) := s7.box (by omega) (cell_of X2.out rfl)
                  have z2 : wc.cell? ⟨w.heap.size + 1 + 1, 2, none⟩ = some (.int .u32 0) := s7.box (by omega) (cell_of X2.out rfl)
                  have z3 : wc.cell? ⟨w.heap.size + 1 + 1, 3, none⟩ = some (.int .u64 (rlow : Int)) := s7.box (by omega) (cell_of X2.out rfl)
                  have z4 : wc.cell? ⟨w.heap.size + 1 + 1, 4, none⟩ = some (.slice ra rl rc) := s7.box (by omega) (cell_of X2.out rfl)
                  have z5 : wc.cell? ⟨w.heap.size + 1 + 1, 5, none⟩ = some (.int .u64 (rrel : Int)) := s7.box (by omega) (cell_of X2.out rfl)
                  have z6 : wc.cell? ⟨w.heap.size + 1 + 1, 6, none⟩ = some (.int .u64 (log : Int)) := s7.box (by omega) (cell_of X2.out rfl)
                  have z7 : wc.cell? ⟨w.heap.size + 1 + 1, 7, none⟩ = some (.int .u64 0) := s7.box (by omega) (cell_of X2.out rfl)
                  have z8 : wc.cell? ⟨w.heap.size + 1 + 1, 8, none⟩ = some (.int .u32 0) := s7.box (by omega) (cell_of X2.out rfl)
                  have z9 : wc.cell? ⟨w.heap.size + 1 + 1, 9, none⟩ = some (.int .u64 0) := s7.box (by omega) (cell_of X2.out rfl)
                  have z10 : wc.cell? ⟨w.heap.size + 1 + 1, 10, none⟩ = some (.int .u32 0) := s7.box (by omega) (cell_of X2.out rfl)
                  have z11 : wc.cell? ⟨w.heap.size + 1 + 1, 11, none⟩ = some (.slice none 0 0) := s7.box (by omega) (cell_of X2.out rfl)
                  have hpm : PM wc.drew 30 .u64 16 lm1 (lvf st3.L) := by
                    rcases s7.live with ⟨e, _⟩ | ⟨m, e, h⟩
                    · cases e
                    · cases e; exact h
                  obtain ⟨w8, pu, hp1, hp2⟩ := hpm.put keyed30 Yba.underlying69 hs16 (key30 hs16) (by decide) (rcv ⟨slot, rlow, rrel, log, ra, rl, rc⟩)
                  have E := hide (FIN'.out w8 _ _ _ _ (s7.drew.put hp1 hp2))
                  unfold rcv at pu
                  simp only at pu
                  clear s7 hpm hp1 hp2 FIN' hcut
                  go_wp2_with fail
                  go_region
                  go_wp2_with fail
                  go_end0
                  exact ⟨rfl, by rw [HEQ2.out]; exact E.out⟩

end Go.Proofs.Ybulkbcrm.model
