/-
  Seat b2686aD: whether a request would wait for its own transaction: the walk ends and keeps the state.
-/
import Derived.Test.YbulkbcpiDoorRHold
namespace Go.Proofs.YbulkbcpiDoor.rel
open Go.RowKit

theorem nodup_len : ∀ (n : Nat) (l : List Nat), l.Nodup → (∀ x ∈ l, x < n) → l.length ≤ n
  | 0, l, _, h => by
    cases l with
    | nil => simp
    | cons a l => exact absurd (h a (by simp)) (by omega)
  | n + 1, l, hn, h => by
    by_cases hm : n ∈ l
    · have h1 := nodup_len n (l.erase n) (hn.erase n) (fun x hx => by
        have h2 := h x (List.mem_of_mem_erase hx)
        have h3 : x ≠ n := by rintro rfl; exact (List.Nodup.not_mem_erase hn) hx
        omega)
      rw [List.length_erase_of_mem hm] at h1
      omega
    · have := nodup_len n l hn (fun x hx => by
        have h2 := h x hx
        have h3 : x ≠ n := by rintro rfl; exact hm hx
        omega)
      omega

def lenOf : Value → Nat
  | .slice _ n _ => n
  | _ => 0

structure WfI (ow : Nat → Option Nat) (w : World) (s : St) (g : Nat) (zs V : List Nat) (v : Value) (wr : World) : Prop where
  ints : Ints wr 0 v zs
  vm : VM wr g (V.map (blk s.qb))
  fr : Fr ow w ow wr []
  gge : w.heap.size ≤ g
  own : ∀ k, v.ownBlock = some k → w.heap.size ≤ k ∧ k ≠ g
  nd : V.Nodup
  live : ∀ j ∈ V, j < 3 ∧ ∃ b, s.qb j = some b
  lt : ∀ z ∈ zs, z < 4
  len : zs.length ≤ 8 * (V.length + 1)

theorem hds_lt {l : List Req} {ex n : Nat} (h : ∀ r ∈ l, r.y < n) : ∀ z ∈ hds l ex, z < n := by
  intro z hz
  simp [hds] at hz
  obtain ⟨r, ⟨hr, _⟩, rfl⟩ := hz
  exact h r hr

theorem Ints.form0 {w : World} {v : Value} {zs : List Nat} (h : Ints w 0 v zs) : ∃ a c, v = .slice a zs.length c := by
  rcases h.form with ⟨rfl, rfl⟩ | ⟨g, cap, rfl, _⟩
  · exact ⟨_, _, rfl⟩
  · exact ⟨_, _, rfl⟩

theorem Ints.pop {w : World} {v : Value} {zs : List Nat} {z : Nat} (h : Ints w 0 v (zs ++ [z])) : ∃ k cap, v = .slice (some ⟨k, 0, none⟩) (zs.length + 1) cap ∧ k < w.heap.size ∧ zs.length + 1 ≤ cap ∧ w.cell? ⟨k, zs.length, none⟩ = some (.int .i64 (z : Int)) ∧ Ints w 0 (.slice (some ⟨k, 0, none⟩) zs.length cap) zs := by
  rcases h.2 with ⟨rfl, h0⟩ | ⟨g, cap, cur, rfl, hb, hg, h3, h4, h5, h6⟩
  · simp at h0
  · rw [List.length_append, List.length_singleton] at h3 h6
    refine ⟨g, cap, by simp, heap_lt hg, h3, ?_, ⟨by simp, .inr ⟨g, cap, cur, rfl, hb, hg, by omega, h4, h5, ?_⟩⟩⟩
    · rw [cell_of_row _ _ _ _ _ _ hg]
      have : (List.map iv (zs ++ [z]))[zs.length]? = some (.int .i64 (z : Int)) := by simp [iv]
      rw [← h6, List.getElem?_take, if_pos (by omega), Array.getElem?_toList] at this
      exact this
    · have := congrArg (List.take zs.length) h6
      rw [List.take_take, List.map_append, List.take_left' (by simp), Nat.min_eq_left (by omega)] at this
      rw [Nat.mul_one]
      exact this

theorem row_form0 {w : World} {T : TypeId} {v : Value} {n : Nat} {xs : List Value} (h : w.ownsRow 0 T 1 v n xs) : ∃ a c, v = .slice a n c := by
  rcases h.2 with ⟨rfl, rfl⟩ | ⟨g, cap, cur, rfl, _⟩
  · exact ⟨none, 0, rfl⟩
  · exact ⟨_, cap, rfl⟩

theorem Hold.fr {ow : Nat → Option Nat} {w w' : World} {v v' : Value} (h : Hold w v w' v') (hf : Fresh ow w) {w0 : World} (f : Fr ow w0 ow w []) (ho : ∀ k, v.ownBlock = some k → w0.heap.size ≤ k) : Fr ow w0 ow w' [] := by
  have h1 := h.size
  have h2 := f.size
  refine ⟨h.os.trans f.os, h.tape.trans f.tape, h.output.trans f.output, by omega, fun _ _ => rfl, fun k hk => hf k (by omega), fun k hk hn => ?_⟩
  rw [h.keep k (by omega) (fun e => absurd (ho k e) (by omega)), f.keep k hk hn]

theorem wf_put {ow : Nat → Option Nat} {w wr w2 : World} {g : Nat} (f : Fr ow w ow wr []) (hf : Fresh ow w) (ht : wr.mapTurned w2 g) (hg : w.heap.size ≤ g) : Fr ow w ow w2 [] := by
  have hs := f.size
  have hG := ht.grown
  have hs2 := hG.size
  refine ⟨hG.os.trans f.os, hG.tape.trans f.tape, hG.output.trans f.output, by omega, fun _ _ => rfl, fun k hk => hf k (by omega), fun k hk hn => ?_⟩
  rw [hG.block k (by omega) (fun e => by cases e; omega), f.keep k hk hn]

theorem wf_step {ow : Nat → Option Nat} {w : World} {M qm tm : Nat} {s : St} (h : Rep ow w M qm tm s) {g : Nat} {zs V : List Nat} {v : Value} {wr : World} (I : WfI ow w s g zs V v wr) {j c z : Nat} (hj : j < 3) (hjc : s.qb j = some c) (hjV : j ∉ V) (hlt : ∀ r ∈ s.gr j, r.y < 4) (hgl : (s.gr j).length ≤ 8) (hlen : zs.length + 1 ≤ 8 * (V.length + 1))
    {w2 w3 : World} {v3 : Value} (hv : VM w2 g (V.map (blk s.qb) ++ [c])) (ht : wr.mapTurned w2 g) (hh : HoldR w2 v (zs ++ hds (s.gr j) z) v3 w3) :
    WfI ow w s g (zs ++ hds (s.gr j) z) (V ++ [j]) v3 w3 ∧ (zs ++ hds (s.gr j) z).length ≤ zs.length + 8 ∧ V.length + 1 ≤ 3 ∧ msize w3 g = V.length + 1 := by
  have f2 := wf_put I.fr h.fresh ht I.gge
  obtain ⟨hI, hH⟩ := hh
  have hg2 := hv.lt
  have f3 : Fr ow w ow w3 [] := hH.fr (fun k hk => h.fresh k (by have := f2.size; omega)) f2 (fun k e => (I.own k e).1)
  have hl := hds_len (s.gr j) z
  have hnd : (V ++ [j]).Nodup := by
    rw [List.nodup_append]
    exact ⟨I.nd, by simp, fun a ha b hb => by simp at hb; subst hb; rintro rfl; exact hjV ha⟩
  have hlive : ∀ x ∈ V ++ [j], x < 3 ∧ ∃ b, s.qb x = some b := by
    intro x hx
    rw [List.mem_append, List.mem_singleton] at hx
    rcases hx with hx | rfl
    · exact I.live x hx
    · exact ⟨hj, c, hjc⟩
  have hv3 : VM w3 g ((V ++ [j]).map (blk s.qb)) := by
    have : (V ++ [j]).map (blk s.qb) = V.map (blk s.qb) ++ [c] := by simp [blk, hjc]
    rw [this]
    exact hv.same (hH.keep g hg2 (fun e => (I.own g e).2 rfl))
  have h3 := nodup_len 3 _ hnd (fun x hx => (hlive x hx).1)
  rw [List.length_append, List.length_singleton] at h3
  refine ⟨⟨hI, hv3, f3, I.gge, fun k e => ?_, hnd, hlive, fun x hx => ?_, ?_⟩, by rw [List.length_append]; omega, h3, by rw [hv3.size]; simp⟩
  · rcases hH.pos k e with e1 | e1
    · exact I.own k e1
    · have := f2.size
      exact ⟨by omega, by omega⟩
  · rw [List.mem_append] at hx
    rcases hx with hx | hx
    · exact I.lt x hx
    · exact hds_lt hlt x hx
  · rw [List.length_append, List.length_append, List.length_singleton]
    omega

set_option maxRecDepth 50000 in
set_option maxHeartbeats 4000000 in
theorem waitsFor {ow : Nat → Option Nat} {w : World} {M qm tm : Nat} {s : St} (h : Rep ow w M qm tm s) {i b : Nat} (hi : i < 3) (hb : s.qb i = some b) (y : Nat) (hgr : ∀ j, j < 3 → ∀ r ∈ s.gr j, r.y < 4) (hgl : ∀ j, j < 3 → (s.gr j).length ≤ 8)
    (hwl : ∀ z, z < 4 → ∀ j, s.wl z = some j → j < 3 ∧ ∃ b, s.qb j = some b) :
    Calls Ybad.prog 39 #[.pointer (some ⟨M, 0, none⟩), .pointer (some ⟨b, 0, none⟩), .int .i64 (y : Int)] w fun e w' => ∃ c : Bool, e = .returned (.bool c) ∧ Fr ow w ow w' [] := by
  obtain ⟨gv, wv, q⟩ := h.qs i hi b hb
  have H1 : Aside (Calls Ybad.prog 55 #[.pointer (some ⟨b, 0, none⟩), .slice none 0 0, .int .i64 (y : Int)] w fun e w' => ∃ v', e = .returned v' ∧ HoldR w (.slice none 0 0) ([] ++ hds (s.gr i) y) v' w') :=
    holdersF (zs := []) q.c.2.1 q.gseg (World.ownsRow_nil _ _ _ _) (fun g _ e => by cases e) y (by have := hgl i hi; simp; omega)
  have ST : Aside (∀ v1 w1, HoldR w (.slice none 0 0) ([] ++ hds (s.gr i) y) v1 w1 → WfI ow w s w1.heap.size (hds (s.gr i) y) [] v1 (w1.alloc (.map #[] 0))) := by
    intro v1 w1 ⟨hI, hH⟩
    have hsz := hH.size
    have f1 : Fr ow w ow w1 [] := hH.fr h.fresh (Fr.refl h.fresh []) (fun k e => by cases e)
    refine ⟨World.ownsRow.alloc hI _, ⟨#[], 0, heap_new _ _, by simp⟩, f1.alloc _, hsz, fun k e => ?_, List.nodup_nil, by simp, hds_lt (hgr i hi), ?_⟩
    · have hl := ownsRow_lt hI e
      rcases hH.pos k e with e1 | e1
      · cases e1
      · exact ⟨e1, by omega⟩
    · have := hds_len (s.gr i) y
      have := hgl i hi
      simp
      omega
  clear hb q
  go_enter Ybad.func39, Ybad.ntmps39
  go_wp2_with fail
  refine H1.out.mono ?_
  rintro e w1 ⟨v1, rfl, hold⟩
  have S1 := hide (ST.out _ _ hold)
  clear hold ST H1
  obtain ⟨a1, c1, rfl⟩ := S1.out.ints.form0
  obtain ⟨g, hg⟩ : ∃ g, w1.heap.size = g := ⟨_, rfl⟩
  have S2 : Aside (WfI ow w s g (hds (s.gr i) y) [] (.slice a1 (hds (s.gr i) y).length c1) (w1.alloc (.map #[] 0))) := by rw [← hg]; exact S1.out
  clear S1
  have hmk : (Instr.makeMap 117 none).run Ybad.prog w1 = .ok (.map (some g)) (w1.alloc (.map #[] 0)) := by rw [← hg]; rfl
  clear hg
  have REP : Aside (Rep ow w M qm tm s) := h
  have HG : Aside (∀ j, j < 3 → ∀ r ∈ s.gr j, r.y < 4) := hgr
  have HL : Aside (∀ j, j < 3 → (s.gr j).length ≤ 8) := hgl
  have HW : Aside (∀ z, z < 4 → ∀ j, s.wl z = some j → j < 3 ∧ ∃ b, s.qb j = some b) := hwl
  clear h hgr hgl hwl
  go_wp2
  clear hmk
  go_loopw [7] (fun v wr => ∃ zs V v1, v1 = v ∧ WfI ow w s g zs V v1 wr) (fun v wr => (3 - msize wr g) * 9 + lenOf v)
  case atStart => exact ⟨_, _, _, rfl, S2.out⟩
  case round =>
    obtain ⟨zs0, V, v1, rfl, I0⟩ := hrel
    clear S2
    have hVl : V.length ≤ 3 := nodup_len 3 V I0.nd (fun x hx => (I0.live x hx).1)
    have hms : msize wr g = V.length := by have := I0.vm.size; simpa using this
    rcases List.eq_nil_or_concat zs0 with rfl | ⟨zs, z, rfl⟩
    · obtain ⟨a2, c2, rfl⟩ := I0.ints.form0
      have E : Aside (Fr ow w ow wr []) := I0.fr
      clear I0
      go_wp2
      go_ret
      exact ⟨_, rfl, E.out⟩
    · rw [List.concat_eq_append] at I0
      obtain ⟨k, cap, hv1, hkl, hkc, hcz, hI⟩ := I0.ints.pop
      have hz4 : z < 4 := I0.lt z (by simp)
      have hlen := I0.len
      rw [List.length_append, List.length_singleton] at hlen
      obtain ⟨n, hn⟩ : ∃ n, zs.length = n := ⟨_, rfl⟩
      rw [hn] at hv1
      subst hv1
      have hown := I0.own k rfl
      have I : WfI ow w s g zs V (.slice (some ⟨k, 0, none⟩) n cap) wr := by
        rw [← hn]
        exact ⟨hI, I0.vm, I0.fr, I0.gge, fun k' e => by simp [Value.ownBlock] at e; subst e; exact hown, I0.nd, I0.live, fun x hx => I0.lt x (by simp [hx]), by omega⟩
      clear I0 hI
      rw [hn] at hcz hkc hlen
      have WI : Aside (WfI ow w s g zs V (.slice (some ⟨k, 0, none⟩) n cap) wr) := I
      have hMb : ∃ sqv stv, Mg wr M qm tm s.lo s.wa sqv stv := by
        obtain ⟨sqv, stv, mg, _⟩ := REP.out.mg
        exact ⟨sqv, stv, mg.fr I.fr REP.out.oM (by simp)⟩
      obtain ⟨sqv, stv, mg⟩ := hMb
      have m1 : wr.cell? ⟨M, 1, none⟩ = some (.map (some tm)) := mg.c.2.1
      have sM := heap_lt mg
      have LK0 : Aside ((Instr.lookup 55 (.map (some tm)) (.int .i64 (z : Int)) false).run Ybad.prog wr = .ok (pv (s.tb z)) wr) := (REP.out.pt.fr I.fr REP.out.ot (by simp)).look keyedI Ybad.underlying55 (zero62 _) hz4 (keyT hz4)
      clear mg
      by_cases hzy : z = y
      · subst hzy
        clear I
        go_wp2
        go_ret
        exact ⟨_, rfl, WI.out.fr⟩
      · have hzb : ((z : Int) == (y : Int)) = false := by rw [beq_eq_false_iff_ne]; omega
        cases htb : s.tb z with
        | none =>
          have LK : Aside ((Instr.lookup 55 (.map (some tm)) (.int .i64 (z : Int)) false).run Ybad.prog wr = .ok (.pointer none) wr) := by have := LK0.out; rw [htb] at this; exact this
          clear I LK0 htb
          go_wp2_with (refine wpList_lookup_run _ rfl (.tmp 37) (.tmp 38) 55 rfl _ _ _ rfl rfl LK.out ?_)
          go_roundw
          case rel => exact ⟨_, _, _, rfl, WI.out⟩
          case measure => simp [lenOf]
        | some t =>
          have LK : Aside ((Instr.lookup 55 (.map (some tm)) (.int .i64 (z : Int)) false).run Ybad.prog wr = .ok (.pointer (some ⟨t, 0, none⟩)) wr) := by have := LK0.out; rw [htb] at this; exact this
          obtain ⟨hv, wv2, x0⟩ := REP.out.ts z hz4 t htb
          have x := x0.fr I.fr (by simp)
          clear x0
          have st := heap_lt x.blk
          obtain ⟨xa, xc, rfl⟩ := row_form0 x.wrow
          cases hwz : s.wl z with
          | none =>
            have t1 : wr.cell? ⟨t, 1, none⟩ = some (.slice xa 0 xc) := by rw [x.c.2.1, hwz]; rfl
            clear I LK0 htb x hwz
            go_wp2_with (refine wpList_lookup_run _ rfl (.tmp 37) (.tmp 38) 55 rfl _ _ _ rfl rfl LK.out ?_)
            refine wp_loop_rounds 1 ?_
            rw [rounds_succ]
            go_wp2
            go_roundw
            case rel => exact ⟨_, _, _, rfl, WI.out⟩
            case measure => simp [lenOf]
          | some j =>
            obtain ⟨hj3, c, hjc⟩ := HW.out z hz4 j hwz
            have t1 : wr.cell? ⟨t, 1, none⟩ = some (.slice xa 1 xc) := by rw [x.c.2.1, hwz]; rfl
            have hxr := x.wrow
            rw [hwz] at hxr
            have hblk : blk s.qb j = c := by simp [blk, hjc]
            simp only [Option.toList_some, List.map_cons, List.map_nil, hblk] at hxr
            obtain ⟨gx, hxa, hxl, hx0⟩ : ∃ gx, xa = some ⟨gx, 0, none⟩ ∧ gx < wr.heap.size ∧ wr.cell? ⟨gx, 0, none⟩ = some (.pointer (some ⟨c, 0, none⟩)) := by
              rcases ptrs_form (l := [c]) hxr with ⟨_, h0⟩ | ⟨gx, cap', e, h1, _, _, h2⟩
              · simp at h0
              · simp at e
                exact ⟨gx, e.1, h1, h2 0 c rfl⟩
            subst hxa
            have hxc : 1 ≤ xc := by
              rcases hxr.2 with ⟨_, h0⟩ | ⟨_, cap', _, e, _, _, h3, _⟩
              · simp at h0
              · simp at e h3; omega
            obtain ⟨gv2, wv3, q0⟩ := REP.out.qs j hj3 c hjc
            have qj := q0.fr I.fr (by simp)
            have hVb : ∀ b ∈ V.map (blk s.qb), ∃ cs, wr.heap[b]? = some (.cells cs 88 (0, 0)) := by
              intro b hb
              rw [List.mem_map] at hb
              obtain ⟨j', hj', rfl⟩ := hb
              obtain ⟨h1, b, h2⟩ := I.live j' hj'
              obtain ⟨_, _, q'⟩ := REP.out.qs j' h1 b h2
              have : blk s.qb j' = b := by simp [blk, h2]
              rw [this]
              exact ⟨_, (q'.fr I.fr (by simp)).blk⟩
            have hin : c ∈ V.map (blk s.qb) ↔ j ∈ V := by
              constructor
              · intro hm
                rw [List.mem_map] at hm
                obtain ⟨j', hj', e⟩ := hm
                obtain ⟨h1, b, h2⟩ := I.live j' hj'
                have e2 : blk s.qb j' = b := by simp [blk, h2]
                rw [e2] at e
                subst e
                have := REP.out.qinj j' j b h1 hj3 h2 hjc
                rw [← this]; exact hj'
              · intro hm
                exact List.mem_map.2 ⟨j, hm, hblk⟩
            by_cases hjV : j ∈ V
            · have LV : Aside ((Instr.lookup 117 (.map (some g)) (.pointer (some ⟨c, 0, none⟩)) false).run Ybad.prog wr = .ok (.bool true) wr) := by
                have := I.vm.look qj.blk hVb
                rw [decide_eq_true (hin.2 hjV)] at this
                exact this
              clear I LK0 htb x hwz hxr qj q0 hVb hin
              go_wp2_with (refine wpList_lookup_run _ rfl (.tmp 37) (.tmp 38) 55 rfl _ _ _ rfl rfl LK.out ?_)
              refine wp_loop_rounds 2 ?_
              rw [rounds_succ]
              go_wp2_with (refine wpList_lookup_run _ rfl (.tmp 51) (.tmp 52) 117 rfl _ _ _ rfl rfl LV.out ?_)
              rw [rounds_succ]
              go_wp2
              go_roundw
              case rel => exact ⟨_, _, _, rfl, WI.out⟩
              case measure => simp [lenOf]
            · have LV : Aside ((Instr.lookup 117 (.map (some g)) (.pointer (some ⟨c, 0, none⟩)) false).run Ybad.prog wr = .ok (.bool false) wr) := by
                have := I.vm.look qj.blk hVb
                rw [decide_eq_false (fun hm => hjV (hin.1 hm))] at this
                exact this
              obtain ⟨w2, hput, hv2, ht2⟩ := I.vm.put qj.blk hVb (fun hm => hjV (hin.1 hm))
              have PU : Aside ((Instr.mapUpdate 117 (.map (some g)) (.pointer (some ⟨c, 0, none⟩)) (.bool true)).run Ybad.prog wr = .ok () w2) := hput
              have f2 := wf_put I.fr REP.out.fresh ht2 I.gge
              have qj2 := q0.fr f2 (by simp)
              have hk2 : w2.heap[k]? = wr.heap[k]? := ht2.grown.block k hkl (fun e => hown.2 (by cases e; rfl))
              have hI2 : Ints w2 0 (.slice (some ⟨k, 0, none⟩) n cap) zs := ownsRow_same I.ints (fun k' e => by simp [Value.ownBlock] at e; subst e; exact hk2)
              have H2 : Aside (Calls Ybad.prog 55 #[.pointer (some ⟨c, 0, none⟩), .slice (some ⟨k, 0, none⟩) n cap, .int .i64 (z : Int)] w2 fun e w' => ∃ v', e = .returned v' ∧ HoldR w2 (.slice (some ⟨k, 0, none⟩) n cap) (zs ++ hds (s.gr j) z) v' w') := by
                refine holdersF qj2.c.2.1 qj2.gseg hI2 (fun g' e1 e2 => ?_) z (by have := HL.out j hj3; omega)
                simp [Value.ownBlock] at e2
                subst e2
                have := ownsRow_lt q0.grow e1
                omega
              have STEP : Aside (∀ v3 w3, HoldR w2 (.slice (some ⟨k, 0, none⟩) n cap) (zs ++ hds (s.gr j) z) v3 w3 → WfI ow w s g (zs ++ hds (s.gr j) z) (V ++ [j]) v3 w3 ∧ (zs ++ hds (s.gr j) z).length ≤ zs.length + 8 ∧ V.length + 1 ≤ 3 ∧ msize w3 g = V.length + 1) :=
                fun v3 w3 hh => wf_step REP.out I hj3 hjc hjV (HG.out j hj3) (HL.out j hj3) (by omega) hv2 ht2 hh
              clear I LK0 htb x hwz hxr qj q0 hVb hin hput hv2 ht2 f2 qj2 hI2 hk2
              go_wp2_with (refine wpList_lookup_run _ rfl (.tmp 37) (.tmp 38) 55 rfl _ _ _ rfl rfl LK.out ?_)
              refine wp_loop_rounds 2 ?_
              rw [rounds_succ]
              go_wp2_with (first | refine wpList_lookup_run _ rfl (.tmp 51) (.tmp 52) 117 rfl _ _ _ rfl rfl LV.out ?_ | refine wpList_mapUpdate_run _ rfl (.tmp 55) (.tmp 56) (.const (.bool true)) 117 rfl _ _ _ rfl rfl rfl w2 PU.out ?_)
              refine H2.out.mono ?_
              rintro e w3 ⟨v3, rfl, hold⟩
              obtain ⟨J, l1, l2, l3⟩ := STEP.out _ _ hold
              obtain ⟨a3, c3, rfl⟩ := J.ints.form0
              obtain ⟨n3, hn3⟩ : ∃ n3, (zs ++ hds (s.gr j) z).length = n3 := ⟨_, rfl⟩
              rw [hn3] at J l1 ⊢
              have WJ : Aside (WfI ow w s g (zs ++ hds (s.gr j) z) (V ++ [j]) (.slice a3 n3 c3) w3) := J
              clear J hold STEP H2 hn3
              go_wp2
              rw [rounds_succ]
              go_wp2
              go_roundw
              case rel => exact ⟨_, _, _, rfl, WJ.out⟩
              case measure => simp [lenOf, l3, hms]; omega

end Go.Proofs.YbulkbcpiDoor.rel
