/-
  Seat b2686aD: whom a request would wait for: rows of transactions.
-/
import Derived.Test.YbulkbcpiDoorRApp
namespace Go.Proofs.YbulkbcpiDoor.rel
open Go.RowKit

def iv (y : Nat) : Value := .int .i64 (y : Int)

/-- A row of numbers of the call's own. -/
def Ints (w : World) (base : Nat) (v : Value) (zs : List Nat) : Prop := w.ownsRow base 3 1 v zs.length (zs.map iv)

theorem Ints.form {w : World} {base : Nat} {v : Value} {zs : List Nat} (h : Ints w base v zs) : (v = .slice none 0 0 ∧ zs = []) ∨ ∃ g cap, v = .slice (some ⟨g, 0, none⟩) zs.length cap ∧ base ≤ g ∧ g < w.heap.size ∧ zs.length ≤ cap ∧ ∀ i z, zs[i]? = some z → w.cell? ⟨g, i, none⟩ = some (iv z) := by
  rcases h.2 with ⟨rfl, h0⟩ | ⟨g, cap, cur, rfl, hb, hg, h3, h4, h5, h6⟩
  · exact .inl ⟨rfl, List.length_eq_zero_iff.1 h0⟩
  · refine .inr ⟨g, cap, rfl, hb, heap_lt hg, h3, fun i z hz => ?_⟩
    rw [cell_of_row _ _ _ _ _ _ hg]
    have hi := (List.getElem?_eq_some_iff.1 hz).1
    have : (zs.map iv)[i]? = some (iv z) := by rw [List.getElem?_map, hz]; rfl
    rw [← h6, List.getElem?_take, if_pos (by omega), Array.getElem?_toList] at this
    exact this

theorem Ints.lenle {w : World} {base : Nat} {v : Value} {zs : List Nat} (h : Ints w base v zs) : zs.length ≤ maxLen := by
  rcases h.2 with ⟨rfl, h0⟩ | ⟨g, cap, cur, rfl, hb, hg, h3, h4, h5, h6⟩
  · rw [h0]; exact Nat.zero_le _
  · omega

set_option maxRecDepth 50000 in
set_option maxHeartbeats 1000000 in
theorem idxInt {w : World} {base : Nat} {v : Value} {zs : List Nat} (h : Ints w base v zs) (y : Nat) :
    Calls Ybad.prog 60 #[v, .int .i64 y] w fun e w' => (∃ i : Int, e = .returned (.int .i64 i)) ∧ w' = w := by
  have hlm := h.lenle
  simp only [maxLen] at hlm
  rcases h.form with ⟨rfl, rfl⟩ | ⟨g, cap, rfl, hb, hg, hcap, hc⟩
  · go_enter Ybad.func60, Ybad.ntmps60
    go_wp2
    refine wp_loop_rounds 1 ?_
    rw [rounds_succ]
    go_wp2
    go_ret
    exact ⟨⟨_, rfl⟩, rfl⟩
  · have HC : Aside (∀ i z, zs[i]? = some z → w.cell? ⟨g, i, none⟩ = some (iv z)) := hc
    obtain ⟨n, hn⟩ : ∃ n, zs.length = n := ⟨_, rfl⟩
    rw [hn] at hlm hcap ⊢
    have HN : Aside (zs.length = n) := hn
    clear hc h hn
    go_enter Ybad.func60, Ybad.ntmps60
    go_wp2
    go_loop [8] (fun i => ∃ k : Nat, k ≤ n ∧ i = .int .i64 (k : Int)) (fun i => n - (intOf i).toNat)
    case atStart => exact ⟨0, Nat.zero_le _, rfl⟩
    case round =>
      obtain ⟨k, hk, rfl⟩ := hrel
      by_cases hlt : k < n
      · obtain ⟨z, hz⟩ : ∃ z, zs[k]? = some z := ⟨_, List.getElem?_eq_getElem (by rw [HN.out]; exact hlt)⟩
        have c := HC.out k z hz
        unfold iv at c
        clear hz
        by_cases hy : y = z
        · subst hy
          go_wp2
          go_ret
          exact ⟨⟨_, rfl⟩, rfl⟩
        · have hyb : ((y : Int) == (z : Int)) = false := by rw [beq_eq_false_iff_ne]; omega
          go_wp2
          go_round
          case rel => exact ⟨k + 1, by omega, by go_num⟩
          case measure => simp [intOf]; omega
      · go_wp2
        go_ret
        exact ⟨⟨_, rfl⟩, rfl⟩

theorem contains {w : World} {base : Nat} {v : Value} {zs : List Nat} (h : Ints w base v zs) (y : Nat) :
    Calls Ybad.prog 45 #[v, .int .i64 y] w fun e w' => (∃ c : Bool, e = .returned (.bool c)) ∧ w' = w := by
  have H : Aside (Ints w base v zs) := h
  clear h
  go_enter Ybad.func45, Ybad.ntmps45
  go_wp2_with fail
  refine (idxInt H.out y).mono ?_
  rintro e w1 ⟨⟨i, rfl⟩, rfl⟩
  go_wp2
  go_ret
  exact ⟨⟨_, rfl⟩, rfl⟩


theorem Ints.one {w : World} {base : Nat} {v : Value} {zs : List Nat} (h : Ints w base v zs) (hb : base ≤ w.heap.size) (y : Nat) (hl : zs.length < 1000) {a : Act} {ops : Array Oper} {rest : List Oper} {o : Oper} {Q : Exit → Act → World → Prop} (hgd : o.guard = none) (s x : Operand)
    (ho : o.op = .call { callee := .builtin .append, args := #[s, x], argTypes := #[29, 29] }) (hs : a.eval s = v) {B : Nat} (hx : a.eval x = .slice (some ⟨B, 0, none⟩) 1 1) (hB : w.cell? ⟨B, 0, none⟩ = some (.int .i64 y))
    (hK : ∀ v' w', Ints w' base v' (zs ++ [y]) → w.grownBy w' v.ownBlock → wpList Ybad.prog ops Q rest (a.put o.dst v') w') : wpList Ybad.prog ops Q (o :: rest) a w := by
  obtain ⟨ti, hi, hz0, hz1, hz2⟩ := info_parts Ybad.info3
  refine wpList_append_lies w hgd s x 29 ho base 3 ti _ 1 8 Ybad.underlying29 hi hz0 hz1 hz2 rfl (by decide) v zs.length (zs.map iv) hs h ⟨B, 0, none⟩ 1 1 [.int .i64 y] hx rfl (fun j u hu => ?_) (by simp; rfl) (by omega) (by simp only [maxLen]; omega) (by omega) hb _ rfl ?_
  · cases j with
    | zero => simp at hu; subst hu; rw [Addr.add_lit]; exact hB
    | succ j => simp at hu
  · intro g cap w' h1 h2 _ _
    refine hK _ w' ?_ h2
    unfold Ints
    rw [List.length_append, List.map_append]
    exact h1

theorem Ints.keep {w w' : World} {base : Nat} {v : Value} {zs : List Nat} (h : Ints w base v zs) (o : Obj) (hw : w' = w.alloc o) : Ints w' base v zs := by subst hw; exact World.ownsRow.alloc h o

theorem Below.grow {w w1 w2 : World} {base : Nat} (h : Below base w w1) {row : Option Nat} (hg : w1.grownBy w2 row) (hb : base ≤ w1.heap.size) (hr : ∀ k, row = some k → base ≤ k) : Below base w w2 := h.grown hg hb hr

theorem Ints.above {w : World} {base : Nat} {v : Value} {zs : List Nat} (h : Ints w base v zs) : ∀ k, v.ownBlock = some k → base ≤ k := by
  intro k e
  rcases h.form with ⟨rfl, _⟩ | ⟨g, cap, rfl, hb, _⟩
  · cases e
  · simp [Value.ownBlock] at e; omega

def hds (l : List Req) (ex : Nat) : List Nat := (l.filter (fun r => r.y != ex)).map Req.y

theorem hds_len (l : List Req) (ex : Nat) : (hds l ex).length ≤ l.length := by
  unfold hds
  rw [List.length_map]
  exact List.length_filter_le _ _

theorem hds_step {l : List Req} {k ex : Nat} {r : Req} (h : l[k]? = some r) : hds (l.take (k + 1)) ex = hds (l.take k) ex ++ (if r.y = ex then [] else [r.y]) := by
  unfold hds
  rw [List.take_add_one, h, List.filter_append, List.map_append]
  by_cases h : r.y = ex <;> simp [h]

set_option maxRecDepth 50000 in
set_option maxHeartbeats 2000000 in
/-- The holders other than 'ex', appended. -/
theorem holders {w : World} {base b : Nat} {gv v : Value} {gr : List Req} {zs : List Nat} (hc : w.cell? ⟨b, 1, none⟩ = some gv) (hs : Seg w gv gr) (hz : Ints w base v zs) (hbase : base ≤ w.heap.size) (hgb : ∀ g, gv.ownBlock = some g → g < base) (ex : Nat) (hl : zs.length + gr.length < 500) :
    Calls Ybad.prog 55 #[.pointer (some ⟨b, 0, none⟩), v, .int .i64 ex] w fun e w' => ∃ v', e = .returned v' ∧ Ints w' base v' (zs ++ hds gr ex) ∧ Below base w w' := by
  rcases hs with ⟨rfl, rfl⟩ | ⟨g, off, cap, cur, rfl, hg, hle, hcap, _, hcur⟩
  · go_enter Ybad.func55, Ybad.ntmps55
    go_wp2
    refine wp_loop_rounds 1 ?_
    rw [rounds_succ]
    go_wp2
    go_ret
    exact ⟨_, rfl, by simpa [hds] using hz, Below.refl _ _⟩
  · have HG : Aside (w.heap[g]? = some (.cells cur 83 (0, 0)) ∧ ∀ j u, (rcs gr)[j]? = some u → cur[off + j]? = some u) := ⟨hg, hcur⟩
    have hgl := hgb g rfl
    have HZ : Aside (Ints w base v zs) := hz
    obtain ⟨n, hn⟩ : ∃ n, gr.length = n := ⟨_, rfl⟩
    rw [hn] at hc hle hl
    have HN : Aside (gr.length = n) := hn
    clear hg hcur hz hgb hn
    go_enter Ybad.func55, Ybad.ntmps55
    go_wp2
    go_loopw [14, 1] (fun i bv wr => ∃ (k : Nat) (v1 : Value), k ≤ n ∧ i = .int .i64 (k : Int) ∧ v1 = bv ∧ Ints wr base v1 (zs ++ hds (gr.take k) ex) ∧ Below base w wr) (fun i _ _ => n - (intOf i).toNat)
    case atStart => exact ⟨0, _, Nat.zero_le _, rfl, rfl, by simpa [hds] using HZ.out, Below.refl _ _⟩
    case round =>
      obtain ⟨k, v1, hk, rfl, rfl, hint, hbel⟩ := hrel
      have hws : base ≤ wr.heap.size := Nat.le_trans hbase hbel.size
      by_cases hlt : k < n
      · obtain ⟨r, hr⟩ : ∃ r, gr[k]? = some r := ⟨_, List.getElem?_eq_getElem (by rw [HN.out]; exact hlt)⟩
        obtain ⟨c0, c1, c2, c3⟩ := seg_cells HG.out.1 HG.out.2 hr
        rw [← hbel.cell (p := ⟨g, off + k * 4, none⟩) hgl] at c0
        rw [← hbel.cell (p := ⟨g, off + k * 4 + 1, none⟩) hgl] at c1
        rw [← hbel.cell (p := ⟨g, off + k * 4 + 2, none⟩) hgl] at c2
        rw [← hbel.cell (p := ⟨g, off + k * 4 + 3, none⟩) hgl] at c3
        have hgs : g < wr.heap.size := by omega
        have BE : Aside (Below base w wr) := hbel
        have IN : Aside (Ints wr base v1 (zs ++ hds (gr.take k) ex)) := hint
        have STEP : Aside (hds (gr.take (k + 1)) ex = hds (gr.take k) ex ++ (if r.y = ex then [] else [r.y])) := hds_step hr
        have LEN : Aside ((zs ++ hds (gr.take k) ex).length < 1000) := by
          show (zs ++ hds (gr.take k) ex).length < 1000
          have := hds_len (gr.take k) ex
          rw [List.length_append]
          rw [List.length_take] at this
          omega
        obtain ⟨ry, rm, ru⟩ := r
        simp only at c0 c1 c2
        clear hbel hr hint hc
        by_cases hy : ry = ex
        · subst hy
          go_wp2
          go_roundw
          case rel => exact ⟨k + 1, _, by omega, by go_num, rfl, by rw [STEP.out]; simp only [if_true, List.append_nil]; exact IN.out.keep _ rfl, BE.out.alloc hws _⟩
          case measure => simp [intOf]; omega
        · have hyb : ((ry : Int) == (ex : Int)) = false := by rw [beq_eq_false_iff_ne]; omega
          have hyb2 : ((ry : Int) != (ex : Int)) = true := by rw [bne, hyb]; rfl
          go_wp2_with (at_builtin; refine ((IN.out.keep _ rfl).keep _ rfl).one (by simp; omega) ry LEN.out rfl (.tmp 22) (.tmp 25) rfl rfl (B := wr.heap.size + 1) rfl ?c1 ?_)
          intro v' w' hint' hgrow
          have HI : Aside (Ints w' base v' (zs ++ hds (gr.take (k + 1)) ex)) := by rw [STEP.out, if_neg hy]; exact hint'
          have HB : Aside (Below base w w') := (((BE.out.alloc hws _).alloc (by simp; omega) _).grown hgrow (by simp; omega) IN.out.above)
          clear hint' hgrow
          go_wp2
          go_roundw
          case rel => exact ⟨k + 1, _, by omega, by go_num, rfl, HI.out, HB.out⟩
          case measure => simp [intOf]; omega
      · have hkn : k = n := by omega
        have IN : Aside (Ints wr base v1 (zs ++ hds gr ex)) := by
          have h1 : gr.take k = gr := List.take_of_length_le (by rw [HN.out]; omega)
          rw [h1] at hint
          exact hint
        have BE : Aside (Below base w wr) := hbel
        clear hint hbel
        go_wp2
        go_ret
        exact ⟨_, rfl, IN.out, BE.out⟩


def Cfd (w : World) (base m : Nat) (v' : Value) (w' : World) : Prop := ∃ zs', Ints w' base v' zs' ∧ zs'.length ≤ m ∧ Below base w w'

set_option maxRecDepth 50000 in
set_option maxHeartbeats 4000000 in
theorem conflicting {w : World} {base : Nat} {qv v : Value} {l : List Req} {zs : List Nat} (hs : Seg w qv l) (hqb : ∀ g, qv.ownBlock = some g → g < base) (hz : Ints w base v zs) (hbase : base ≤ w.heap.size) (y m : Nat) (x0 x1 : Int) (hl : zs.length + l.length < 500) :
    Calls Ybad.prog 51 #[v, .int .i64 y, .int .i64 m, qv, .agg #[.int .i64 x0, .int .i64 x1]] w fun e w' => ∃ v', e = .returned v' ∧ Cfd w base (zs.length + l.length) v' w' := by
  have HZ : Aside (Ints w base v zs) := hz
  clear hz
  cases hok : okAll m x0 x1
  · rcases hs with ⟨rfl, rfl⟩ | ⟨g, off, cap, cur, rfl, hg, hle, hcap, _, hcur⟩
    · go_enter Ybad.func51, Ybad.ntmps51
      go_wp2_with fail
      refine (compatAll m x0 x1 _).mono ?_
      rintro e w1 ⟨rfl, rfl⟩
      rw [hok]
      go_wp2
      refine wp_loop_rounds 1 ?_
      rw [rounds_succ]
      go_wp2
      go_ret
      exact ⟨_, rfl, zs, (HZ.out.keep _ rfl).keep _ rfl, by simp, ((Below.refl _ _).alloc hbase _).alloc (by simp; omega) _⟩
    · have HG : Aside (w.heap[g]? = some (.cells cur 83 (0, 0)) ∧ ∀ j u, (rcs l)[j]? = some u → cur[off + j]? = some u) := ⟨hg, hcur⟩
      have hgl := hqb g rfl
      obtain ⟨n, hn⟩ : ∃ n, l.length = n := ⟨_, rfl⟩
      rw [hn] at hle hl ⊢
      have HN : Aside (l.length = n) := hn
      clear hg hcur hqb hn
      go_enter Ybad.func51, Ybad.ntmps51
      go_wp2_with fail
      refine (compatAll m x0 x1 _).mono ?_
      rintro e w1 ⟨rfl, rfl⟩
      rw [hok]
      go_wp2
      go_loopw [19, 0] (fun i bv wr => ∃ (k : Nat) (v1 : Value) (zs1 : List Nat), k ≤ n ∧ i = .int .i64 (k : Int) ∧ v1 = bv ∧ Ints wr base v1 zs1 ∧ zs1.length ≤ zs.length + k ∧ Below base w wr) (fun i _ _ => n - (intOf i).toNat)
      case atStart => exact ⟨0, _, zs, Nat.zero_le _, rfl, rfl, (HZ.out.keep _ rfl).keep _ rfl, by omega, ((Below.refl _ _).alloc hbase _).alloc (by simp; omega) _⟩
      case round =>
        obtain ⟨k, v1, zs1, hk, rfl, rfl, hint, hzl, hbel⟩ := hrel
        have hws : base ≤ wr.heap.size := Nat.le_trans hbase hbel.size
        have BE : Aside (Below base w wr) := hbel
        have IN : Aside (Ints wr base v1 zs1) := hint
        by_cases hlt : k < n
        · obtain ⟨r, hr⟩ : ∃ r, l[k]? = some r := ⟨_, List.getElem?_eq_getElem (by rw [HN.out]; exact hlt)⟩
          obtain ⟨c0, c1, c2, c3⟩ := seg_cells HG.out.1 HG.out.2 hr
          rw [← hbel.cell (p := ⟨g, off + k * 4, none⟩) hgl] at c0
          rw [← hbel.cell (p := ⟨g, off + k * 4 + 1, none⟩) hgl] at c1
          rw [← hbel.cell (p := ⟨g, off + k * 4 + 2, none⟩) hgl] at c2
          rw [← hbel.cell (p := ⟨g, off + k * 4 + 3, none⟩) hgl] at c3
          have hgs : g < wr.heap.size := by omega
          have LEN : Aside (zs1.length < 1000) := by show zs1.length < 1000; omega
          obtain ⟨ry, rm, ru⟩ := r
          simp only at c0 c1 c2
          clear hbel hr hint
          by_cases hy : ry = y
          · subst hy
            go_wp2
            go_roundw
            case rel => exact ⟨k + 1, _, zs1, by omega, by go_num, rfl, IN.out.keep _ rfl, by omega, BE.out.alloc hws _⟩
            case measure => simp [intOf]; omega
          · have hyb : ((ry : Int) == (y : Int)) = false := by rw [beq_eq_false_iff_ne]; omega
            cases hcm : (decide (m = 0) && decide (rm = 0))
            · cases ru
              · go_wp2_with fail
                refine (compat m rm _).mono ?_
                rintro e w1 ⟨rfl, rfl⟩
                rw [hcm]
                go_wp2_with (at_builtin; refine ((IN.out.keep _ rfl).keep _ rfl).one (by simp; omega) ry LEN.out rfl (.tmp 43) (.tmp 46) rfl rfl (B := wr.heap.size + 1) rfl ?c1 ?_)
                case c1 => exact new_cell (by simp) _ _ _
                intro v' w' hint' hgrow
                have HI : Aside (Ints w' base v' (zs1 ++ [ry])) := hint'
                have HB : Aside (Below base w w') := (((BE.out.alloc hws _).alloc (by simp; omega) _).grown hgrow (by simp; omega) IN.out.above)
                clear hint' hgrow
                go_wp2
                go_roundw
                case rel => exact ⟨k + 1, _, zs1 ++ [ry], by omega, by go_num, rfl, HI.out, by simp; omega, HB.out⟩
                case measure => simp [intOf]; omega
              · go_wp2_with fail
                refine (compat m rm _).mono ?_
                rintro e w1 ⟨rfl, rfl⟩
                rw [hcm]
                go_wp2_with fail
                refine (contains (IN.out.keep _ rfl) ry).mono ?_
                rintro e w1 ⟨⟨c, rfl⟩, rfl⟩
                cases c
                · go_wp2_with (at_builtin; refine ((IN.out.keep _ rfl).keep _ rfl).one ?c0 ry LEN.out rfl (.tmp 43) (.tmp 46) rfl rfl (B := wr.heap.size + 1) rfl ?c1 ?_)
                  case c1 => exact new_cell (by simp) _ _ _
                  case c0 => simp; omega
                  intro v' w' hint' hgrow
                  have HI : Aside (Ints w' base v' (zs1 ++ [ry])) := hint'
                  have HB : Aside (Below base w w') := (((BE.out.alloc hws _).alloc (by simp; omega) _).grown hgrow (by simp; omega) IN.out.above)
                  clear hint' hgrow
                  go_wp2
                  go_roundw
                  case rel => exact ⟨k + 1, _, zs1 ++ [ry], by omega, by go_num, rfl, HI.out, by simp; omega, HB.out⟩
                  case measure => simp [intOf]; omega
                · go_wp2
                  go_roundw
                  case rel => exact ⟨k + 1, _, zs1, by omega, by go_num, rfl, IN.out.keep _ rfl, by omega, BE.out.alloc hws _⟩
                  case measure => simp [intOf]; omega
            · go_wp2_with fail
              refine (compat m rm _).mono ?_
              rintro e w1 ⟨rfl, rfl⟩
              rw [hcm]
              go_wp2
              go_roundw
              case rel => exact ⟨k + 1, _, zs1, by omega, by go_num, rfl, IN.out.keep _ rfl, by omega, BE.out.alloc hws _⟩
              case measure => simp [intOf]; omega
        · clear hbel hint
          go_wp2
          go_ret
          exact ⟨_, rfl, zs1, IN.out, by omega, BE.out⟩
  · go_enter Ybad.func51, Ybad.ntmps51
    go_wp2_with fail
    refine (compatAll m x0 x1 _).mono ?_
    rintro e w1 ⟨rfl, rfl⟩
    rw [hok]
    go_wp2
    go_ret
    exact ⟨_, rfl, zs, (HZ.out.keep _ rfl).keep _ rfl, by omega, ((Below.refl _ _).alloc hbase _).alloc (by simp; omega) _⟩

end Go.Proofs.YbulkbcpiDoor.rel
