/-
  Seat b2690a: LawS2690CModel: the row of held slots; the search in it.
-/
import Derived.Test.YbulkbcrmModelM3
import Derived.Lib.SliceRun
namespace Go.Proofs.Ybulkbcrm.model
open Go.RowKit

/-- A held slot's cells: the slot, then the state. -/
def hcl (r : Rec) : List Value := .int .u64 r.slot :: rcl r
def hcv (r : Rec) : Value := .agg #[.int .u64 r.slot, .int .u64 r.slot, .int .u64 0, .int .u32 0, .int .u64 r.low, .slice r.ma r.ml r.mc, .int .u64 r.rel, .int .u64 r.log, .int .u64 0, .int .u32 0, .int .u64 0, .int .u32 0, .slice none 0 0]
def hcs (l : List Rec) : List Value := l.flatMap hcl

theorem hcs_cons (r : Rec) (l : List Rec) : hcs (r :: l) = hcl r ++ hcs l := rfl
theorem hcs_append (l m : List Rec) : hcs (l ++ m) = hcs l ++ hcs m := by simp [hcs]
theorem hcl_length (r : Rec) : (hcl r).length = 13 := rfl
theorem hcs_length (l : List Rec) : (hcs l).length = l.length * 13 := by
  induction l with
  | nil => rfl
  | cons q l ih => rw [hcs_cons, List.length_append, ih, hcl_length, List.length_cons]; omega

theorem hcs_at (l : List Rec) : ∀ i r, l[i]? = some r → ∀ j, j < 13 → (hcs l)[i * 13 + j]? = (hcl r)[j]? := by
  induction l with
  | nil => intro i q h; simp at h
  | cons q l ih =>
    intro i r h j hj
    rw [hcs_cons]
    cases i with
    | zero =>
      simp at h
      subst h
      rw [Nat.zero_mul, Nat.zero_add, List.getElem?_append_left (by rw [hcl_length]; exact hj)]
    | succ i =>
      have := ih i r (by simpa using h) j hj
      rw [List.getElem?_append_right (by rw [hcl_length]; omega), hcl_length, show (i + 1) * 13 + j - 13 = i * 13 + j by omega]
      exact this

theorem hcs_drop (l : List Rec) : ∀ i, (hcs l).drop (i * 13) = hcs (l.drop i) := by
  induction l with
  | nil => intro i; simp [hcs]
  | cons q l ih =>
    intro i
    cases i with
    | zero => simp
    | succ i =>
      have e : List.drop (i + 1) (q :: l) = List.drop i l := rfl
      rw [hcs_cons, show (i + 1) * 13 = 13 + i * 13 by omega, ← List.drop_drop, e, ← ih i]
      rw [List.drop_left' (hcl_length q)]

/-- The row of held slots; it may begin behind its block's head. -/
def Seg (w : World) (v : Value) (l : List Rec) : Prop :=
  (v = .slice none 0 0 ∧ l = []) ∨
  ∃ g off cap cur, v = .slice (some ⟨g, off, none⟩) l.length cap ∧ w.heap[g]? = some (.cells cur 80 (0, 0)) ∧ l.length ≤ cap ∧ cap ≤ maxLen ∧ off + cap * 13 ≤ cur.size ∧ ∀ j u, (hcs l)[j]? = some u → cur[off + j]? = some u

theorem Seg.same {w w' : World} {v : Value} {l : List Rec} (h : Seg w v l) (hb : ∀ g, v.ownBlock = some g → w'.heap[g]? = w.heap[g]?) : Seg w' v l := by
  rcases h with h | ⟨g, off, cap, cur, rfl, h1, h2⟩
  · exact .inl h
  · exact .inr ⟨g, off, cap, cur, rfl, by rw [hb g rfl]; exact h1, h2⟩

theorem Seg.lt {w : World} {v : Value} {l : List Rec} (h : Seg w v l) {g : Nat} (hg : v.ownBlock = some g) : g < w.heap.size := by
  rcases h with ⟨rfl, _⟩ | ⟨g', off, cap, cur, rfl, h1, h2⟩
  · cases hg
  · simp [Value.ownBlock] at hg
    subst hg
    exact heap_lt h1

theorem Seg.fr {S : Nat → Prop} {w w' : World} {v : Value} {l : List Rec} (h : Seg w v l) (f : Fr S w w') (hs : ∀ g, v.ownBlock = some g → ¬ S g) : Seg w' v l := h.same (fun g hg => f.keep g (h.lt hg) (hs g hg))

theorem Seg.kind {w : World} {v : Value} {l : List Rec} (h : Seg w v l) {g : Nat} (hg : v.ownBlock = some g) : ∃ cur, w.heap[g]? = some (.cells cur 80 (0, 0)) := by
  rcases h with ⟨rfl, _⟩ | ⟨g', off, cap, cur, rfl, h1, h2⟩
  · cases hg
  · simp [Value.ownBlock] at hg
    subst hg
    exact ⟨cur, h1⟩

theorem Seg.form {w : World} {v : Value} {l : List Rec} (h : Seg w v l) : ∃ a cap, v = .slice a l.length cap ∧ ∀ i r, l[i]? = some r → ∃ g off, a = some ⟨g, off, none⟩ ∧ v.ownBlock = some g ∧ ∀ j u, (hcl r)[j]? = some u → w.cell? ⟨g, off + i * 13 + j, none⟩ = some u := by
  rcases h with ⟨rfl, rfl⟩ | ⟨g, off, cap, cur, rfl, h1, h2, h3, h4, h5⟩
  · exact ⟨none, 0, rfl, fun i r h => by simp at h⟩
  · refine ⟨_, cap, rfl, fun i r hi => ⟨g, off, rfl, rfl, fun j u hu => ?_⟩⟩
    have hj : j < 13 := (List.getElem?_eq_some_iff.1 hu).1
    refine cell_of h1 ?_
    rw [Nat.add_assoc]
    exact h5 _ _ (by rw [hcs_at l i r hi j hj]; exact hu)

theorem cell_lt {w : World} {a : Addr} {v : Value} (h : w.cell? a = some v) : a.block < w.heap.size := by
  rcases Nat.lt_or_ge a.block w.heap.size with h1 | h1
  · exact h1
  · simp [World.cell?, Array.getElem?_eq_none h1] at h

theorem rc_at {w : World} {g o : Nat} {r : Rec} (h : ∀ j u, (hcl r)[j]? = some u → w.cell? ⟨g, o + j, none⟩ = some u) :
    w.cell? ⟨g, o, none⟩ = some (.int .u64 r.slot) ∧ w.cell? ⟨g, o + 1, none⟩ = some (.int .u64 r.slot) ∧ w.cell? ⟨g, o + 2, none⟩ = some (.int .u64 0) ∧ w.cell? ⟨g, o + 3, none⟩ = some (.int .u32 0) ∧ w.cell? ⟨g, o + 4, none⟩ = some (.int .u64 r.low) ∧ w.cell? ⟨g, o + 5, none⟩ = some (.slice r.ma r.ml r.mc) ∧ w.cell? ⟨g, o + 6, none⟩ = some (.int .u64 r.rel) ∧ w.cell? ⟨g, o + 7, none⟩ = some (.int .u64 r.log) ∧ w.cell? ⟨g, o + 8, none⟩ = some (.int .u64 0) ∧ w.cell? ⟨g, o + 9, none⟩ = some (.int .u32 0) ∧ w.cell? ⟨g, o + 10, none⟩ = some (.int .u64 0) ∧ w.cell? ⟨g, o + 11, none⟩ = some (.int .u32 0) ∧ w.cell? ⟨g, o + 12, none⟩ = some (.slice none 0 0) :=
  ⟨h 0 _ rfl, h 1 _ rfl, h 2 _ rfl, h 3 _ rfl, h 4 _ rfl, h 5 _ rfl, h 6 _ rfl, h 7 _ rfl, h 8 _ rfl, h 9 _ rfl, h 10 _ rfl, h 11 _ rfl, h 12 _ rfl⟩

/-! ### the search -/

def cmpN (x y : Nat) : Int := if x < y then -1 else if y < x then 1 else 0

set_option maxRecDepth 100000 in
set_option maxHeartbeats 1000000 in
theorem find1 (r : Rec) (k : Nat) (w : World) : Calls Yba.prog 30 #[hcv r, .int .u64 (k : Int)] w fun e w' => e = .returned (.int .i64 (cmpN r.slot k)) ∧ Fr (fun _ => False) w w' := by
  obtain ⟨slot, low, rel, log, ra, rl, rc⟩ := r
  obtain ⟨W, hW⟩ : ∃ W, W = w.alloc (.cells #[.int .u64 slot, .int .u64 slot, .int .u64 0, .int .u32 0, .int .u64 low, .slice ra rl rc, .int .u64 rel, .int .u64 log, .int .u64 0, .int .u32 0, .int .u64 0, .int .u32 0, .slice none 0 0] 80) := ⟨_, rfl⟩
  have HF := hide (show Fr (fun _ => False) w W by rw [hW]; exact (Fr.refl _ w).alloc _)
  clear hW
  have c : ∀ w, Calls Yba.prog 17 #[.int .u64 slot, .int .u64 k] w fun e w' => e = .returned (.int .i64 (cmpN slot k)) ∧ w' = w := compare slot k
  simp only
  obtain ⟨cc, hcc⟩ : ∃ cc, cmpN slot k = cc := ⟨_, rfl⟩
  rw [hcc]
  simp only [hcc] at c
  clear hcc
  unfold hcv
  go_enter Yba.func30, Yba.ntmps30
  go_wp2_with fail
  go_at_call 17
  refine (c _).mono ?_
  rintro e w2 ⟨rfl, rfl⟩
  go_wp2_with fail
  go_ret
  exact ⟨rfl, (Fr.refl _ w).alloc _⟩

def Asc (l : List Rec) : Prop := ∀ (i j : Nat) (a b : Rec), l[i]? = some a → l[j]? = some b → i < j → a.slot < b.slot

set_option maxRecDepth 100000 in
set_option maxHeartbeats 2000000 in
theorem bsearch {w : World} {v : Value} {l : List Rec} (k : Nat) (h : Seg w v l) (ha : Asc l) (hn : l.length ≤ 16) :
    Calls Yba.prog 29 #[v, .int .u64 (k : Int), .func (Fn.func 30) #[] #[]] w fun e w' => ∃ (i : Nat) (f : Bool), e = .returned (.tuple #[.int .i64 (i : Int), .bool f]) ∧ i ≤ l.length ∧ (∀ j r, l[j]? = some r → (j < i ↔ r.slot < k)) ∧ Fr (fun _ => False) w w' := by
  obtain ⟨a, cap, rfl, hrow⟩ := h.form
  obtain ⟨n, hnE⟩ : ∃ n, l.length = n := ⟨_, rfl⟩
  rw [hnE] at hn ⊢
  have HROW := hide hrow
  have HA := hide ha
  have HN := hide hnE
  clear h hrow ha hnE
  go_enter Yba.func29, Yba.ntmps29
  go_upto_block 0 with fail
  go_cut [9, 10, 11] from 15 (fun s9 _ _ wx => ∃ i : Nat, s9 = .int .i64 (i : Int) ∧ i ≤ n ∧ (∀ (t : Nat) (r : Rec), l[t]? = some r → (t < i ↔ r.slot < k)) ∧ Fr (fun _ => False) w wx)
  case first =>
    go_wp2_with fail
    go_loopw [9, 10, 11] (fun s9 s10 _ wx => ∃ i j : Nat, s9 = .int .i64 (i : Int) ∧ s10 = .int .i64 (j : Int) ∧ i ≤ j ∧ j ≤ n ∧ (∀ (t : Nat) (r : Rec), l[t]? = some r → (t < i → r.slot < k) ∧ (j ≤ t → ¬ r.slot < k)) ∧ Fr (fun _ => False) w wx) (fun s9 s10 _ _ => (intOf s10).toNat - (intOf s9).toNat)
    case atStart =>
      refine ⟨0, n, rfl, rfl, Nat.zero_le _, Nat.le_refl _, fun t r ht => ⟨fun h => by omega, fun h => ?_⟩, Fr.refl _ _⟩
      have := (List.getElem?_eq_some_iff.1 ht).1
      rw [HN.out] at this
      omega
    case round =>
      obtain ⟨i, j, rfl, rfl, hij, hjn, hinv, hf⟩ := hrel
      have HI := hide hinv
      have HF := hide hf
      clear hinv hf
      by_cases hlt : i < j
      · have hltI : (i : Int) < (j : Int) := by omega
        obtain ⟨m, hm, him, hmj⟩ : ∃ m : Nat, ((i : Int) + (j : Int)) / 2 = (m : Int) ∧ i ≤ m ∧ m < j := ⟨(i + j) / 2, by omega, by omega, by omega⟩
        obtain ⟨r, hr⟩ : ∃ r, l[m]? = some r := ⟨_, List.getElem?_eq_getElem (by rw [HN.out]; omega)⟩
        obtain ⟨g, off, rfl, hob, hcells⟩ := HROW.out m r hr
        have hcw : ∀ (t : Nat) (u : Value), (hcl r)[t]? = some u → wr.cell? ⟨g, off + m * 13 + t, none⟩ = some u := fun t u hu => by
          have e := hcells t u hu
          rw [HF.out.cell (a := ⟨g, off + m * 13 + t, none⟩) (cell_lt e) (fun h => h)]
          exact e
        obtain ⟨x0, x1, x2, x3, x4, x5, x6, x7, x8, x9, x10, x11, x12⟩ := rc_at hcw
        have c := find1 r k wr
        obtain ⟨cc, hcc⟩ : ∃ cc, cmpN r.slot k = cc := ⟨_, rfl⟩
        rw [hcc] at c
        have HCC := hide hcc
        have HRR := hide hr
        clear hcw hcells hcc hr hob
        unfold hcv at c
        have C := hide c
        clear c
        go_wp2_with fail
        go_at_call 30
        refine C.out.mono ?_
        rintro e w2 ⟨rfl, hf2⟩
        have HF2 := hide (HF.out.trans hf2)
        clear C hf2
        by_cases hck : cc < 0
        · have hsl : r.slot < k := by
            have := HCC.out
            unfold cmpN at this
            split at this
            · assumption
            · split at this <;> omega
          go_wp2_with fail
          go_roundw
          case rel =>
            refine ⟨m + 1, j, by go_num, rfl, by omega, hjn, fun t r' ht => ⟨fun h => ?_, (HI.out t r' ht).2⟩, HF2.out⟩
            by_cases e : t = m
            · subst e
              rw [HRR.out] at ht
              cases ht
              exact hsl
            · have := HA.out t m r' r ht HRR.out (by omega)
              omega
          case measure => simp [intOf]; omega
        · have hsl : ¬ r.slot < k := by
            have := HCC.out
            unfold cmpN at this
            split at this
            · omega
            · assumption
          go_wp2_with fail
          go_roundw
          case rel =>
            refine ⟨i, m, rfl, by go_num, him, by omega, fun t r' ht => ⟨(HI.out t r' ht).1, fun h => ?_⟩, HF2.out⟩
            by_cases e : t = m
            · subst e
              rw [HRR.out] at ht
              cases ht
              exact hsl
            · have := HA.out m t r r' HRR.out ht (by omega)
              omega
          case measure => simp [intOf]; omega
      · have hltI : ¬ (i : Int) < (j : Int) := by omega
        have hE : i = j := by omega
        subst hE
        go_wp2_with fail
        go_meet
        case rel =>
          refine ⟨i, rfl, hjn, fun t r ht => ⟨(HI.out t r ht).1, fun h => ?_⟩, HF.out⟩
          rcases Nat.lt_or_ge t i with h1 | h1
          · exact h1
          · exact absurd h ((HI.out t r ht).2 h1)
  case rest =>
    obtain ⟨i, rfl, hin, hinv, hf⟩ := hcut
    have HI := hide hinv
    have HF := hide hf
    clear hinv hf
    by_cases hlt : i < n
    · have hltI : (i : Int) < (n : Int) := by omega
      obtain ⟨r, hr⟩ : ∃ r, l[i]? = some r := ⟨_, List.getElem?_eq_getElem (by rw [HN.out]; omega)⟩
      obtain ⟨g, off, rfl, hob, hcells⟩ := HROW.out i r hr
      have hcw : ∀ (t : Nat) (u : Value), (hcl r)[t]? = some u → wc.cell? ⟨g, off + i * 13 + t, none⟩ = some u := fun t u hu => by
        have e := hcells t u hu
        rw [HF.out.cell (a := ⟨g, off + i * 13 + t, none⟩) (cell_lt e) (fun h => h)]
        exact e
      obtain ⟨x0, x1, x2, x3, x4, x5, x6, x7, x8, x9, x10, x11, x12⟩ := rc_at hcw
      have c := find1 r k wc
      obtain ⟨cc, hcc⟩ : ∃ cc, cmpN r.slot k = cc := ⟨_, rfl⟩
      rw [hcc] at c
      have HCC := hide hcc
      have HRR := hide hr
      clear hcw hcells hcc hr hob
      unfold hcv at c
      have C := hide c
      clear c
      go_wp2_with fail
      go_at_call 30
      refine C.out.mono ?_
      rintro e w2 ⟨rfl, hf2⟩
      have HF2 := hide (HF.out.trans hf2)
      clear C hf2
      go_wp2_with fail
      go_ret2
      exact ⟨i, _, rfl, hin, HI.out, HF2.out⟩
    · have hltI : ¬ (i : Int) < (n : Int) := by omega
      go_wp2_with fail
      go_ret2
      exact ⟨i, .inl rfl, hin, HI.out, HF.out⟩

set_option maxRecDepth 100000 in
set_option maxHeartbeats 1000000 in
theorem find {w : World} {sb low rel : Nat} {mv : Value} {kept : Nat} {lv hv : Value} {l : List Rec} (k : Nat) (hs : SB w sb low rel mv kept lv hv) (h : Seg w hv l) (ha : Asc l) (hn : l.length ≤ 16) :
    Calls Yba.prog 20 #[.pointer (some ⟨sb, 0, none⟩), .int .u64 (k : Int)] w fun e w' => ∃ (i : Nat) (f : Bool), e = .returned (.tuple #[.int .i64 (i : Int), .bool f]) ∧ i ≤ l.length ∧ (∀ (j : Nat) (r : Rec), l[j]? = some r → (j < i ↔ r.slot < k)) ∧ Fr (fun _ => False) w w' := by
  have c6 := hs.c6
  have c := bsearch k h ha hn
  clear hs h ha
  go_enter Yba.func20, Yba.ntmps20
  go_wp2_with fail
  go_at_call 29
  refine c.mono ?_
  rintro e w2 ⟨i, f, rfl, h1, h2, h3⟩
  have H2 := hide h2
  have H3 := hide h3
  clear c h2 h3
  go_wp2_with fail
  go_ret2
  exact ⟨i, f, rfl, h1, H2.out, H3.out⟩

end Go.Proofs.Ybulkbcrm.model
