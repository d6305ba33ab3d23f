/-
  Seat b2690a: LawS2690CModel: the drawn states are built.
-/
import Derived.Test.YbulkbcrmModelK5
namespace Go.Proofs.Ybulkbcrm.model
open Go.RowKit

def mkOf (m : Nat) : Nat × Nat := (m % 4, (m / 4) % 16)
def mkc (p : Nat × Nat) : List Value := [.int .u32 (p.1 : Int), .int .u64 (p.2 : Int)]

theorem mks_length (ms : List (Nat × Nat)) : (ms.flatMap mkc).length = ms.length * 2 := by
  induction ms with
  | nil => rfl
  | cons q l ih => rw [List.flatMap_cons, List.length_append, ih]; simp only [mkc, List.length_cons, List.length_nil]; omega

theorem mks_at (ms : List (Nat × Nat)) : ∀ j p, ms[j]? = some p → (ms.flatMap mkc)[j * 2]? = some (.int .u32 (p.1 : Int)) ∧ (ms.flatMap mkc)[j * 2 + 1]? = some (.int .u64 (p.2 : Int)) := by
  induction ms with
  | nil => intro j p h; simp at h
  | cons q l ih =>
    intro j p h
    cases j with
    | zero => simp at h; subst h; simp [List.flatMap_cons, mkc]
    | succ j =>
      have := ih j p (by simpa using h)
      rw [List.flatMap_cons, show (j + 1) * 2 = j * 2 + 2 by omega]
      simp only [mkc, List.cons_append, List.nil_append]
      exact this

theorem rcs_length (rs : List Rec) : (rs.flatMap rcl).length = rs.length * 12 := by
  induction rs with
  | nil => rfl
  | cons q l ih => rw [List.flatMap_cons, List.length_append, ih]; simp only [rcl, List.length_cons, List.length_nil]; omega

theorem rcs_at (rs : List Rec) : ∀ i r, rs[i]? = some r → ∀ (t : Nat) (u : Value), (rcl r)[t]? = some u → (rs.flatMap rcl)[i * 12 + t]? = some u := by
  induction rs with
  | nil => intro i r h; simp at h
  | cons q l ih =>
    intro i r h t u hu
    have ht : t < 12 := (List.getElem?_eq_some_iff.1 hu).1
    rw [List.flatMap_cons]
    cases i with
    | zero =>
      simp at h
      subst h
      rw [Nat.zero_mul, Nat.zero_add, List.getElem?_append_left (by exact ht)]
      exact hu
    | succ i =>
      have e : (rcl q).length = 12 := rfl
      rw [List.getElem?_append_right (by rw [e]; omega), e, show (i + 1) * 12 + t - 12 = i * 12 + t by omega]
      exact ih i r (by simpa using h) t u hu

/-- The state that a drawn step makes. -/
structure Made (d : StepD) (j : Nat) (p : SM) : Prop where
  slot : p.1.slot = d.s % 16
  low : p.1.low = d.l % 16
  rel : p.1.rel = d.r % 3
  log : p.1.log = j
  ml : p.1.ml = d.ms.length
  ms : p.2 = d.ms.map mkOf

theorem mkRow_of {w : World} {base : Nat} {a : Option Addr} {n cap : Nat} {ms : List (Nat × Nat)} (h : w.ownsRow base 59 2 (.slice a n cap) n (ms.flatMap mkc)) (hn : ms.length = n) (h3 : n ≤ 300) (h4 : ∀ p ∈ ms, p.1 < 4) : MkRow w (.slice a n cap) ms := by
  refine ⟨a, cap, by rw [hn], by omega, fun j l s hj => ⟨h4 _ (List.mem_of_getElem? hj), ?_⟩⟩
  have hjn : j < ms.length := (List.getElem?_eq_some_iff.1 hj).1
  rcases h.2 with ⟨e, h0⟩ | ⟨g, cap', cur, e, _, hg, _, _, _, htk⟩
  · omega
  · cases e
    obtain ⟨e1, e2⟩ := mks_at ms j (l, s) hj
    refine ⟨g, cur, rfl, hg, ?_, ?_⟩
    · rw [← htk, List.getElem?_take_of_lt (by omega), Array.getElem?_toList] at e1
      exact e1
    · rw [← htk, List.getElem?_take_of_lt (by omega), Array.getElem?_toList] at e2
      exact e2

theorem below_row {B : Nat} {X V W : World} {row : Option Nat} {e : TypeId} {size : Nat} {v : Value} {k : Nat} {xs : List Value} {o : Obj} (h : Below B X V) (hB : B ≤ V.heap.size) (hrow : V.ownsRow B e size v k xs) (hg : (V.alloc o).grownBy W row) (hr : row = v.ownBlock) : Below B X W := by
  refine (h.alloc hB o).grown hg (by simp; omega) (fun j ej => ?_)
  subst hr
  rcases hrow.2 with ⟨rfl, _⟩ | ⟨g, cap, cur, rfl, hb, _, _⟩
  · cases ej
  · cases ej
    exact hb

theorem news_of (V : World) (cs : List Value) (t : TypeId) : ∀ (j : Nat) (u : Value), cs[j]? = some u → (V.alloc (.cells cs.toArray t)).cell? ((⟨V.heap.size, 0, none⟩ : Addr).add j) = some u := fun j u hu => by
  rw [addr_add, Nat.zero_add]
  exact cell_of (alloc_new _ _) (by simpa using hu)

structure BI (w : World) (ds : List StepD) (i : Nat) (v : Value) (ps : List SM) (wr : World) : Prop where
  len : ps.length = i
  row : wr.ownsRow w.heap.size 52 12 v i ((ps.map (·.1)).flatMap rcl)
  mks : ∀ p ∈ ps, MkRow wr p.1.mv p.2
  made : ∀ (j : Nat) (d : StepD), j < i → ds[j]? = some d → ∃ p, ps[j]? = some p ∧ Made d j p
  bel : Below w.heap.size w wr
  nn : v ≠ .slice none 0 0

set_option maxRecDepth 100000 in
set_option maxHeartbeats 4000000 in
theorem build {w : World} {a : Option Addr} {cap : Nat} {ds : List StepD} (h : SRow w a ds) (hn : ds.length ≤ 300) (hm : ∀ d ∈ ds, d.ms.length ≤ 300) :
    Calls Yba.prog 8 #[.slice a ds.length cap] w fun e w' => ∃ v ps, e = .returned v ∧ BI w ds ds.length v ps w' := by
  obtain ⟨n, hnE⟩ : ∃ n, ds.length = n := ⟨_, rfl⟩
  obtain ⟨i0, hi0, hz0, hz1, hz2⟩ := info_parts Yba.info52
  obtain ⟨i1, hi1, hy0, hy1, hy2⟩ := info_parts Yba.info59
  rw [hnE] at hn ⊢
  have HS := hide h
  have HN := hide hnE
  have HM := hide hm
  clear h hnE hm
  go_enter Yba.func8, Yba.ntmps8
  go_wp2_with (at_make; refine wpList_make_own _ rfl _ _ 41 rfl w.heap.size 52 i0 _ 12 Yba.underlying41 hi0 hz0 hz1 _ _ _ n rfl rfl rfl (by rw [hz2]; omega) (by simp only [maxLen]; omega) (Nat.le_refl _) ?_; intro w1 hown1 hgrow1)
  have H1 := hide (show BI w ds 0 (.slice (some ⟨w.heap.size, 0, none⟩) 0 n) [] w1 from ⟨rfl, hown1, fun p hp => by simp at hp, fun j d hj => by omega, (Below.refl _ w).grown hgrow1 (Nat.le_refl _) (fun k e => by cases e), by simp⟩)
  clear hown1 hgrow1
  go_loopw [3, 14] (fun s3 s14 wx => ∃ (i : Nat) (va : Option Addr) (vc : Nat) (ps : List SM), s14 = .int .i64 (i : Int) ∧ s3 = .slice va i vc ∧ i ≤ n ∧ BI w ds i (.slice va i vc) ps wx) (fun _ s14 _ => n - (intOf s14).toNat)
  case atStart => exact ⟨0, _, _, [], rfl, rfl, Nat.zero_le _, H1.out⟩
  case round =>
    obtain ⟨i, va, vc, ps, rfl, rfl, hin, hbi⟩ := hrel
    obtain ⟨wo, hwo⟩ : ∃ wo, wo = wr := ⟨_, rfl⟩
    subst hwo
    have HBI := hide hbi
    clear hbi H1
    by_cases hi : i < n
    · have hiI : (i : Int) < (n : Int) := by omega
      obtain ⟨d, hd⟩ : ∃ d, ds[i]? = some d := ⟨_, List.getElem?_eq_getElem (by rw [HN.out]; exact hi)⟩
      have A := (HS.out i d hd).below HBI.out.bel
      obtain ⟨b, off, rfl, bl, c0, c1, c2, c3⟩ := A.at4
      obtain ⟨ma, mc, hmv, hmr⟩ := A.row
      rw [hmv] at c3
      obtain ⟨m, hmE⟩ : ∃ m, d.ms.length = m := ⟨_, rfl⟩
      rw [hmE] at c3
      have hm3 : m ≤ 300 := by rw [← hmE]; exact HM.out d (List.mem_of_getElem? hd)
      obtain ⟨bs1, bs2, bs3⟩ := A.bs
      have HMR := hide hmr
      have HD := hide hd
      have HME := hide hmE
      clear A hmr hd hmv hmE
      obtain ⟨X, hX⟩ : ∃ X, X = wo.alloc (.cells #[.int .u8 (d.s : Int), .int .u8 (d.l : Int), .int .u8 (d.r : Int), .slice ma m mc] 57) := ⟨_, rfl⟩
      have xb : X.heap[wo.heap.size]? = some (.cells #[.int .u8 (d.s : Int), .int .u8 (d.l : Int), .int .u8 (d.r : Int), .slice ma m mc] 57 (0, 0)) := by rw [hX]; exact alloc_new _ _
      have xs : X.heap.size = wo.heap.size + 1 := by rw [hX]; simp
      have xbel : Below wo.heap.size wo X := by rw [hX]; exact (Below.refl _ wo).alloc (Nat.le_refl _) _
      have HX := hide hX
      have XB := hide xb
      have XS := hide xs
      have XBEL := hide xbel
      clear hX xb xs xbel
      go_wp2_with fail
      go_loopw [6, 22] (fun s6 s22 wy => ∃ (j : Nat) (qa : Option Addr) (qc : Nat), s22 = .int .i64 (j : Int) ∧ s6 = .slice qa j qc ∧ j ≤ m ∧ wy.ownsRow X.heap.size 59 2 (.slice qa j qc) j (((d.ms.take j).map mkOf).flatMap mkc) ∧ Below X.heap.size X wy) (fun _ s22 _ => m - (intOf s22).toNat)
      case atStart =>
        rw [← HX.out]
        exact ⟨0, none, 0, rfl, rfl, Nat.zero_le _, World.ownsRow_nil _ _ _ _, Below.refl _ _⟩
      case round =>
        obtain ⟨j, qa, qc, rfl, rfl, hjm, hqrow, hqbel⟩ := hrel
        by_cases hj : j < m
        · have hjI : (j : Int) < (m : Int) := by omega
          obtain ⟨y, hy⟩ : ∃ y, d.ms[j]? = some y := ⟨_, List.getElem?_eq_getElem (by rw [HME.out]; exact hj)⟩
          obtain ⟨hy256, mb, moff, rfl, hmbl, hmc⟩ := HMR.out j y hy
          have hmcw : wr.cell? ⟨mb, moff + j, none⟩ = some (.int .u8 (y : Int)) := by
            have e1 : X.cell? ⟨mb, moff + j, none⟩ = some (.int .u8 (y : Int)) := by rw [XBEL.out.cell (p := ⟨mb, moff + j, none⟩) hmbl]; exact hmc
            rw [hqbel.cell (p := ⟨mb, moff + j, none⟩) (cell_lt e1)]
            exact e1
          have HQ := hide hqrow
          have HQB := hide hqbel
          have HY := hide hy
          have hsz : X.heap.size ≤ wr.heap.size := hqbel.size
          have hrowA : (wr.alloc (.cells [.int .u32 ((y : Int) % 4), .int .u64 ((y : Int) / 4 % 16)].toArray 59)).ownsRow X.heap.size 59 2 (.slice qa j qc) j (((d.ms.take j).map mkOf).flatMap mkc) := hqrow.alloc _
          have hnews := news_of wr [.int .u32 ((y : Int) % 4), .int .u64 ((y : Int) / 4 % 16)] 59
          have FIN := hide (show ∀ (w2 : World) (g' cap' : Nat), w2.ownsRow X.heap.size 59 2 (.slice (some ⟨g', 0, none⟩) (j + 1) cap') (j + 1) ((((d.ms.take j).map mkOf).flatMap mkc) ++ [.int .u32 ((y : Int) % 4), .int .u64 ((y : Int) / 4 % 16)]) → (wr.alloc (.cells [.int .u32 ((y : Int) % 4), .int .u64 ((y : Int) / 4 % 16)].toArray 59)).grownBy w2 (Value.slice qa j qc).ownBlock →
              w2.ownsRow X.heap.size 59 2 (.slice (some ⟨g', 0, none⟩) (j + 1) cap') (j + 1) (((d.ms.take (j + 1)).map mkOf).flatMap mkc) ∧ Below X.heap.size X w2 from fun w2 g' cap' h1 h2 => by
            refine ⟨?_, below_row hqbel hsz hqrow h2 rfl⟩
            rw [List.take_add_one, hy, List.map_append, List.flatMap_append]
            have e : List.flatMap mkc (List.map mkOf (some y).toList) = [.int .u32 ((y : Int) % 4), .int .u64 ((y : Int) / 4 % 16)] := by simp [mkc, mkOf]
            rw [e]
            exact h1)
          clear hqrow hqbel hy hmc
          go_wp2_with (at_builtin; refine wpList_append_own _ rfl _ _ 49 rfl X.heap.size 59 i1 _ 2 16 Yba.underlying49 hi1 hy0 hy1 hy2 rfl (by decide) _ _ _ rfl hrowA ⟨wr.heap.size, 0, none⟩ 1 1 _ rfl rfl hnews (by simp [Value.oneCell']) (by simp only [maxLen]; omega) (by omega) (by simp; omega) ?_; intro v' w2 hown' hgrow _; obtain ⟨g', cap', rfl⟩ := ownsRow_succ hown'; obtain ⟨e1, e2⟩ := FIN.out w2 g' cap' hown' hgrow; have E1 := hide e1; have E2 := hide e2; clear e1 e2 hown' hgrow)
          go_roundw
          case rel => exact ⟨j + 1, _, _, by go_num, rfl, by omega, E1.out, E2.out⟩
          case measure => simp [intOf]; omega
        · have hjE : j = m := by omega
          subst hjE
          have hbx : wr.heap[wo.heap.size]? = some (.cells #[.int .u8 (d.s : Int), .int .u8 (d.l : Int), .int .u8 (d.r : Int), .slice ma j mc] 57 (0, 0)) := (hqbel.block _ (by rw [XS.out]; omega)).trans XB.out
          have z0 : wr.cell? ⟨wo.heap.size, 0, none⟩ = some (.int .u8 (d.s : Int)) := cell_of hbx rfl
          have z1 : wr.cell? ⟨wo.heap.size, 1, none⟩ = some (.int .u8 (d.l : Int)) := cell_of hbx rfl
          have z2 : wr.cell? ⟨wo.heap.size, 2, none⟩ = some (.int .u8 (d.r : Int)) := cell_of hbx rfl
          have HQ := hide hqrow
          have HQB := hide hqbel
          obtain ⟨L, hL⟩ : ∃ L : List Value, L = [.int .u64 ((d.s : Int) % 16), .int .u64 0, .int .u32 0, .int .u64 ((d.l : Int) % 16), .slice qa j qc, .int .u64 ((d.r : Int) % 3), .int .u64 (i : Int), .int .u64 0, .int .u32 0, .int .u64 0, .int .u32 0, .slice none 0 0] := ⟨_, rfl⟩
          have hLr : L = rcl ⟨d.s % 16, d.l % 16, d.r % 3, i, qa, j, qc⟩ := by rw [hL]; simp [rcl]
          have bwr : Below wo.heap.size wo wr := XBEL.out.trans (hqbel.mono (by rw [XS.out]; omega))
          have hrow1 : wr.ownsRow w.heap.size 52 12 (.slice va i vc) i ((ps.map (·.1)).flatMap rcl) := by
            have hb := HBI.out.row
            refine ⟨hb.1, ?_⟩
            rcases hb.2 with h0 | ⟨g, c, cur, e1, e2, hg, e3⟩
            · exact .inl h0
            · exact .inr ⟨g, c, cur, e1, e2, (bwr.block g (heap_lt hg)).trans hg, e3⟩
          have hszw : w.heap.size ≤ wr.heap.size := Nat.le_trans HBI.out.bel.size bwr.size
          have hrowA : (wr.alloc (.cells L.toArray 52)).ownsRow w.heap.size 52 12 (.slice va i vc) i ((ps.map (·.1)).flatMap rcl) := hrow1.alloc _
          have hnews := news_of wr L 52
          have hone : ∀ u ∈ L, u.oneCell' = true := by rw [hLr]; exact rcl_one _
          have hl12 : L.length = 1 * 12 := by rw [hLr]; rfl
          have hmk : MkRow wr (.slice qa j qc) (d.ms.map mkOf) := by
            refine mkRow_of (base := X.heap.size) ?_ (by rw [List.length_map, HME.out]) (by omega) (fun p hp => ?_)
            · have e := hqrow
              rw [List.take_of_length_le (by rw [HME.out]; exact Nat.le_refl _)] at e
              exact e
            · obtain ⟨z, _, rfl⟩ := List.mem_map.1 hp
              exact Nat.mod_lt _ (by omega)
          have FIN := hide (show ∀ (w2 : World) (g' cap' : Nat), w2.ownsRow w.heap.size 52 12 (.slice (some ⟨g', 0, none⟩) (i + 1) cap') (i + 1) ((ps.map (·.1)).flatMap rcl ++ L) → (wr.alloc (.cells L.toArray 52)).grownBy w2 (Value.slice va i vc).ownBlock →
              BI w ds (i + 1) (.slice (some ⟨g', 0, none⟩) (i + 1) cap') (ps ++ [(⟨d.s % 16, d.l % 16, d.r % 3, i, qa, j, qc⟩, d.ms.map mkOf)]) w2 from fun w2 g' cap' h1 h2 => by
            have keep59 : ∀ (k : Nat) (cu : Array Value), wr.heap[k]? = some (.cells cu 59 (0, 0)) → w2.heap[k]? = wr.heap[k]? := fun k cu hk => by
              rw [h2.block k (by have := heap_lt hk; simp; omega) (fun e => ?_), Below.heap_alloc _ _ _ (heap_lt hk)]
              rcases hrow1.2 with ⟨e1, _⟩ | ⟨g, c, cu2, e1, _, hg, _⟩
              · cases e1; cases e
              · cases e1
                cases e
                rw [hk] at hg
                cases hg
            refine ⟨by rw [List.length_append, HBI.out.len]; rfl, ?_, fun p hp => ?_, fun k dd hk hdd => ?_, ?_, by simp⟩
            · rw [List.map_append, List.flatMap_append]
              rw [hLr] at h1
              simpa using h1
            · rcases List.mem_append.1 hp with h | h
              · exact ((HBI.out.mks p h).below bwr (Nat.le_refl _)).same keep59
              · simp at h
                subst h
                exact hmk.same keep59
            · by_cases e : k = i
              · subst e
                rw [HD.out] at hdd
                cases hdd
                refine ⟨_, by rw [List.getElem?_append_right (by rw [HBI.out.len]; exact Nat.le_refl _), HBI.out.len, Nat.sub_self]; rfl, ⟨rfl, rfl, rfl, rfl, HME.out.symm, rfl⟩⟩
              · obtain ⟨p, hp, hmd⟩ := HBI.out.made k dd (by omega) hdd
                exact ⟨p, by rw [List.getElem?_append_left (by rw [HBI.out.len]; omega)]; exact hp, hmd⟩
            · exact below_row (HBI.out.bel.trans (bwr.mono HBI.out.bel.size)) hszw hrow1 h2 rfl)
          have HL := hide hL
          rw [hL] at hnews hone hl12 hrowA FIN
          clear hqrow hqbel hbx hL hLr hmk hrow1 bwr
          go_wp2_with (at_builtin; refine wpList_append_own _ rfl _ _ 41 rfl w.heap.size 52 i0 _ 12 128 Yba.underlying41 hi0 hz0 hz1 hz2 rfl (by decide) _ _ _ rfl hrowA ⟨wr.heap.size, 0, none⟩ 1 1 _ rfl hl12 hnews hone (by simp only [maxLen]; omega) (by omega) (by simp; omega) ?_; intro v' w2 hown' hgrow _; obtain ⟨g', cap', rfl⟩ := ownsRow_succ hown'; have E := hide (FIN.out w2 g' cap' hown' hgrow); clear hown' hgrow)
          go_roundw
          case rel => exact ⟨i + 1, _, _, _, by go_num, rfl, by omega, E.out⟩
          case measure => simp [intOf]; omega
    · have hiE : i = n := by omega
      subst hiE
      go_wp2_with fail
      go_ret
      exact ⟨_, ps, rfl, HBI.out⟩

end Go.Proofs.Ybulkbcrm.model
