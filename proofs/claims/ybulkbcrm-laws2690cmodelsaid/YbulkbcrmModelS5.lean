/-
  Seat b2690a: LawS2690CModel: the sort of the keys: the partition.
-/
import Derived.Test.YbulkbcrmModelS4
import Derived.Deep.CutBlock
import Derived.Deep.CutRange
namespace Go.Proofs.Ybulkbcrm.model
open Go.RowKit Go.Sort

structure PInv (a b : Nat) (d dk : Array Int) (V : Int) (i j : Nat) : Prop where
  perm : PermIn a b d dk
  va : dk[a]! = V
  ia : a < i
  ij : i ≤ j + 1
  jb : j < b
  lo : ∀ k, a < k → k < i → ltInt dk[k]! V = true
  hi : ∀ k, j < k → k < b → ltInt dk[k]! V = false

section
variable {a b : Nat} {d dk : Array Int} {V : Int} {i j : Nat}

theorem PInv.up (h : PInv a b d dk V i j) (hij : i ≤ j) (hl : ltInt dk[i]! V = true) : PInv a b d dk V (i + 1) j :=
  ⟨h.perm, h.va, by have := h.ia; omega, by omega, h.jb, fun k h1 h2 => by
    by_cases e : k = i
    · subst e; exact hl
    · exact h.lo k h1 (by omega), h.hi⟩

theorem PInv.down (h : PInv a b d dk V i j) (hij : i ≤ j) (hl : ltInt dk[j]! V = false) : PInv a b d dk V i (j - 1) :=
  ⟨h.perm, h.va, h.ia, by have := h.ia; omega, by have := h.jb; omega, h.lo, fun k h1 h2 => by
    by_cases e : k = j
    · subst e; exact hl
    · exact h.hi k (by omega) h2⟩

theorem PInv.swap (h : PInv a b d dk V i j) (hb : b ≤ d.size) (hij : i ≤ j) (h1 : ltInt dk[i]! V = false) (h2 : ltInt dk[j]! V = true) : i < j ∧ PInv a b d (swp dk i j) V (i + 1) (j - 1) := by
  have hne : i ≠ j := fun e => by subst e; rw [h1] at h2; cases h2
  have hia := h.ia
  have hjb := h.jb
  have hs := h.perm.1
  refine ⟨by omega, permIn_trans _ _ _ _ _ h.perm (swp_permIn _ _ _ _ _ (by omega) (by omega) (by omega) (by omega) (by omega)), ?_, by omega, by omega, by omega, fun k k1 k2 => ?_, fun k k1 k2 => ?_⟩
  · rw [swp_other _ _ _ _ (by omega) (by omega)]; exact h.va
  · by_cases e : k = i
    · subst e; rw [swp_left _ _ _ (by omega) hne]; exact h2
    · rw [swp_other _ _ _ _ e (by omega)]; exact h.lo k k1 (by omega)
  · by_cases e : k = j
    · subst e; rw [swp_right _ _ _ (by omega)]; exact h1
    · rw [swp_other _ _ _ _ (by omega) e]; exact h.hi k (by omega) k2

/-- What the partition hands back. -/
structure Parted (a b : Nat) (d d' : Array Int) (m : Nat) : Prop where
  perm : PermIn a b d d'
  am : a ≤ m
  mb : m < b
  lo : ∀ k, a ≤ k → k < m → ltInt d'[k]! d'[m]! = true
  hi : ∀ k, m < k → k < b → ltInt d'[k]! d'[m]! = false

theorem PInv.done (h : PInv a b d dk V i j) (hb : b ≤ d.size) (hji : j < i) : Parted a b d (swp dk j a) j := by
  have hia := h.ia
  have hij := h.ij
  have hjb := h.jb
  have hs := h.perm.1
  have ev : (swp dk j a)[j]! = V := by
    by_cases e : j = a
    · subst e
      have : (swp dk j j)[j]! = dk[j]! := swp_right _ _ _ (by omega)
      rw [this]; exact h.va
    · rw [swp_left _ _ _ (by omega) e]; exact h.va
  refine ⟨permIn_trans _ _ _ _ _ h.perm (swp_permIn _ _ _ _ _ (by omega) (by omega) (by omega) (by omega) (by omega)), by omega, by omega, fun k k1 k2 => ?_, fun k k1 k2 => ?_⟩
  · rw [ev]
    by_cases e : k = a
    · subst e; rw [swp_right _ _ _ (by omega)]; exact h.lo j (by omega) (by omega)
    · rw [swp_other _ _ _ _ (by omega) e]; exact h.lo k (by omega) (by omega)
  · rw [ev, swp_other _ _ _ _ (by omega) (by omega)]
    exact h.hi k k1 k2
end

set_option maxRecDepth 100000 in
set_option maxHeartbeats 6000000 in
theorem partition (blk off cap a b pv : Nat) (d : Array Int) (w : World) (hH : Holds encU w blk off d) (hbl : blk < w.heap.size) (hab : a + 2 ≤ b) (hp1 : a ≤ pv) (hp2 : pv < b) (hb : b ≤ d.size) (hsz : d.size < 1000) :
    Calls Yba.prog 63 #[.slice (some ⟨blk, off, none⟩) d.size cap, .int .i64 a, .int .i64 b, .int .i64 pv] w fun e w' =>
      ∃ (m : Nat) (r : Bool) (d' : Array Int), e = .returned (.tuple #[.int .i64 (m : Int), .bool r]) ∧ Parted a b d d' m ∧ Rw w blk off d d' w' := by
  obtain ⟨N, hN⟩ : ∃ N, d.size = N := ⟨_, rfl⟩
  have HH := hide hH
  have HN := hide hN
  have HB := hide hbl
  have HRd := hide (Rw.of HH.out HB.out (At.refl HH.out) (rfl : d.size = d.size))
  rw [hN] at hb hsz
  rw [hN]
  clear hH hN hbl
  obtain ⟨j0, hj0⟩ : ∃ j0 : Nat, (b : Int) - 1 = (j0 : Int) := ⟨b - 1, by omega⟩
  go_enter Yba.func63, Yba.ntmps63
  go_upto_region 1 with fail
  go_cut [] from 12 (fun wx => Rw w blk off d (swp d a pv) wx)
  case first =>
    obtain ⟨Gd, hGd⟩ : ∃ G : Nat → Int, ∀ t, G t = d[t]! := ⟨fun t => d[t]!, fun _ => rfl⟩
    have hcwd : ∀ t, t < N → w.cell? ⟨blk, off + t, none⟩ = some (.int .u64 (Gd t)) := fun t ht => by rw [hGd]; exact HRd.out.cell t (by rw [HN.out]; exact ht)
    have hfwd : ∀ t, t < N → w.frozen? ⟨blk, off + t, none⟩ = false := fun t ht => HRd.out.free t (by rw [HN.out]; exact ht)
    have HGd := hide hGd
    clear hGd
    by_cases hap : a = pv
    · subst hap
      go_region
      go_wp2_with fail
      go_meet
      case rel =>
        rw [HGd.out]
        exact HRd.out.swap HH.out HB.out (by rw [HN.out]; omega) (by rw [HN.out]; omega) rfl rfl 1
    · go_region
      go_wp2_with fail
      go_meet
      case rel =>
        rw [HGd.out, HGd.out]
        exact HRd.out.swap HH.out HB.out (by rw [HN.out]; omega) (by rw [HN.out]; omega) rfl rfl 1
  case rest =>
    have HR1 := hide hcut
    clear hcut HRd
    obtain ⟨d1, hd1⟩ : ∃ d1, swp d a pv = d1 := ⟨_, rfl⟩
    obtain ⟨V, hV⟩ : ∃ V, d1[a]! = V := ⟨_, rfl⟩
    rw [hd1] at HR1
    have HP1 := hide (show PInv a b d d1 V (a + 1) j0 from ⟨by rw [← hd1]; exact swp_permIn _ _ _ _ _ (by omega) (by omega) (by omega) (by omega) (by rw [HN.out]; omega), hV, by omega, by omega, by omega, fun k h1 h2 => by omega, fun k h1 h2 => by omega⟩)
    clear hd1 hV
    go_upto_block 0 with fail
    go_cut [10] from 30 (fun s10 wx => ∃ i' : Nat, s10 = .int .i64 (i' : Int) ∧ PInv a b d d1 V i' j0 ∧ (j0 < i' ∨ ltInt d1[i']! V = false) ∧ Rw w blk off d d1 wx)
    case first =>
      go_wp2_with fail
      go_loopw [10] (fun s10 wx => ∃ i' : Nat, s10 = .int .i64 (i' : Int) ∧ PInv a b d d1 V i' j0 ∧ Rw w blk off d d1 wx) (fun s10 _ => j0 + 1 - (intOf s10).toNat)
      case atStart => exact ⟨a + 1, by go_num, HP1.out, HR1.out⟩
      case round =>
        obtain ⟨i', rfl, hpi, hr⟩ := hrel
        have HPi := hide hpi
        have HRu := hide hr
        have hib := hpi.ia
        have hij := hpi.ij
        clear hpi hr
        obtain ⟨Gu, hGu⟩ : ∃ G : Nat → Int, ∀ t, G t = d1[t]! := ⟨fun t => d1[t]!, fun _ => rfl⟩
        have hcwu : ∀ t, t < N → wr.cell? ⟨blk, off + t, none⟩ = some (.int .u64 (Gu t)) := fun t ht => by rw [hGu]; exact HRu.out.cell t (by rw [HN.out]; exact ht)
        have hfwu : ∀ t, t < N → wr.frozen? ⟨blk, off + t, none⟩ = false := fun t ht => HRu.out.free t (by rw [HN.out]; exact ht)
        have HGu := hide hGu
        clear hGu
        have HV := hide (show Gu a = V from by rw [HGu.out]; exact HPi.out.va)
        by_cases hle : i' ≤ j0
        · have hleI : (i' : Int) ≤ (j0 : Int) := by omega
          go_wp2_with fail
          go_quiet (first | (go_at_call 61; refine Calls.quiet_of_same (less _ _ _)))
          go_wp2_with fail
          · have hl : ltInt (Gu i') (Gu a) = true := by assumption
            rw [HV.out, HGu.out] at hl
            go_roundw
            case rel => exact ⟨i' + 1, by go_num, HPi.out.up hle hl, HRu.out.drewN nq⟩
            case measure => simp [intOf]; omega
          · have hl : ltInt (Gu i') (Gu a) = false := by assumption
            rw [HV.out, HGu.out] at hl
            go_meet
            case rel => exact ⟨i', rfl, HPi.out, .inr hl, HRu.out.drewN nq⟩
        · have hleI : decide ((i' : Int) ≤ (j0 : Int)) = false := decide_eq_false (by omega)
          go_wp2_with fail
          go_quiet (first | (go_at_call 61; refine Calls.quiet_of_same (less _ _ _)))
          go_wp2_with fail
          go_meet
          case rel => exact ⟨i', rfl, HPi.out, .inl (by omega), HRu.out.drewN nq⟩
    case rest =>
      obtain ⟨i1, rfl, hp, hx, hr⟩ := hcut
      have HP2 := hide hp
      have HX := hide hx
      have HR2 := hide hr
      have hai1 := hp.ia
      have hij1 := hp.ij
      clear hp hx hr HP1 HR1
      go_upto_block 2 with fail
      go_cut [11] from 46 (fun s11 wx => ∃ j' : Nat, s11 = .int .i64 (j' : Int) ∧ PInv a b d d1 V i1 j' ∧ j' ≤ j0 ∧ (j' < i1 ∨ ltInt d1[j']! V = true) ∧ Rw w blk off d d1 wx)
      case first =>
        go_wp2_with fail
        go_loopw [11] (fun s11 wx => ∃ j' : Nat, s11 = .int .i64 (j' : Int) ∧ PInv a b d d1 V i1 j' ∧ j' ≤ j0 ∧ Rw w blk off d d1 wx) (fun s11 _ => (intOf s11).toNat)
        case atStart => exact ⟨j0, by go_num, HP2.out, Nat.le_refl _, HR2.out⟩
        case round =>
          obtain ⟨j', rfl, hpi, hjj, hr⟩ := hrel
          have HPi := hide hpi
          have HRv := hide hr
          have hib := hpi.ia
          have hij := hpi.ij
          have hjb := hpi.jb
          clear hpi hr
          obtain ⟨Gv, hGv⟩ : ∃ G : Nat → Int, ∀ t, G t = d1[t]! := ⟨fun t => d1[t]!, fun _ => rfl⟩
          have hcwv : ∀ t, t < N → wr.cell? ⟨blk, off + t, none⟩ = some (.int .u64 (Gv t)) := fun t ht => by rw [hGv]; exact HRv.out.cell t (by rw [HN.out]; exact ht)
          have hfwv : ∀ t, t < N → wr.frozen? ⟨blk, off + t, none⟩ = false := fun t ht => HRv.out.free t (by rw [HN.out]; exact ht)
          have HGv := hide hGv
          clear hGv
          have HV := hide (show Gv a = V from by rw [HGv.out]; exact HPi.out.va)
          by_cases hle : i1 ≤ j'
          · have hleI : (i1 : Int) ≤ (j' : Int) := by omega
            go_wp2_with fail
            go_quiet (first | (go_at_call 61; refine Calls.quiet_of_same (less _ _ _)))
            go_wp2_with fail
            · have hl : (!ltInt (Gv j') (Gv a)) = true := by assumption
              rw [HV.out, HGv.out] at hl
              go_roundw
              case rel => exact ⟨j' - 1, by congr 1; omega, HPi.out.down hle (by simpa using hl), by omega, HRv.out.drewN nq⟩
              case measure => simp [intOf]; omega
            · have hl : (!ltInt (Gv j') (Gv a)) = false := by assumption
              rw [HV.out, HGv.out] at hl
              go_meet
              case rel => exact ⟨j', rfl, HPi.out, hjj, .inr (by simpa using hl), HRv.out.drewN nq⟩
          · have hleI : decide ((i1 : Int) ≤ (j' : Int)) = false := decide_eq_false (by omega)
            go_wp2_with fail
            go_quiet (first | (go_at_call 61; refine Calls.quiet_of_same (less _ _ _)))
            go_wp2_with fail
            go_meet
            case rel => exact ⟨j', rfl, HPi.out, hjj, .inl (by omega), HRv.out.drewN nq⟩
      case rest =>
        obtain ⟨j1, rfl, hp, hjj, hy, hr⟩ := hcut
        have HP3 := hide hp
        have HY := hide hy
        have HR3 := hide hr
        have hij3 := hp.ij
        have hjb3 := hp.jb
        clear hp hy hr HP2 HR2
        obtain ⟨G3, hG3⟩ : ∃ G : Nat → Int, ∀ t, G t = d1[t]! := ⟨fun t => d1[t]!, fun _ => rfl⟩
        have hcw3 : ∀ t, t < N → wc.cell? ⟨blk, off + t, none⟩ = some (.int .u64 (G3 t)) := fun t ht => by rw [hG3]; exact HR3.out.cell t (by rw [HN.out]; exact ht)
        have hfw3 : ∀ t, t < N → wc.frozen? ⟨blk, off + t, none⟩ = false := fun t ht => HR3.out.free t (by rw [HN.out]; exact ht)
        have HG3 := hide hG3
        clear hG3
        by_cases hji : j1 < i1
        · have hjiI : (j1 : Int) < (i1 : Int) := by omega
          have HD := hide (HP3.out.done (by rw [HN.out]; exact hb) hji)
          go_wp2_with fail
          by_cases hja : j1 = a
          · subst hja
            go_region
            go_wp2_with fail
            go_ret2
            refine ⟨j1, true, _, rfl, HD.out, ?_⟩
            rw [HG3.out]
            exact HR3.out.swap HH.out HB.out (by rw [HN.out]; omega) (by rw [HN.out]; omega) rfl rfl 1
          · go_region
            go_wp2_with fail
            go_ret2
            refine ⟨j1, true, _, rfl, HD.out, ?_⟩
            rw [HG3.out, HG3.out]
            exact HR3.out.swap HH.out HB.out (by rw [HN.out]; omega) (by rw [HN.out]; omega) rfl rfl 1
        · have hjiI : ¬ (j1 : Int) < (i1 : Int) := by omega
          obtain ⟨hlt, hsw⟩ := HP3.out.swap (by rw [HN.out]; exact hb) (by omega) (HX.out.resolve_left (by omega)) (HY.out.resolve_left (by omega))
          have HP4 := hide hsw
          clear hsw HX HY
          go_wp2_with fail
          go_region
          have HR4 := hide (HR3.out.swap HH.out HB.out (i := i1) (j := j1) (by rw [HN.out]; omega) (by rw [HN.out]; omega) (x := .int .u64 (G3 j1)) (y := .int .u64 (G3 i1)) (by rw [HG3.out]) (by rw [HG3.out]) 1)
          clear HP3 HR3
          go_wp2_with fail
          go_loopw [10, 11] (fun s10 s11 wx => ∃ (i j : Nat) (dk : Array Int), s10 = .int .i64 (i : Int) ∧ s11 = .int .i64 (j : Int) ∧ PInv a b d dk V i j ∧ Rw w blk off d dk wx) (fun s10 s11 _ => (intOf s11).toNat + 1 - (intOf s10).toNat)
          case atStart => exact ⟨i1 + 1, j1 - 1, swp d1 i1 j1, by go_num, by congr 1; omega, HP4.out, HR4.out⟩
          case round =>
            clear HP4 HR4 HG3 hcw3 hfw3 hjiI hij3 hjb3 hlt
            obtain ⟨i, j, dk, rfl, rfl, hp, hr⟩ := hrel
            have HP5 := hide hp
            have HR5 := hide hr
            have hij5 := hp.ij
            have hjb5 := hp.jb
            have hia5 := hp.ia
            clear hp hr
            go_upto_block 6 with fail
            go_cut [10] from 99 to 152 (fun s10 wx => ∃ i' : Nat, s10 = .int .i64 (i' : Int) ∧ i ≤ i' ∧ PInv a b d dk V i' j ∧ (j < i' ∨ ltInt dk[i']! V = false) ∧ Rw w blk off d dk wx)
            case first =>
              go_wp2_with fail
              go_loopw [10] (fun s10 wx => ∃ i' : Nat, s10 = .int .i64 (i' : Int) ∧ i ≤ i' ∧ PInv a b d dk V i' j ∧ Rw w blk off d dk wx) (fun s10 _ => j + 1 - (intOf s10).toNat)
              case atStart => exact ⟨i, by go_num, Nat.le_refl _, HP5.out, HR5.out⟩
              case round =>
                obtain ⟨i', rfl, hii, hpi, hr⟩ := hrel
                have HPi := hide hpi
                have HRu := hide hr
                have hib := hpi.ia
                have hij := hpi.ij
                clear hpi hr
                obtain ⟨Gu, hGu⟩ : ∃ G : Nat → Int, ∀ t, G t = dk[t]! := ⟨fun t => dk[t]!, fun _ => rfl⟩
                have hcwu : ∀ t, t < N → wr.cell? ⟨blk, off + t, none⟩ = some (.int .u64 (Gu t)) := fun t ht => by rw [hGu]; exact HRu.out.cell t (by rw [HN.out]; exact ht)
                have hfwu : ∀ t, t < N → wr.frozen? ⟨blk, off + t, none⟩ = false := fun t ht => HRu.out.free t (by rw [HN.out]; exact ht)
                have HGu := hide hGu
                clear hGu
                have HV := hide (show Gu a = V from by rw [HGu.out]; exact HPi.out.va)
                by_cases hle : i' ≤ j
                · have hleI : (i' : Int) ≤ (j : Int) := by omega
                  go_wp2_with fail
                  go_quiet (first | (go_at_call 61; refine Calls.quiet_of_same (less _ _ _)))
                  go_wp2_with fail
                  · have hl : ltInt (Gu i') (Gu a) = true := by assumption
                    rw [HV.out, HGu.out] at hl
                    go_roundw
                    case rel => exact ⟨i' + 1, by go_num, by omega, HPi.out.up hle hl, HRu.out.drewN nq⟩
                    case measure => simp [intOf]; omega
                  · have hl : ltInt (Gu i') (Gu a) = false := by assumption
                    rw [HV.out, HGu.out] at hl
                    go_meet
                    case rel => exact ⟨i', rfl, hii, HPi.out, .inr hl, HRu.out.drewN nq⟩
                · have hleI : decide ((i' : Int) ≤ (j : Int)) = false := decide_eq_false (by omega)
                  go_wp2_with fail
                  go_quiet (first | (go_at_call 61; refine Calls.quiet_of_same (less _ _ _)))
                  go_wp2_with fail
                  go_meet
                  case rel => exact ⟨i', rfl, hii, HPi.out, .inl (by omega), HRu.out.drewN nq⟩
            case rest =>
              obtain ⟨i2, rfl, hii, hp, hx, hr⟩ := hcut
              have HP6 := hide hp
              have HX := hide hx
              have HR6 := hide hr
              have hai6 := hp.ia
              have hij6 := hp.ij
              clear hp hx hr HR5
              go_upto_block 8 with fail
              go_cut [11] from 99 to 152 (fun s11 wx => ∃ j' : Nat, s11 = .int .i64 (j' : Int) ∧ PInv a b d dk V i2 j' ∧ j' ≤ j ∧ (j' < i2 ∨ ltInt dk[j']! V = true) ∧ Rw w blk off d dk wx)
              case first =>
                go_wp2_with fail
                go_loopw [11] (fun s11 wx => ∃ j' : Nat, s11 = .int .i64 (j' : Int) ∧ PInv a b d dk V i2 j' ∧ j' ≤ j ∧ Rw w blk off d dk wx) (fun s11 _ => (intOf s11).toNat)
                case atStart => exact ⟨j, by go_num, HP6.out, Nat.le_refl _, HR6.out⟩
                case round =>
                  obtain ⟨j', rfl, hpi, hjj, hr⟩ := hrel
                  have HPi := hide hpi
                  have HRv := hide hr
                  have hib := hpi.ia
                  have hij := hpi.ij
                  have hjb := hpi.jb
                  clear hpi hr
                  obtain ⟨Gv, hGv⟩ : ∃ G : Nat → Int, ∀ t, G t = dk[t]! := ⟨fun t => dk[t]!, fun _ => rfl⟩
                  have hcwv : ∀ t, t < N → wr.cell? ⟨blk, off + t, none⟩ = some (.int .u64 (Gv t)) := fun t ht => by rw [hGv]; exact HRv.out.cell t (by rw [HN.out]; exact ht)
                  have hfwv : ∀ t, t < N → wr.frozen? ⟨blk, off + t, none⟩ = false := fun t ht => HRv.out.free t (by rw [HN.out]; exact ht)
                  have HGv := hide hGv
                  clear hGv
                  have HV := hide (show Gv a = V from by rw [HGv.out]; exact HPi.out.va)
                  by_cases hle : i2 ≤ j'
                  · have hleI : (i2 : Int) ≤ (j' : Int) := by omega
                    go_wp2_with fail
                    go_quiet (first | (go_at_call 61; refine Calls.quiet_of_same (less _ _ _)))
                    go_wp2_with fail
                    · have hl : (!ltInt (Gv j') (Gv a)) = true := by assumption
                      rw [HV.out, HGv.out] at hl
                      go_roundw
                      case rel => exact ⟨j' - 1, by congr 1; omega, HPi.out.down hle (by simpa using hl), by omega, HRv.out.drewN nq⟩
                      case measure => simp [intOf]; omega
                    · have hl : (!ltInt (Gv j') (Gv a)) = false := by assumption
                      rw [HV.out, HGv.out] at hl
                      go_meet
                      case rel => exact ⟨j', rfl, HPi.out, hjj, .inr (by simpa using hl), HRv.out.drewN nq⟩
                  · have hleI : decide ((i2 : Int) ≤ (j' : Int)) = false := decide_eq_false (by omega)
                    go_wp2_with fail
                    go_quiet (first | (go_at_call 61; refine Calls.quiet_of_same (less _ _ _)))
                    go_wp2_with fail
                    go_meet
                    case rel => exact ⟨j', rfl, HPi.out, hjj, .inl (by omega), HRv.out.drewN nq⟩
              case rest =>
                obtain ⟨j2, rfl, hp, hjj2, hy, hr⟩ := hcut
                have HP7 := hide hp
                have HY := hide hy
                have HR7 := hide hr
                have hij7 := hp.ij
                have hjb7 := hp.jb
                clear hp hy hr HP6 HR6
                obtain ⟨G7, hG7⟩ : ∃ G : Nat → Int, ∀ t, G t = dk[t]! := ⟨fun t => dk[t]!, fun _ => rfl⟩
                have hcw7 : ∀ t, t < N → wc.cell? ⟨blk, off + t, none⟩ = some (.int .u64 (G7 t)) := fun t ht => by rw [hG7]; exact HR7.out.cell t (by rw [HN.out]; exact ht)
                have hfw7 : ∀ t, t < N → wc.frozen? ⟨blk, off + t, none⟩ = false := fun t ht => HR7.out.free t (by rw [HN.out]; exact ht)
                have HG7 := hide hG7
                clear hG7
                by_cases hji2 : j2 < i2
                · have hjiI : (j2 : Int) < (i2 : Int) := by omega
                  have HD := hide (HP7.out.done (by rw [HN.out]; exact hb) hji2)
                  go_wp2_with fail
                  by_cases hja : j2 = a
                  · subst hja
                    go_region
                    go_wp2_with fail
                    go_ret2
                    refine ⟨j2, false, _, rfl, HD.out, ?_⟩
                    rw [HG7.out]
                    exact HR7.out.swap HH.out HB.out (by rw [HN.out]; omega) (by rw [HN.out]; omega) rfl rfl 1
                  · go_region
                    go_wp2_with fail
                    go_ret2
                    refine ⟨j2, false, _, rfl, HD.out, ?_⟩
                    rw [HG7.out, HG7.out]
                    exact HR7.out.swap HH.out HB.out (by rw [HN.out]; omega) (by rw [HN.out]; omega) rfl rfl 1
                · have hjiI : ¬ (j2 : Int) < (i2 : Int) := by omega
                  obtain ⟨hlt, hsw⟩ := HP7.out.swap (by rw [HN.out]; exact hb) (by omega) (HX.out.resolve_left (by omega)) (HY.out.resolve_left (by omega))
                  have HP8 := hide hsw
                  clear hsw HX HY
                  go_wp2_with fail
                  go_region
                  have HR8 := hide (HR7.out.swap HH.out HB.out (i := i2) (j := j2) (by rw [HN.out]; omega) (by rw [HN.out]; omega) (x := .int .u64 (G7 j2)) (y := .int .u64 (G7 i2)) (by rw [HG7.out]) (by rw [HG7.out]) 1)
                  clear HP7 HR7
                  go_wp2_with fail
                  go_roundw
                  case rel => exact ⟨i2 + 1, j2 - 1, swp dk i2 j2, by go_num, by congr 1; omega, HP8.out, HR8.out⟩
                  case measure => simp [intOf]; omega

end Go.Proofs.Ybulkbcrm.model
