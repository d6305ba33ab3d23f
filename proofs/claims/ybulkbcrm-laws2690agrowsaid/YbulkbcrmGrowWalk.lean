/-
  Seat b2690a: LawS2690AGrow: the law's own walk.
-/
import Derived.Test.YbulkbcrmPlaces
namespace Go.Proofs.Ybulkbcrm.places
open Go.RowKit

namespace Grow
theorem getD_pad (l : List Q) (i j : Nat) : (pad l i).getD j q0 = l.getD j q0 := by
  simp only [pad, List.getD_eq_getElem?_getD]
  by_cases h : j < l.length
  · rw [List.getElem?_append_left h]
  · rw [List.getElem?_append_right (by omega), List.getElem?_eq_none (l := l) (by omega)]
    by_cases h2 : j - l.length < i + 1 - l.length
    · rw [List.getElem?_replicate, if_pos h2]; rfl
    · rw [List.getElem?_replicate, if_neg h2]
theorem getD_set {α : Type} (l : List α) (i j : Nat) (x d : α) (h : i < l.length) : (l.set i x).getD j d = if j = i then x else l.getD j d := by
  simp only [List.getD_eq_getElem?_getD, List.getElem?_set]
  by_cases e : j = i
  · subst e; simp [h]
  · simp [e, Ne.symm e]
theorem length_pad (l : List Q) (i : Nat) : (pad l i).length = l.length + (i + 1 - l.length) := by simp [pad]

theorem seeL_len (l : List Q) (i : Nat) (v : ByteArray) : (seeL l i v).length = l.length + (i + 1 - l.length) := by
  rw [← length_pad]
  unfold seeL
  simp only
  split
  · split
    · simp
    · rfl
  · simp

theorem seeL_other (l : List Q) (i j : Nat) (v : ByteArray) (h : j ≠ i) : (seeL l i v).getD j q0 = l.getD j q0 := by
  have hp : i < (pad l i).length := by rw [length_pad]; omega
  unfold seeL
  simp only
  split
  · split
    · rw [getD_set _ _ _ _ _ hp, if_neg h, getD_pad]
    · rw [getD_pad]
  · rw [getD_set _ _ _ _ _ hp, if_neg h, getD_pad]

theorem seeL_new (l : List Q) (i : Nat) (v : ByteArray) (h : (l.getD i q0).2.1 = false) : (seeL l i v).getD i q0 = (v, true, (l.getD i q0).2.2) ∧ seeB l i v = false := by
  have hp : i < (pad l i).length := by rw [length_pad]; omega
  unfold seeL seeB
  simp only [getD_pad, h]
  rw [if_neg (by simp), getD_set _ _ _ _ _ hp, if_pos rfl]
  simp

theorem seeL_old (l : List Q) (i : Nat) (v : ByteArray) (h : (l.getD i q0).2.1 = true) :
    seeB l i v = (!decide ((l.getD i q0).1 = v) && !(l.getD i q0).2.2) ∧ (seeL l i v).getD i q0 = ((l.getD i q0).1, true, (l.getD i q0).2.2 || (!decide ((l.getD i q0).1 = v) && !(l.getD i q0).2.2)) := by
  have hp : i < (pad l i).length := by rw [length_pad]; omega
  unfold seeL seeB
  simp only [getD_pad, h]
  rw [if_pos trivial, if_pos trivial]
  refine ⟨rfl, ?_⟩
  split
  · rename_i hc
    rw [getD_set _ _ _ _ _ hp, if_pos rfl, hc]
    simp
  · rename_i hc
    rw [getD_pad, Bool.eq_false_iff.2 hc]
    generalize l.getD i q0 = q at *
    obtain ⟨a, b, c⟩ := q
    simp only at h
    subst h
    simp
end Grow

theorem pl_alloc' {w : World} {p base : Nat} {l : List Q} {ao : Option Addr} {cap : Nat} (h : Pl w p base l ao cap) (hb : base ≤ w.heap.size) (o : Obj) : Pl (w.alloc o) p base l ao cap := by
  have hb2 : Below w.heap.size w (w.alloc o) := (Below.refl _ _).alloc (Nat.le_refl _) o
  have := h.lt
  exact ⟨by rw [hb2.cell (p := ⟨p, 0, none⟩) (show p < _ by omega)]; exact h.cell, by rw [hb2.frozen (p := ⟨p, 0, none⟩) (show p < _ by omega)]; exact h.fz, h.own.alloc o, h.lt⟩

theorem blk_ge' {w : World} {p base : Nat} {l : List Q} {ao : Option Addr} {cap : Nat} (h : Pl w p base l ao cap) {k : Nat} (hk : k < base) : some k ≠ blk ao := by
  intro e
  have := h.own.lt k (by rw [ownBlock_slice]; exact e.symm)
  omega

/-- The places, the memory that was there, the sizes. -/
structure Gr (w0 wr : World) (l : List Q) (ao : Option Addr) (cap : Nat) : Prop where
  pl : Pl wr w0.heap.size (w0.heap.size + 1) l ao cap
  bel : Below w0.heap.size w0 wr
  size : w0.heap.size + 1 ≤ wr.heap.size

theorem gr_alloc {w0 wr : World} {l : List Q} {ao : Option Addr} {cap : Nat} (h : Gr w0 wr l ao cap) (o : Obj) : Gr w0 (wr.alloc o) l ao cap := by
  have := h.size
  exact ⟨pl_alloc' h.pl h.size o, h.bel.alloc (by omega) o, by simp; omega⟩

theorem gr_keep {w0 W w1 : World} {l l' : List Q} {ao ao' : Option Addr} {cap cap' : Nat} (h : Gr w0 W l ao cap) (hP : Pl w1 w0.heap.size (w0.heap.size + 1) l' ao' cap') (hK : Keep W w1 w0.heap.size (blk ao)) : Gr w0 w1 l' ao' cap' := by
  have hsz := h.size
  exact ⟨hP, h.bel.trans ⟨hK.os, hK.tape, hK.output, hK.size, fun k hk => hK.block k (by omega) (by omega) (blk_ge' h.pl (by omega))⟩, Nat.le_trans hsz hK.size⟩

theorem gr_start (w : World) : Gr w (w.alloc (.cells #[.slice none 0 0] 24)) [] none 0 :=
  ⟨⟨by simp, by simp, World.ownsRow_nil _ _ _ _, by omega⟩, (Below.refl _ _).alloc (Nat.le_refl _) _, by simp⟩

set_option maxRecDepth 50000 in
set_option maxHeartbeats 1000000 in
theorem grow_some (ia : Option Addr) (cap : Nat) (L : List Q) (i : Int) (v : ByteArray) (w : World) (hl : L.length ≤ 1024) (i0 : 0 ≤ i) (i1 : i ≤ 65535)
    (hcell : ∀ k q, L[k]? = some q → ∃ b0 off, ia = some ⟨b0, off, none⟩ ∧ b0 < w.heap.size ∧ w.cell? ⟨b0, off + k * 3, none⟩ = some (.string q.1) ∧ w.cell? ⟨b0, off + k * 3 + 1, none⟩ = some (.bool q.2.1) ∧ w.cell? ⟨b0, off + k * 3 + 2, none⟩ = some (.bool q.2.2)) :
    Calls Yba.prog 4 #[.slice ia L.length cap, .int .u16 i, .string v] w fun e w' => e = .returned (.bool true) ∧ Below w.heap.size w w' := by
  have hl' : ¬ (1024 : Int) < (L.length : Int) := by omega
  obtain ⟨ix, hix⟩ := Int.eq_ofNat_of_zero_le (show 0 ≤ i % 300 by omega)
  have hix3 : ix < 300 := by omega
  obtain ⟨ti, hi0, hz0, hz1, hz2⟩ := info_parts info32
  have HC := hide hcell
  have HI := hide hi0
  have HZ := hide (And.intro hz0 (And.intro hz1 hz2))
  clear hcell hi0 hz0 hz1 hz2
  go_enter Yba.func4, Yba.ntmps4
  go_wp2
  go_loopw [25] (fun iv wr => ∃ (k : Nat) (ao : Option Addr) (cp : Nat), k ≤ L.length ∧ iv = .int .i64 (k : Int) ∧ Gr w wr (L.take k) ao cp) (fun iv _ => L.length - (intOf iv).toNat)
  case atStart => exact ⟨0, _, _, Nat.zero_le _, rfl, gr_start w⟩
  case round =>
    obtain ⟨k, ao, cp, hk, rfl, hg⟩ := hrel
    by_cases hlt : k < L.length
    · have hltI : (k : Int) < (L.length : Int) := by omega
      obtain ⟨q, hq⟩ : ∃ q, L[k]? = some q := ⟨_, List.getElem?_eq_getElem hlt⟩
      obtain ⟨b0, off, rfl, hb0, c0, c1, c2⟩ := HC.out k q hq
      have c0' : wr.cell? ⟨b0, off + k * 3, none⟩ = some (.string q.1) := by rw [hg.bel.cell (p := ⟨b0, off + k * 3, none⟩) hb0]; exact c0
      have c1' : wr.cell? ⟨b0, off + k * 3 + 1, none⟩ = some (.bool q.2.1) := by rw [hg.bel.cell (p := ⟨b0, off + k * 3 + 1, none⟩) hb0]; exact c1
      have c2' : wr.cell? ⟨b0, off + k * 3 + 2, none⟩ = some (.bool q.2.2) := by rw [hg.bel.cell (p := ⟨b0, off + k * 3 + 2, none⟩) hb0]; exact c2
      clear c0 c1 c2
      have htl : (L.take k).length = k := by rw [List.length_take]; omega
      have hpc := hg.pl.cell
      have hpf := hg.pl.fz
      have hown := hg.pl.own
      rw [htl] at hpc hown
      have HG := hide hg
      have HQ := hide hq
      have HT := hide htl
      have hsz : w.heap.size < wr.heap.size := hg.size
      have hsz2 : w.heap.size < wr.heap.size + 1 := by omega
      have hsz3 : w.heap.size < wr.heap.size + 1 + 1 := by omega
      obtain ⟨qa, qb, qc⟩ := q
      simp only at c0' c1' c2'
      clear hg hq htl
      go_wp2_with (at_builtin; refine wpList_append_own_at _ rfl _ _ 24 rfl (w.heap.size + 1) 32 ti (.agg #[.string ⟨#[]⟩, .bool false, .bool false]) 3 24 Yba.underlying24 HI.out HZ.out.1 HZ.out.2.1 HZ.out.2.2 rfl (by decide) _ _ _ rfl ((hown.alloc _).alloc _) ⟨wr.heap.size + 1, 0, none⟩ 1 1 (pc (qa, qb, qc)) rfl rfl ?c1 ?c2 ?c3 ?c4 ?c5 ?_)
      case c1 =>
        intro j u hj
        match j, hj with
        | 0, hj => simp [pc] at hj; subst hj; simp [Addr.add]
        | 1, hj => simp [pc] at hj; subst hj; simp [Addr.add]
        | 2, hj => simp [pc] at hj; subst hj; simp [Addr.add]
        | j + 3, hj => simp [pc] at hj
      case c2 => intro u hu; simp [pc] at hu; rcases hu with rfl | rfl | rfl <;> rfl
      case c3 => unfold maxLen; omega
      case c4 => omega
      case c5 => simp; omega
      intro v' w1 hown' hgrow _ hblk
      obtain ⟨g, cp', hform⟩ := Joins.ownsRow_form hown' (by omega)
      rw [hform] at hown' ⊢
      clear hform hblk
      rw [ownBlock_slice] at hgrow
      have hpush := pl_push (qa, qb, qc) (gr_alloc HG.out (.cells #[.string qa, .bool qb, .bool qc] 37)).pl (by rw [HT.out]; exact hown') hgrow
      rw [HT.out] at hpush
      obtain ⟨hP2, hK2, hcp, hfp⟩ := hpush
      have HE : Hid (L.take k ++ [(qa, qb, qc)] = L.take (k + 1)) := by
        show L.take k ++ [(qa, qb, qc)] = L.take (k + 1)
        have hqe := HQ.out
        rw [List.getElem?_eq_getElem hlt] at hqe
        rw [List.take_succ_eq_append_getElem hlt, Option.some.inj hqe]
      have HG2 := hide (gr_keep (gr_alloc HG.out (.cells #[.string qa, .bool qb, .bool qc] 37)) hP2 hK2)
      rw [HE.out] at HG2
      clear hP2 hK2 hown' hgrow hown HG HQ HE hpc hpf c0' c1' c2'
      go_wp2
      go_roundw
      case rel => exact ⟨k + 1, _, _, by omega, by go_num, HG2.out⟩
      case measure => simp [intOf]; omega
    · obtain rfl : k = L.length := by omega
      rw [List.take_of_length_le (Nat.le_refl _)] at hg
      have HG := hide hg
      clear hg
      go_wp2_with fail
      refine (see_any w.heap.size (w.heap.size + 1) ix L ao cp v _ HG.out.pl (by omega) (by omega) HG.out.size).mono ?_
      rintro e w1 ⟨rfl, ao2, cp2, hP2, hK2, _⟩
      have HG2 := hide (gr_keep HG.out hP2 hK2)
      have hpc := hP2.cell
      rw [Grow.seeL_len] at hpc
      clear hP2 hK2 HG
      have hM : ∃ M, M = L.length + (ix + 1 - L.length) := ⟨_, rfl⟩
      obtain ⟨M, hM⟩ := hM
      rw [← hM] at hpc
      have HM := hide hM
      have hM2 : M ≤ 1400 := by omega
      clear hM
      have HB1 := hide (fun h => (Grow.seeL_new L ix v h))
      have HB2 := hide (fun h => (Grow.seeL_old L ix v h))
      have HL := hide (Grow.seeL_len L ix v)
      have HO := hide (fun j h => Grow.seeL_other L ix j v h)
      generalize seeB L ix v = got at *
      generalize seeL L ix v = L2 at *
      by_cases hgt : (L.length : Int) < (ix : Int) + 1
      · have hMe : (ix : Int) + 1 = (M : Int) := by have := HM.out; omega
        have hML : L.length ≤ M := by have := HM.out; omega
        go_wp2_with fail
        go_loopw [13] (fun iv wr => ∃ (j : Nat), j ≤ M ∧ iv = .int .i64 (j : Int) ∧ Gr w wr L2 ao2 cp2) (fun iv _ => M - (intOf iv).toNat)
        case atStart => exact ⟨0, Nat.zero_le _, rfl, HG2.out⟩
        case round =>
          clear hpc
          obtain ⟨j, hj, rfl, hgj⟩ := hrel
          have hbel := hgj.bel
          have hszj : w.heap.size < wr.heap.size := hgj.size
          have hszj1 : w.heap.size < wr.heap.size + 1 := by omega
          have HJ := hide hgj
          by_cases hjM : j < M
          · have hL2 : L2.length = M := by rw [HL.out, HM.out]
            have hpj := hgj.pl.cell
            rw [hL2] at hpj
            obtain ⟨g, cp3, hform⟩ := Joins.ownsRow_form hgj.pl.own (by omega)
            simp only [Value.slice.injEq] at hform
            obtain ⟨rfl, _, rfl⟩ := hform
            obtain ⟨r, hr0⟩ : ∃ r, L2[j]? = some r := ⟨_, List.getElem?_eq_getElem (by omega)⟩
            have hrd : L2.getD j q0 = r := by rw [List.getD_eq_getElem?_getD, hr0]; rfl
            have hat := cells3_at _ j r hr0
            have hc0 := (hgj.pl.own.cellAt (j * 3) (by omega)).trans hat.1
            have hc1 := (hgj.pl.own.cellAt (j * 3 + 1) (by omega)).trans hat.2.1
            have hc2 := (hgj.pl.own.cellAt (j * 3 + 2) (by omega)).trans hat.2.2
            have hgl : g < wr.heap.size := (hgj.pl.own.lt g rfl).2
            have hgl1 : g < wr.heap.size + 1 := by omega
            clear hgj hat hr0 hL2
            by_cases hjl : j < L.length
            · have hjlI : (j : Int) < (L.length : Int) := by omega
              obtain ⟨o, ho0⟩ : ∃ o, L[j]? = some o := ⟨_, List.getElem?_eq_getElem hjl⟩
              have ho : L.getD j q0 = o := by rw [List.getD_eq_getElem?_getD, ho0]; rfl
              obtain ⟨b0, off, rfl, hb0, c0, c1, c2⟩ := HC.out j o ho0
              have c0' : wr.cell? ⟨b0, off + j * 3, none⟩ = some (.string o.1) := by rw [hbel.cell (p := ⟨b0, off + j * 3, none⟩) hb0]; exact c0
              have c1' : wr.cell? ⟨b0, off + j * 3 + 1, none⟩ = some (.bool o.2.1) := by rw [hbel.cell (p := ⟨b0, off + j * 3 + 1, none⟩) hb0]; exact c1
              have c2' : wr.cell? ⟨b0, off + j * 3 + 2, none⟩ = some (.bool o.2.2) := by rw [hbel.cell (p := ⟨b0, off + j * 3 + 2, none⟩) hb0]; exact c2
              have hb1 : b0 < wr.heap.size := by omega
              clear c0 c1 c2 ho0 hbel
              obtain ⟨oa, ob, oc⟩ := o
              simp only at c0' c1' c2'
              by_cases hjx : j = ix
              · exfalso; omega
              · have hr := HO.out j hjx
                rw [ho, hrd] at hr
                clear HB1 HB2 HO HL HC HM
                cases hr
                have hjx' : ((j : Int) == (ix : Int)) = false := by rw [beq_eq_false_iff_ne]; omega
                go_wp2
                go_roundw
                case rel => exact ⟨j + 1, by omega, by go_num, gr_alloc (gr_alloc HJ.out _) _⟩
                case measure => simp [intOf]; omega
            · have hjlI : ¬ (j : Int) < (L.length : Int) := by omega
              have ho : L.getD j q0 = q0 := by rw [List.getD_eq_getElem?_getD, List.getElem?_eq_none (by omega)]; rfl
              clear hbel
              by_cases hjx : j = ix
              · subst hjx
                obtain ⟨hr, hg⟩ := HB1.out (by rw [ho]; rfl)
                rw [ho, hrd] at hr
                clear HB1 HB2 HO HL HC HM
                subst hg
                cases hr
                unfold q0 at hc2
                go_wp2
                go_roundw
                case rel => exact ⟨j + 1, by omega, by go_num, gr_alloc (gr_alloc HJ.out _) _⟩
                case measure => simp [intOf]; omega
              · have hr := HO.out j hjx
                rw [ho, hrd] at hr
                clear HB1 HB2 HO HL HC HM
                cases hr
                unfold q0 at hc0 hc1 hc2
                have hjx' : ((j : Int) == (ix : Int)) = false := by rw [beq_eq_false_iff_ne]; omega
                go_wp2
                go_roundw
                case rel => exact ⟨j + 1, by omega, by go_num, gr_alloc (gr_alloc HJ.out _) _⟩
                case measure => simp [intOf]; omega
          · clear hgj
            go_wp2
            go_ret
            exact ⟨rfl, hbel⟩
      · have hMe : (M : Int) = (L.length : Int) := by have := HM.out; omega
        have hML : L.length ≤ M := by have := HM.out; omega
        go_wp2_with fail
        go_loopw [13] (fun iv wr => ∃ (j : Nat), j ≤ M ∧ iv = .int .i64 (j : Int) ∧ Gr w wr L2 ao2 cp2) (fun iv _ => M - (intOf iv).toNat)
        case atStart => exact ⟨0, Nat.zero_le _, rfl, HG2.out⟩
        case round =>
          clear hpc
          obtain ⟨j, hj, rfl, hgj⟩ := hrel
          have hbel := hgj.bel
          have hszj : w.heap.size < wr.heap.size := hgj.size
          have hszj1 : w.heap.size < wr.heap.size + 1 := by omega
          have HJ := hide hgj
          by_cases hjM : j < M
          · have hL2 : L2.length = M := by rw [HL.out, HM.out]
            have hpj := hgj.pl.cell
            rw [hL2] at hpj
            obtain ⟨g, cp3, hform⟩ := Joins.ownsRow_form hgj.pl.own (by omega)
            simp only [Value.slice.injEq] at hform
            obtain ⟨rfl, _, rfl⟩ := hform
            obtain ⟨r, hr0⟩ : ∃ r, L2[j]? = some r := ⟨_, List.getElem?_eq_getElem (by omega)⟩
            have hrd : L2.getD j q0 = r := by rw [List.getD_eq_getElem?_getD, hr0]; rfl
            have hat := cells3_at _ j r hr0
            have hc0 := (hgj.pl.own.cellAt (j * 3) (by omega)).trans hat.1
            have hc1 := (hgj.pl.own.cellAt (j * 3 + 1) (by omega)).trans hat.2.1
            have hc2 := (hgj.pl.own.cellAt (j * 3 + 2) (by omega)).trans hat.2.2
            have hgl : g < wr.heap.size := (hgj.pl.own.lt g rfl).2
            have hgl1 : g < wr.heap.size + 1 := by omega
            clear hgj hat hr0 hL2
            by_cases hjl : j < L.length
            · have hjlI : (j : Int) < (L.length : Int) := by omega
              obtain ⟨o, ho0⟩ : ∃ o, L[j]? = some o := ⟨_, List.getElem?_eq_getElem hjl⟩
              have ho : L.getD j q0 = o := by rw [List.getD_eq_getElem?_getD, ho0]; rfl
              obtain ⟨b0, off, rfl, hb0, c0, c1, c2⟩ := HC.out j o ho0
              have c0' : wr.cell? ⟨b0, off + j * 3, none⟩ = some (.string o.1) := by rw [hbel.cell (p := ⟨b0, off + j * 3, none⟩) hb0]; exact c0
              have c1' : wr.cell? ⟨b0, off + j * 3 + 1, none⟩ = some (.bool o.2.1) := by rw [hbel.cell (p := ⟨b0, off + j * 3 + 1, none⟩) hb0]; exact c1
              have c2' : wr.cell? ⟨b0, off + j * 3 + 2, none⟩ = some (.bool o.2.2) := by rw [hbel.cell (p := ⟨b0, off + j * 3 + 2, none⟩) hb0]; exact c2
              have hb1 : b0 < wr.heap.size := by omega
              clear c0 c1 c2 ho0 hbel
              obtain ⟨oa, ob, oc⟩ := o
              simp only at c0' c1' c2'
              by_cases hjx : j = ix
              · subst hjx
                cases ob
                · obtain ⟨hr, hg⟩ := HB1.out (by rw [ho])
                  rw [ho, hrd] at hr
                  clear HB1 HB2 HO HL HC HM
                  subst hg
                  cases hr
                  go_wp2
                  go_roundw
                  case rel => exact ⟨j + 1, by omega, by go_num, gr_alloc (gr_alloc HJ.out _) _⟩
                  case measure => simp [intOf]; omega
                · obtain ⟨hg, hr⟩ := HB2.out (by rw [ho])
                  rw [ho] at hg hr
                  rw [hrd] at hr
                  simp only at hg hr
                  clear HB1 HB2 HO HL HC HM
                  by_cases hv : oa = v
                  · subst hv
                    simp only [decide_true, Bool.not_true, Bool.false_and, Bool.or_false] at hg hr
                    subst hg
                    cases hr
                    cases oc
                    · go_wp2
                      go_roundw
                      case rel => exact ⟨j + 1, by omega, by go_num, gr_alloc (gr_alloc HJ.out _) _⟩
                      case measure => simp [intOf]; omega
                    · go_wp2
                      go_roundw
                      case rel => exact ⟨j + 1, by omega, by go_num, gr_alloc (gr_alloc HJ.out _) _⟩
                      case measure => simp [intOf]; omega
                  · have hv1 := str_ne hv
                    have hv2 : (oa.toList == v.toList) = false := by rw [beq_eq_false_iff_ne]; exact hv1
                    rw [decide_eq_false hv] at hg hr
                    cases oc
                    · simp only [Bool.not_false, Bool.and_self, Bool.or_true] at hg hr
                      subst hg
                      cases hr
                      go_wp2
                      go_roundw
                      case rel => exact ⟨j + 1, by omega, by go_num, gr_alloc (gr_alloc HJ.out _) _⟩
                      case measure => simp [intOf]; omega
                    · simp only [Bool.not_false, Bool.not_true, Bool.and_false, Bool.or_false] at hg hr
                      subst hg
                      cases hr
                      go_wp2
                      go_roundw
                      case rel => exact ⟨j + 1, by omega, by go_num, gr_alloc (gr_alloc HJ.out _) _⟩
                      case measure => simp [intOf]; omega
              · have hr := HO.out j hjx
                rw [ho, hrd] at hr
                clear HB1 HB2 HO HL HC HM
                cases hr
                have hjx' : ((j : Int) == (ix : Int)) = false := by rw [beq_eq_false_iff_ne]; omega
                go_wp2
                go_roundw
                case rel => exact ⟨j + 1, by omega, by go_num, gr_alloc (gr_alloc HJ.out _) _⟩
                case measure => simp [intOf]; omega
            · exfalso; omega
          · clear hgj
            go_wp2
            go_ret
            exact ⟨rfl, hbel⟩
end Go.Proofs.Ybulkbcrm.places
