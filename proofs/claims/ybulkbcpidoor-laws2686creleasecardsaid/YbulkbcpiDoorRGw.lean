/-
  Seat b2686aD: the queues that were let go of, one by one.
-/
import Derived.Test.YbulkbcpiDoorRSort
namespace Go.Proofs.YbulkbcpiDoor.rel
open Go.RowKit

theorem Inv.weaken {E E' X : Nat → Prop} {s : St} (h : Inv E X s) (hE : ∀ j, E j → E' j) : Inv E' X s := h.frame rfl rfl rfl rfl rfl rfl (fun j hj hn hg => h.emp j hj (fun e => hn (hE j e)) hg) h.qn h.tn

section
variable {ow : Nat → Option Nat} {w : World} {M qm tm : Nat} {s : St} {E : Nat → Prop}

structure WLoop (ow : Nat → Option Nat) (w : World) (M qm tm : Nat) (E : Nat → Prop) (s : St) (js : List Nat) (k : Nat) (ow' : Nat → Option Nat) (s' : St) (gs : List (Nat × Nat)) (v1 : Value) (wr : World) : Prop where
  fr : FrG ow w ow' wr M qm tm s s' (.slice none 0 0) v1
  rep : Rep ow' wr M qm tm s'
  inv : Inv (fun j => E j ∧ j ∉ js.take k) NoE s'
  run : Gs s s' gs
  row : GRow wr v1 gs
  qb : ∀ j ∈ js.drop k, s'.qb j = s.qb j

def GW (ow : Nat → Option Nat) (w : World) (M qm tm : Nat) (E : Nat → Prop) (s : St) (js : List Nat) (v' : Value) (w' : World) : Prop :=
  ∃ ow' s' gs, FrX ow w ow' w' M qm tm s s' ∧ Rep ow' w' M qm tm s' ∧ Inv (fun j => E j ∧ j ∉ js) NoE s' ∧ Gs s s' gs ∧ GRow w' v' gs ∧ ∀ k, v'.ownBlock = some k → ow' k = none

theorem wl_end {js : List Nat} {k : Nat} {ow' : Nat → Option Nat} {s' : St} {gs : List (Nat × Nat)} {v1 : Value} {wr wx : World} (L : WLoop ow w M qm tm E s js k ow' s' gs v1 wr) (hk : js.length ≤ k) (bx : Below wr.heap.size wr wx) : GW ow w M qm tm E s js v1 wx := by
  have f := fr_below bx L.rep.fresh
  have fx : FrX ow' wr ow' wx M qm tm s' s' := FrX.of f (by simp) (fun _ _ hn => hn)
  have ht : js.take k = js := List.take_of_length_le hk
  have hi := L.inv
  rw [ht] at hi
  exact ⟨ow', s', gs, L.fr.nil.trans fx, L.rep.still f, hi, L.run, L.row.same (fun g e => bx.block g (L.row.lt e)), fun g e => (L.fr.pos g e).2⟩

set_option maxRecDepth 50000 in
set_option maxHeartbeats 4000000 in
theorem grantWaiting (h : Rep ow w M qm tm s) (I : Inv E NoE s) {js : List Nat} (hj3 : ∀ j ∈ js, j < 3 ∧ E j ∧ ∃ b, s.qb j = some b) (hnd : js.Nodup) {qsv : Value} {T : Nat} (hrow : w.ownsRow 0 T 1 qsv js.length ((js.map (blk s.qb)).map qp))
    (hk : ∀ g, qsv.ownBlock = some g → (ow g = none ∨ ∃ x, ow g = some x ∧ x < w.heap.size ∧ x ∉ dom M qm tm s)) :
    Calls Ybad.prog 23 #[.pointer (some ⟨M, 0, none⟩), qsv] w fun e w' => ∃ v', e = .returned v' ∧ GW ow w M qm tm E s js v' w' := by
  have START : Aside (WLoop ow w M qm tm E s js 0 ow s [] (.slice none 0 0) w) := ⟨FrG.refl ow w M qm tm s (fun g e => by cases e), h, I.weaken (fun j e => ⟨e, by simp⟩), Gs.refl s, ⟨by simp [gcs], .inl ⟨rfl, rfl⟩⟩, fun _ _ => rfl⟩
  obtain ⟨n, hn⟩ : ∃ n, js.length = n := ⟨_, rfl⟩
  have hn3 : n ≤ 3 := by rw [← hn]; exact nodup_len 3 js hnd (fun x hx => (hj3 x hx).1)
  have hlen : (js.map (blk s.qb)).length = n := by rw [List.length_map, hn]
  have hrow' : w.ownsRow 0 T 1 qsv (js.map (blk s.qb)).length ((js.map (blk s.qb)).map qp) := by rw [List.length_map]; exact hrow
  obtain ⟨qa, qc, rfl, hqc, HC⟩ : ∃ qa qc, qsv = .slice qa n qc ∧ n ≤ qc ∧ Aside (∀ ow' s' gs v1 wr k j, WLoop ow w M qm tm E s js k ow' s' gs v1 wr → js[k]? = some j → ∃ g b, s.qb j = some b ∧ qa = some ⟨g, 0, none⟩ ∧ g < wr.heap.size ∧ wr.cell? ⟨g, k, none⟩ = some (.pointer (some ⟨b, 0, none⟩))) := by
    rcases ptrs_form hrow' with ⟨rfl, h0⟩ | ⟨g, cap, rfl, hg, hcap, hcm, hc⟩
    · have hj0 : js = [] := by cases js with | nil => rfl | cons a l => simp at h0
      subst hj0
      have : n = 0 := by rw [← hn]; rfl
      subst this
      exact ⟨none, 0, rfl, Nat.le_refl _, fun ow' s' gs v1 wr k j _ e => by simp at e⟩
    · refine ⟨some ⟨g, 0, none⟩, cap, by rw [hlen], by omega, fun ow' s' gs v1 wr k j L e => ?_⟩
      obtain ⟨_, _, b, hb⟩ := hj3 j (List.mem_of_getElem? e)
      have hcell := hc k b (by rw [List.getElem?_map, e]; simp [blk, hb])
      have hkeep := L.fr.keep g hg (fun e => by cases e) (hk g rfl)
      refine ⟨g, b, hb, rfl, Nat.lt_of_lt_of_le hg L.fr.size, ?_⟩
      rw [World.cell?_of_block (a := ⟨g, k, none⟩) hkeep]
      exact hcell
  have HJ : Aside (∀ j ∈ js, j < 3 ∧ E j ∧ ∃ b, s.qb j = some b) := hj3
  have ND : Aside js.Nodup := hnd
  have HN : Aside (js.length = n) := hn
  have WA : Aside (s.wa ≤ 12) := I.wa12
  clear h I hj3 hnd hrow hk hn hlen hrow'
  go_enter Ybad.func23, Ybad.ntmps23
  go_wp2
  go_loopw [11, 5, 6] (fun iv gvv sv wr => ∃ (k : Nat) (ow' : Nat → Option Nat) (s' : St) (gs : List (Nat × Nat)) (v1 : Value), k ≤ n ∧ iv = .int .i64 (k : Int) ∧ v1 = gvv ∧ sv = .slice none 0 0 ∧ WLoop ow w M qm tm E s js k ow' s' gs v1 wr) (fun iv _ _ _ => n - (intOf iv).toNat)
  case atStart => exact ⟨0, ow, s, [], _, Nat.zero_le _, rfl, rfl, rfl, START.out⟩
  case round =>
    obtain ⟨k, ow', s', gs, v1, hkn, rfl, rfl, rfl, hL⟩ := hrel
    clear START
    by_cases hlt : k < n
    · obtain ⟨j, hj⟩ : ∃ j, js[k]? = some j := ⟨_, List.getElem?_eq_getElem (by rw [HN.out]; exact hlt)⟩
      obtain ⟨g, b, hb, rfl, gl, cg⟩ := HC.out _ _ _ _ _ _ _ hL hj
      have hjm : j ∈ js := List.mem_of_getElem? hj
      have hjd : j ∈ js.drop k := by
        rw [List.drop_eq_getElem_cons (by rw [HN.out]; exact hlt)]
        have := (List.getElem?_eq_some_iff.1 hj).2
        rw [this]; simp
      have hjt : j ∉ js.take k := by
        intro hm
        have hd := ND.out
        rw [← List.take_append_drop k js, List.nodup_append] at hd
        exact hd.2.2 j hm j hjd rfl
      have CALL : Aside (Calls Ybad.prog 31 #[.pointer (some ⟨M, 0, none⟩), v1, .slice none 0 0, .pointer (some ⟨b, 0, none⟩)] wr fun e w' => ∃ v', e = .returned (.tuple #[v', .slice none 0 0]) ∧ ∃ ow'' s'' gs', WLoop ow w M qm tm E s js (k + 1) ow'' s'' gs' v' w') := by
        have hcnt := hL.run.cnt
        have hwa := WA.out
        refine (grantQueue (i := j) hL.rep hL.inv ⟨(HJ.out j hjm).2.1, hjt⟩ (HJ.out j hjm).1 (by rw [hL.qb j hjd]; exact hb) hL.row (fun g e => (hL.fr.pos g e).2) (by omega)).mono ?_
        rintro e w' ⟨v', rfl, ow'', s'', gs', f, r, I', run, row, qb⟩
        have htk : js.take (k + 1) = js.take k ++ [j] := by rw [List.take_add_one, hj]; rfl
        have hdk : js.drop k = j :: js.drop (k + 1) := by
          rw [List.drop_eq_getElem_cons (by rw [HN.out]; exact hlt)]
          rw [(List.getElem?_eq_some_iff.1 hj).2]
        refine ⟨v', rfl, ow'', s'', gs ++ gs', hL.fr.trans f, r, I'.weaken (fun l e => ⟨e.1.1, ?_⟩), hL.run.trans run, row, fun l hl => ?_⟩
        · rw [htk, List.mem_append, List.mem_singleton]
          rintro (hm | hm)
          · exact e.1.2 hm
          · exact e.2 hm
        · have hlj : l ≠ j := by
            rintro rfl
            have hd := ND.out
            rw [← List.take_append_drop k js, List.nodup_append, hdk, List.nodup_cons] at hd
            exact hd.2.1.1 hl
          rw [qb l hlj, hL.qb l (by rw [hdk]; simp [hl])]
      clear hL hj hjm hjd hjt hb
      go_wp2_with fail
      refine CALL.out.mono ?_
      rintro e w2 ⟨v', rfl, ow'', s'', gs', hL'⟩
      have L2 := hide hL'
      clear hL' CALL
      go_wp2
      go_roundw
      case rel => exact ⟨k + 1, _, _, _, _, by omega, by go_num, rfl, rfl, L2.out⟩
      case measure => simp [intOf]; omega
    · have E1 : Aside (∀ wx, Below wr.heap.size wr wx → GW ow w M qm tm E s js v1 wx) := fun wx bx => wl_end hL (by rw [HN.out]; omega) bx
      clear hL
      go_wp2_with fail
      refine (grantSets M v1 wr).mono ?_
      rintro e w2 ⟨rfl, hb⟩
      have E2 := hide (E1.out w2 hb)
      clear hb E1
      go_wp2
      go_ret
      exact ⟨_, rfl, E2.out⟩

end

end Go.Proofs.YbulkbcpiDoor.rel
