/-
  Seat b2680aD: the walk of the law's own builder.
-/
import Derived.Test.YbulkbcmcDoorBWalks
namespace Go.Proofs.YbulkbcmcDoor.lawB
open Go.RowKit

theorem res_new (w : World) : Res (w.alloc (.cells #[.string ⟨#[]⟩, .int .u64 0, .int .i32 0, .int .u32 0, .slice none 0 0, .slice none 0 0, .int .i64 0, .int .i64 0, .int .i64 0, .int .i64 0, .int .i64 0, .int .i64 0, .int .i64 0, .int .i64 0, .int .i64 0, .int .i64 0, .int .u32 0, .pointer none, .pointer none, .int .i64 0, .pointer none, .pointer none, .int .i64 0, .slice none 0 0] 37)) w.heap.size [0, 0, 0, 0, 0, 0, 0, 0, 0] 0 := by
  refine ⟨?_, by simp, ?_⟩
  · intro j hj
    rcases j with _ | _ | _ | _ | _ | _ | _ | _ | _ | j <;> simp
    omega
  · intro j hj
    simp

theorem u8_bd {zs : List Int} (hwz : ∀ n ∈ zs, (Lit.int .u8 n).wf = true) (k : Nat) (hk : k < zs.length) : 0 ≤ zs.getD k 0 ∧ zs.getD k 0 ≤ 255 := by
  have hm : zs.getD k 0 ∈ zs := by
    rw [List.getD_eq_getElem?_getD, List.getElem?_eq_getElem hk]
    exact List.getElem_mem hk
  have := hwz _ hm
  simp [Lit.wf, IntKind.min, IntKind.max, IntKind.signed, IntKind.bits] at this
  exact this

set_option maxHeartbeats 1000000 in
theorem build_some (b0 off len cap : Nat) (zs : List Int) (w : World) (hl : len ≤ 1024) (hz : len ≤ zs.length)
    (hcell : ∀ i, i < zs.length → w.cell? ⟨b0, off + i, none⟩ = some (.int .u8 (zs.getD i 0))) (hwz : ∀ n ∈ zs, (Lit.int .u8 n).wf = true) (hb0 : b0 < w.heap.size) :
    Calls Ybad.prog 6 #[.slice (some ⟨b0, off, none⟩) len cap] w fun e w' => e = .returned (.pointer (some ⟨w.heap.size, 0, none⟩)) ∧
      ∃ c h, Res w' w.heap.size c h ∧ Inv c h 1024 ∧ Below w.heap.size w w' ∧ w'.heap.size = w.heap.size + 1 := by
  go_enter Ybad.func6, Ybad.ntmps6
  go_wp2
  go_loopw [11] (fun i wr => ∃ (k : Nat) (c : List Int) (h : Nat), k ≤ len ∧ i = .int .i64 (k : Int) ∧ Res wr w.heap.size c h ∧ Inv c h k ∧ Below w.heap.size w wr ∧ wr.heap.size = w.heap.size + 1) (fun i _ => len - (intOf i).toNat)
  case atStart => exact ⟨0, _, _, Nat.zero_le _, rfl, res_new w, inv_zero, (Below.refl _ _).alloc (Nat.le_refl _) _, by simp⟩
  case round =>
    obtain ⟨k, c, h, hk, rfl, r, iv, hb, hsz⟩ := hrel
    by_cases hlt : k < len
    · have hc := hcell k (by omega)
      have hzb := u8_bd hwz k (by omega)
      have hc' : wr.cell? ⟨b0, off + k, none⟩ = some (.int .u8 (zs.getD k 0)) := by rw [hb.cell (p := ⟨b0, off + k, none⟩) hb0]; exact hc
      generalize zs.getD k 0 = z at *
      obtain ⟨hz0, hz1⟩ := hzb
      clear hcell hc hwz
      have m0 : 0 ≤ z % 9 := by omega
      have m9 : z % 9 < 9 := by omega
      have hcm := r.cell (z % 9).toNat (by omega)
      have hcb := iv.bd (z % 9).toNat (by omega)
      have HS : Hid (wr.heap.size = w.heap.size + 1) := hsz
      clear hsz
      generalize hx : c.getD (z % 9).toNat 0 = x at hcm hcb
      have HX : Hid (c.getD (z % 9).toNat 0 = x) := hx
      clear hx
      by_cases h128 : 128 ≤ z
      · by_cases hp : 0 < x
        · go_wp2_with fail
          refine (uncount_any _ _ c h k wr m0 m9 r iv (by omega) (by rw [HX.out]; exact hp)).mono ?_
          rintro e w1 ⟨rfl, c', h', r', iv', hb', hsz'⟩
          have HS' : Hid (w1.heap.size = wr.heap.size) := hsz'
          clear hsz'
          go_wp2
          go_roundw
          case rel => exact ⟨k + 1, c', h', by omega, by go_num, r', inv_mono iv' (by omega), hb.trans hb', HS'.out.trans HS.out⟩
          case measure => simp [intOf]; omega
        · go_wp2_with fail
          refine (count_any _ _ c h k wr m0 m9 r iv (by omega)).mono ?_
          rintro e w1 ⟨rfl, c', h', r', iv', _, hb', hsz'⟩
          have HS' : Hid (w1.heap.size = wr.heap.size) := hsz'
          clear hsz'
          go_wp2
          go_roundw
          case rel => exact ⟨k + 1, c', h', by omega, by go_num, r', iv', hb.trans hb', HS'.out.trans HS.out⟩
          case measure => simp [intOf]; omega
      · go_wp2_with fail
        refine (count_any _ _ c h k wr m0 m9 r iv (by omega)).mono ?_
        rintro e w1 ⟨rfl, c', h', r', iv', _, hb', hsz'⟩
        have HS' : Hid (w1.heap.size = wr.heap.size) := hsz'
        clear hsz'
        go_wp2
        go_roundw
        case rel => exact ⟨k + 1, c', h', by omega, by go_num, r', iv', hb.trans hb', HS'.out.trans HS.out⟩
        case measure => simp [intOf]; omega
    · go_wp2
      go_ret
      exact ⟨rfl, c, h, r, inv_mono iv (by omega), hb, hsz⟩

set_option maxHeartbeats 1000000 in
theorem build_nil (w : World) :
    Calls Ybad.prog 6 #[.slice none 0 0] w fun e w' => e = .returned (.pointer (some ⟨w.heap.size, 0, none⟩)) ∧
      ∃ c h, Res w' w.heap.size c h ∧ Inv c h 1024 ∧ Below w.heap.size w w' ∧ w'.heap.size = w.heap.size + 1 := by
  go_enter Ybad.func6, Ybad.ntmps6
  go_wp2
  refine wp_loop_rounds 1 ?_
  rw [rounds_succ]
  go_wp2
  go_ret
  exact ⟨rfl, _, _, res_new w, inv_mono inv_zero (by omega), (Below.refl _ _).alloc (Nat.le_refl _) _, by simp⟩
end Go.Proofs.YbulkbcmcDoor.lawB
