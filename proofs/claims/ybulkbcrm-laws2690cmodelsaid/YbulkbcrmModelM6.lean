/-
  Seat b2690a: LawS2690CModel: evict's closure.
-/
import Derived.Test.YbulkbcrmModelM5
namespace Go.Proofs.Ybulkbcrm.model
open Go.RowKit

def dropV (pb : Nat) : Value := .func (Fn.func 14) #[] #[.pointer (some ⟨pb, 0, none⟩)]

set_option maxRecDepth 100000 in
set_option maxHeartbeats 2000000 in
theorem evict1 {w : World} {sb pb mb db lm low rel : Nat} {mv : Value} {kept : Nat} {lv hv : Value} {l : List Rec} (T : World → Prop) (r : Rec)
    (hmb : w.heap[mb]? = some (.cells #[.map (some lm)] 69 (0, 0))) (hdb : w.heap[db]? = some (.cells #[dropV pb] 81 (0, 0))) (hp : PB w pb sb) (hs : SB w sb low rel mv kept lv hv) (hg : Seg w hv l) (hn : l.length ≤ 100)
    (hlm : ∃ es c, w.heap[lm]? = some (.map es c))
    (hdel : ∃ w', (Builtin.delete_ #[69, 30] 0 #[.map (some lm), .int .u64 (r.slot : Int)]).run Yba.prog (w.alloc (.cells (rcl r).toArray 52)) = .ok (.tuple #[]) w' ∧ T w' ∧ (w.alloc (.cells (rcl r).toArray 52)).mapTurned w' lm)
    (hT : ∀ w1 w2 : World, T w1 → w1.heap.size ≤ w2.heap.size → (∀ k, k ≠ sb → hv.ownBlock ≠ some k → k < w1.heap.size → w2.heap[k]? = w1.heap[k]?) → T w2) :
    Calls Yba.prog 24 #[.int .u64 (r.slot : Int), rcv r, .pointer (some ⟨mb, 0, none⟩), .pointer (some ⟨db, 0, none⟩)] w fun e w' => e = .returned (.tuple #[]) ∧ T w' ∧
      ∃ hv', SB w' sb low rel mv kept lv hv' ∧ Seg w' hv' (l ++ [r]) ∧ Fr (fun k => k = sb ∨ k = lm ∨ hv.ownBlock = some k) w w' ∧ (hv'.ownBlock = hv.ownBlock ∨ ∀ g, hv'.ownBlock = some g → w.heap.size ≤ g) := by
  obtain ⟨w1, hrun, hT1, hturn⟩ := hdel
  obtain ⟨es, cl, hmap⟩ := hlm
  have hneq : ∀ w : World, (binOp BinOp.neq 81 (dropV pb) .nilFunc).run Yba.prog w = .ok (.bool true) w := fun _ => by kernel_rfl
  have F0 : Fr (fun _ => False) w (w.alloc (.cells (rcl r).toArray 52)) := (Fr.refl _ w).alloc _
  have F1 : Fr (fun k => k = lm) w w1 := (F0.mono (T := fun k => k = lm) (fun k h => h.elim)).turned hturn (.inl rfl)
  have n1 : sb ≠ lm := by rintro rfl; have := hs; unfold SB at this; rw [hmap] at this; cases this
  have n2 : pb ≠ lm := by rintro rfl; have := hp; unfold PB at this; rw [hmap] at this; cases this
  have n3 : mb ≠ lm := by rintro rfl; rw [hmap] at hmb; cases hmb
  have n4 : db ≠ lm := by rintro rfl; rw [hmap] at hdb; cases hdb
  have n5 : ∀ g, hv.ownBlock = some g → g ≠ lm := fun g e e2 => by obtain ⟨cur, hc⟩ := hg.kind e; rw [e2, hmap] at hc; cases hc
  have cm : w.cell? ⟨mb, 0, none⟩ = some (.map (some lm)) := cell_of hmb rfl
  have cd : w1.cell? ⟨db, 0, none⟩ = some (dropV pb) := cell_of ((F1.keep db (heap_lt hdb) n4).trans hdb) rfl
  have hml := heap_lt hmb
  have hdl := heap_lt hdb
  have e52 : w1.heap[w.heap.size]? = some (.cells (rcl r).toArray 52 (0, 0)) := by
    have hl := heap_lt hmap
    rw [hturn.grown.block w.heap.size (by simp) (fun e => by cases e; omega)]
    exact alloc_new _ _
  have c := add1 r (hp.fr F1 n2) (hs.fr F1 n1) (hg.fr F1 n5) hn
  have END : ∀ w2 : World, (∃ hv', SB w2 sb low rel mv kept lv hv' ∧ Seg w2 hv' (l ++ [r]) ∧ Fr (fun k => k = sb ∨ hv.ownBlock = some k) w1 w2 ∧ (hv'.ownBlock = hv.ownBlock ∨ ∀ g, hv'.ownBlock = some g → w1.heap.size ≤ g)) →
      T w2 ∧ ∃ hv', SB w2 sb low rel mv kept lv hv' ∧ Seg w2 hv' (l ++ [r]) ∧ Fr (fun k => k = sb ∨ k = lm ∨ hv.ownBlock = some k) w w2 ∧ (hv'.ownBlock = hv.ownBlock ∨ ∀ g, hv'.ownBlock = some g → w.heap.size ≤ g) := by
    rintro w2 ⟨hv', a1, a2, a3, a4⟩
    refine ⟨hT w1 w2 hT1 a3.size (fun k k1 k2 k3 => a3.keep k k3 (by rintro (h | h); exact k1 h; exact k2 h)), hv', a1, a2, (F1.mono (fun k h => .inl (.inr (.inl h)))).andThen a3 (fun k h => ?_), ?_⟩
    · rcases h with h | h
      · exact .inl (.inl h)
      · exact .inl (.inr (.inr h))
    · rcases a4 with h | h
      · exact .inl h
      · exact .inr (fun g e => Nat.le_trans F1.size (h g e))
  have END' := hide END
  have HRUN := hide hrun
  have C := hide c
  obtain ⟨slot, low', rel', log, ra, rl, rc⟩ := r
  have x0 := cell_of (j := 0) e52 rfl
  have x1 := cell_of (j := 1) e52 rfl
  have x2 := cell_of (j := 2) e52 rfl
  have x3 := cell_of (j := 3) e52 rfl
  have x4 := cell_of (j := 4) e52 rfl
  have x5 := cell_of (j := 5) e52 rfl
  have x6 := cell_of (j := 6) e52 rfl
  have x7 := cell_of (j := 7) e52 rfl
  have x8 := cell_of (j := 8) e52 rfl
  have x9 := cell_of (j := 9) e52 rfl
  have x10 := cell_of (j := 10) e52 rfl
  have x11 := cell_of (j := 11) e52 rfl
  unfold rcl at HRUN
  simp only at HRUN x0 x1 x2 x3 x4 x5 x6 x7 x8 x9 x10 x11
  unfold rcv at C ⊢
  clear c END hrun F0 F1 hT1 hturn hT hp hs hg hmb hdb hmap n5 e52
  unfold dropV at cd hneq
  go_enter Yba.func24, Yba.ntmps24
  have hrun2 := HRUN.out
  go_wp2_with fail
  go_at_call 14
  refine C.out.mono ?_
  rintro e w2 ⟨rfl, h2⟩
  have E2 := hide (END'.out w2 h2)
  clear h2 C END'
  go_wp2_with fail
  go_end0
  exact ⟨rfl, E2.out⟩

end Go.Proofs.Ybulkbcrm.model
