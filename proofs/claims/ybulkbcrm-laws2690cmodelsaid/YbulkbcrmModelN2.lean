/-
  Seat b2690a: LawS2690CModel: the steps of Add on the Standing's picture.
-/
import Derived.Test.YbulkbcrmModelN1
namespace Go.Proofs.Ybulkbcrm.model
open Go.RowKit

section
variable {B N : Nat} {W0 : World} {sb : Nat} {st : PSt} {mv lv hv : Value} {wx : World}

theorem StW.evicted {lm : Nat} (h : StW B N W0 sb st mv (.map (some lm)) hv wx) {L' : Nat → Option Rec} {xs : List Rec} {w' : World} (he : Ev wx sb lm st.low st.rel mv st.kept (.map (some lm)) hv st.held xs w') (hp : PM w' 30 .u64 16 lm (lvf L')) :
    ∃ hv', StW B N W0 sb { st with L := L', held := st.held ++ xs } mv (.map (some lm)) hv' w' := by
  obtain ⟨hv', a1, a2, a3, a4⟩ := he
  have hsz := h.fr.size
  refine ⟨hv', a1, h.mm.fr a3 (fun m e => ?_), .inr ⟨lm, rfl, hp⟩, a2, h.ne, h.osb, h.om, h.ol, fun k e => ?_, h.grow a3 (fun k hk => ?_)⟩
  · rintro (e2 | e2 | e2)
    · exact h.m_sb e e2
    · exact h.ne m e (by rw [e2])
    · exact h.h_m e2 e rfl
  · rcases a4 with h4 | h4
    · exact h.oh k (by rw [← h4]; exact e)
    · exact .inr (Nat.le_trans hsz (h4 k e))
  · rcases hk with e | e | e
    · rw [e]; exact h.osb
    · rw [e]; exact h.ol lm rfl
    · exact h.oh k e

/-- The tail of the row is sorted. -/
theorem StW.sorted {l xs ys : List Rec} (h : StW B N W0 sb { st with held := l ++ xs } mv lv hv wx) {g off cap : Nat} {cur cur' : Array Value} (e : hv = .slice (some ⟨g, off, none⟩) (l ++ xs).length cap) (hc : ∀ j u, (hcs (l ++ xs))[j]? = some u → cur[off + j]? = some u)
    (hcap : (l ++ xs).length ≤ cap ∧ cap ≤ maxLen ∧ off + cap * 13 ≤ cur.size) {w' : World} (hl : ys.length = xs.length) (f : Fr (fun k => k = g) wx w') (hg' : w'.heap[g]? = some (.cells cur' 80 (0, 0))) (hs : cur'.size = cur.size)
    (hy : ∀ j u, (hcs ys)[j]? = some u → cur'[off + l.length * 13 + j]? = some u) (ho : ∀ j, j < off + l.length * 13 ∨ off + l.length * 13 + xs.length * 13 ≤ j → cur'[j]? = cur[j]?) :
    StW B N W0 sb { st with held := l ++ ys } mv lv hv w' := by
  have hob : hv.ownBlock = some g := by rw [e]; rfl
  refine ⟨h.blk.fr f (fun e => h.h_sb hob e.symm), h.mm.fr f (fun m e1 e2 => h.h_m hob e1 e2.symm), h.live.fr f (fun m e1 e2 => h.h_l hob e1 e2.symm), ?_, h.ne, h.osb, h.om, h.ol, h.oh, h.grow f (fun k e2 => h.oh k (by rw [hob, e2]))⟩
  refine .inr ⟨g, off, cap, cur', by rw [e]; simp [hl], hg', by simpa [hl] using hcap.1, hcap.2.1, by rw [hs]; exact hcap.2.2, fun j u hu => ?_⟩
  rw [hcs_append] at hu
  by_cases hj : j < l.length * 13
  · rw [List.getElem?_append_left (by rw [hcs_length]; exact hj)] at hu
    rw [ho _ (.inl (by omega))]
    exact hc j u (by rw [hcs_append, List.getElem?_append_left (by rw [hcs_length]; exact hj)]; exact hu)
  · rw [List.getElem?_append_right (by rw [hcs_length]; omega), hcs_length] at hu
    have := hy _ u hu
    rw [show off + l.length * 13 + (j - l.length * 13) = off + j by omega] at this
    exact this

theorem StW.reg (h : StW B N W0 sb st mv lv hv wx) {rel' : Nat} {g' : Nat → Option Nat} {mv' : Value} {w' : World} (a1 : SB w' sb st.low rel' mv' st.kept lv hv) (a2 : MM w' mv' g') (a3 : Fr (fun k => k = sb ∨ mv = .map (some k)) wx w') (a4 : mv' = mv ∨ mv' = .map none ∨ ∃ m', mv' = .map (some m') ∧ wx.heap.size ≤ m') :
    StW B N W0 sb { st with rel := rel', g := g' } mv' lv hv w' := by
  have hsz := h.fr.size
  refine ⟨a1, a2, h.live.fr a3 (fun m e => ?_), h.seg.fr a3 (fun k e => ?_), fun m e => ?_, h.osb, fun m e => ?_, h.ol, h.oh, h.grow a3 (fun k hk => ?_)⟩
  · rintro (e2 | e2)
    · exact h.l_sb e e2
    · exact h.ne m e2 e
  · rintro (e2 | e2)
    · exact h.h_sb e e2
    · exact h.h_m e e2 rfl
  · rcases a4 with h4 | h4 | ⟨m', h4, h5⟩
    · exact h.ne m (by rw [← h4]; exact e)
    · rw [e] at h4; cases h4
    · rw [e] at h4
      cases h4
      intro e2
      obtain ⟨es, c, he⟩ := h.lne e2
      have := heap_lt he
      omega
  · rcases a4 with h4 | h4 | ⟨m', h4, h5⟩
    · exact h.om m (by rw [← h4]; exact e)
    · rw [e] at h4; cases h4
    · rw [e] at h4
      cases h4
      exact .inr (Nat.le_trans hsz h5)
  · rcases hk with e | e
    · rw [e]; exact h.osb
    · exact h.om k e

/-- The row is cleared in front. -/
theorem StW.cleared (h : StW B N W0 sb st mv lv hv wx) {g off cap i : Nat} {cur : Array Value} (zs : List Value) (e : hv = .slice (some ⟨g, off, none⟩) st.held.length cap) (hg : wx.heap[g]? = some (.cells cur 80 (0, 0))) (hc : ∀ j u, (hcs st.held)[j]? = some u → cur[off + j]? = some u)
    (hcap : st.held.length ≤ cap ∧ cap ≤ maxLen ∧ off + cap * 13 ≤ cur.size) (hi : i ≤ st.held.length) (hz : zs.length = i * 13) :
    let w' := wx.setCells g off zs
    SB w' sb st.low st.rel mv st.kept lv hv ∧ MM w' mv st.g ∧ LV w' lv st.L ∧ Seg w' (.slice (some ⟨g, off + i * 13, none⟩) (st.held.length - i) (cap - i)) (st.held.drop i) ∧ Fr (fun k => B ≤ k ∧ k < N) W0 w' := by
  intro w'
  have hob : hv.ownBlock = some g := by rw [e]; rfl
  have f : Fr (fun k => k = g) wx w' := (Fr.refl (fun k => k = g) wx).grown (grown_setCells wx g off zs) (fun k e2 => .inl (by cases e2; rfl))
  refine ⟨h.blk.fr f (fun e => h.h_sb hob e.symm), h.mm.fr f (fun m e1 e2 => h.h_m hob e1 e2.symm), h.live.fr f (fun m e1 e2 => h.h_l hob e1 e2.symm), ?_, h.grow f (fun k e2 => h.oh k (by rw [hob, e2]))⟩
  refine .inr ⟨g, off + i * 13, cap - i, over cur off zs, by simp, heap_setCells_same zs off wx cur hg, by simp; omega, by omega, by rw [over_size]; omega, fun j u hu => ?_⟩
  rw [over_get _ _ _ _ (by omega), if_neg (by omega), Nat.add_assoc]
  refine hc _ u ?_
  rw [← hcs_drop, List.getElem?_drop] at hu
  exact hu

/-- The live map takes a state. -/
theorem StW.put {lm : Nat} (h : StW B N W0 sb st mv (.map (some lm)) hv wx) {w' : World} {r : Rec} {s : Nat} (hp : PM w' 30 .u64 16 lm (upd (lvf st.L) s (some (rcv r)))) (ht : wx.mapTurned w' lm) :
    StW B N W0 sb { st with L := upd st.L s (some r) } mv (.map (some lm)) hv w' := by
  have f : Fr (fun k => k = lm) wx w' := (Fr.refl (fun k => k = lm) wx).turned ht (.inl rfl)
  have e0 : lvf (upd st.L s (some r)) = upd (lvf st.L) s (some (rcv r)) := by
    funext i
    by_cases e : i = s <;> simp [lvf, upd, e]
  exact ⟨h.blk.fr f (fun e => h.l_sb rfl e.symm), h.mm.fr f (fun m e1 e2 => h.ne m e1 (by rw [e2])), .inr ⟨lm, rfl, by rw [e0]; exact hp⟩, h.seg.fr f (fun k e1 e2 => h.h_l e1 rfl e2), h.ne, h.osb, h.om, h.ol, h.oh, h.grow f (fun k e2 => by rw [e2]; exact h.ol lm rfl)⟩

end

/-! ### clear -/

theorem run_clear_any {P : Program} (w : World) (t e ty : TypeId) (z : Value) (ht : P.underlying t = some (.slice e)) (hv : ∀ w, (zeroValue e).run P w = .ok z w) (b o n c : Nat) (zs : List Value) (hzs : (Builtin.zeroCells z.cells n).toList = zs) (h1 : ∀ u ∈ zs, u.oneCell' = true) (hn : 0 < n)
    (hc : ∀ j, j < zs.length → (w.cell? ⟨b, o + j, none⟩).isSome = true) (hf : ∀ j, j < zs.length → w.frozen? ⟨b, o + j, none⟩ = false) :
    (Builtin.clear_ #[t] ty #[.slice (some ⟨b, o, none⟩) n c]).run P w = .ok (.tuple #[]) (w.setCells b o zs) := by
  have hst := run_storeCells_cells (P := P) b o zs 0 w (by simpa using hc) (by simpa using hf) h1
  simp only [Nat.add_zero] at hst
  obtain ⟨m, rfl⟩ : ∃ m, n = m + 1 := ⟨n - 1, by omega⟩
  simp [Builtin.clear_, run_underlying ht, hv, hzs, hst]

theorem clear_none {P : Program} (w : World) (t e ty : TypeId) (ht : P.underlying t = some (.slice e)) (a : Option Addr) (c : Nat) : (Builtin.clear_ #[t] ty #[.slice a 0 c]).run P w = .ok (.tuple #[]) w := by
  cases a <;> simp [Builtin.clear_, run_underlying ht]

theorem zero80 (w : World) : (zeroValue 80).run Yba.prog w = .ok (hcv zrec) w := by kernel_rfl

theorem zeros13 (n : Nat) : (Builtin.zeroCells (hcv zrec).cells n).toList.length = n * 13 ∧ ∀ u ∈ (Builtin.zeroCells (hcv zrec).cells n).toList, u.oneCell' = true := by
  constructor
  · simp [Builtin.zeroCells, Value.cells, hcv]
  · intro u hu
    simp [Builtin.zeroCells, Value.cells, hcv] at hu
    obtain ⟨i, _, rfl⟩ := hu
    have : i % 13 < 13 := Nat.mod_lt _ (by omega)
    rcases (by omega : i % 13 = 0 ∨ i % 13 = 1 ∨ i % 13 = 2 ∨ i % 13 = 3 ∨ i % 13 = 4 ∨ i % 13 = 5 ∨ i % 13 = 6 ∨ i % 13 = 7 ∨ i % 13 = 8 ∨ i % 13 = 9 ∨ i % 13 = 10 ∨ i % 13 = 11 ∨ i % 13 = 12) with h | h | h | h | h | h | h | h | h | h | h | h | h <;> rw [h] <;> rfl

end Go.Proofs.Ybulkbcrm.model
