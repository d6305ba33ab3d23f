/-
  Seat b2690a: LawS2690CModel: the plain Standing; its picture in memory; the steps of Add on it.
-/
import Derived.Test.YbulkbcrmModelM9
namespace Go.Proofs.Ybulkbcrm.model
open Go.RowKit

/-- What a Standing holds. -/
structure PSt : Type where
  low : Nat
  rel : Nat
  g : Nat → Option Nat
  kept : Nat
  L : Nat → Option Rec
  held : List Rec

def LV (w : World) (lv : Value) (L : Nat → Option Rec) : Prop :=
  (lv = .map none ∧ ∀ i, L i = none) ∨ ∃ m, lv = .map (some m) ∧ PM w 30 .u64 16 m (lvf L)

theorem LV.fr {S : Nat → Prop} {w w' : World} {lv : Value} {L : Nat → Option Rec} (h : LV w lv L) (f : Fr S w w') (hs : ∀ m, lv = .map (some m) → ¬ S m) : LV w' lv L := by
  rcases h with h | ⟨m, e, h⟩
  · exact .inl h
  · exact .inr ⟨m, e, h.fr f (hs m e)⟩

/-- The blocks that are the Standing's to turn: those from B to N, and whatever is new since M. -/
def Own (B N M k : Nat) : Prop := (B ≤ k ∧ k < N) ∨ M ≤ k

/-- The Standing in memory. -/
structure StW (B N : Nat) (W0 : World) (sb : Nat) (st : PSt) (mv lv hv : Value) (wx : World) : Prop where
  blk : SB wx sb st.low st.rel mv st.kept lv hv
  mm : MM wx mv st.g
  live : LV wx lv st.L
  seg : Seg wx hv st.held
  ne : ∀ m, mv = .map (some m) → lv ≠ .map (some m)
  osb : Own B N W0.heap.size sb
  om : ∀ m, mv = .map (some m) → Own B N W0.heap.size m
  ol : ∀ m, lv = .map (some m) → Own B N W0.heap.size m
  oh : ∀ k, hv.ownBlock = some k → Own B N W0.heap.size k
  fr : Fr (fun k => B ≤ k ∧ k < N) W0 wx

section
variable {B N : Nat} {W0 : World} {sb : Nat} {st : PSt} {mv lv hv : Value} {wx : World}

theorem StW.mne (h : StW B N W0 sb st mv lv hv wx) {m : Nat} (e : mv = .map (some m)) : ∃ es c, wx.heap[m]? = some (.map es c) := by
  rcases h.mm with ⟨e1, _⟩ | ⟨m', e1, hp⟩
  · rw [e] at e1; cases e1
  · rw [e] at e1; cases e1; exact hp.isMap

theorem StW.lne (h : StW B N W0 sb st mv lv hv wx) {m : Nat} (e : lv = .map (some m)) : ∃ es c, wx.heap[m]? = some (.map es c) := by
  rcases h.live with ⟨e1, _⟩ | ⟨m', e1, hp⟩
  · rw [e] at e1; cases e1
  · rw [e] at e1; cases e1; exact hp.isMap

theorem StW.m_sb (h : StW B N W0 sb st mv lv hv wx) {m : Nat} (e : mv = .map (some m)) : m ≠ sb := by
  rintro rfl
  obtain ⟨es, c, he⟩ := h.mne e
  have := h.blk
  unfold SB at this
  rw [he] at this
  cases this
theorem StW.l_sb (h : StW B N W0 sb st mv lv hv wx) {m : Nat} (e : lv = .map (some m)) : m ≠ sb := by
  rintro rfl
  obtain ⟨es, c, he⟩ := h.lne e
  have := h.blk
  unfold SB at this
  rw [he] at this
  cases this
theorem StW.h_sb (h : StW B N W0 sb st mv lv hv wx) {k : Nat} (e : hv.ownBlock = some k) : k ≠ sb := by
  rintro rfl
  exact seg_ne h.blk h.seg e
theorem StW.h_m (h : StW B N W0 sb st mv lv hv wx) {k m : Nat} (e : hv.ownBlock = some k) (e2 : mv = .map (some m)) : k ≠ m := by
  rintro rfl
  obtain ⟨es, c, he⟩ := h.mne e2
  obtain ⟨cur, hc⟩ := h.seg.kind e
  rw [he] at hc
  cases hc
theorem StW.h_l (h : StW B N W0 sb st mv lv hv wx) {k m : Nat} (e : hv.ownBlock = some k) (e2 : lv = .map (some m)) : k ≠ m := by
  rintro rfl
  obtain ⟨es, c, he⟩ := h.lne e2
  obtain ⟨cur, hc⟩ := h.seg.kind e
  rw [he] at hc
  cases hc

/-- A step that turns nothing of the Standing's. -/
theorem StW.quiet (h : StW B N W0 sb st mv lv hv wx) {w' : World} (f : Fr (fun _ => False) wx w') : StW B N W0 sb st mv lv hv w' :=
  ⟨h.blk.fr f (fun h => h), h.mm.fr f (fun _ _ h => h), h.live.fr f (fun _ _ h => h), h.seg.fr f (fun _ _ h => h), h.ne, h.osb, h.om, h.ol, h.oh, h.fr.andThen f (fun _ h => h.elim)⟩

theorem StW.drew (h : StW B N W0 sb st mv lv hv wx) : StW B N W0 sb st mv lv hv wx.drew := h.quiet (Fr.refl _ wx).drew
theorem StW.alloc (h : StW B N W0 sb st mv lv hv wx) (o : Obj) : StW B N W0 sb st mv lv hv (wx.alloc o) := h.quiet ((Fr.refl _ wx).alloc o)

theorem StW.grow (h : StW B N W0 sb st mv lv hv wx) {S : Nat → Prop} {w' : World} (f : Fr S wx w') (hS : ∀ k, S k → Own B N W0.heap.size k) : Fr (fun k => B ≤ k ∧ k < N) W0 w' := h.fr.andThen f (fun k hk => by
  rcases hS k hk with h1 | h1
  · exact .inl h1
  · exact .inr h1)

/-- A cell of the Standing's block is set. -/
theorem StW.set1 (h : StW B N W0 sb st mv lv hv wx) (x : Nat) : StW B N W0 sb { st with low := x } mv lv hv (wx.setCell ⟨sb, 1, none⟩ (.int .u64 (x : Int))) := by
  have f : Fr (fun k => k = sb) wx (wx.setCell ⟨sb, 1, none⟩ (.int .u64 (x : Int))) := (Fr.refl (fun k => k = sb) wx).setCell (.inl rfl) _ _
  exact ⟨h.blk.set1 x, h.mm.fr f (fun m e => h.m_sb e), h.live.fr f (fun m e => h.l_sb e), h.seg.fr f (fun k e => h.h_sb e), h.ne, h.osb, h.om, h.ol, h.oh, h.grow f (fun k e => by rw [e]; exact h.osb)⟩
theorem StW.set4 (h : StW B N W0 sb st mv lv hv wx) (x : Nat) : StW B N W0 sb { st with kept := x } mv lv hv (wx.setCell ⟨sb, 4, none⟩ (.int .u64 (x : Int))) := by
  have f : Fr (fun k => k = sb) wx (wx.setCell ⟨sb, 4, none⟩ (.int .u64 (x : Int))) := (Fr.refl (fun k => k = sb) wx).setCell (.inl rfl) _ _
  exact ⟨h.blk.set4 x, h.mm.fr f (fun m e => h.m_sb e), h.live.fr f (fun m e => h.l_sb e), h.seg.fr f (fun k e => h.h_sb e), h.ne, h.osb, h.om, h.ol, h.oh, h.grow f (fun k e => by rw [e]; exact h.osb)⟩
/-- The row of held slots is set anew. -/
theorem StW.set6 (h : StW B N W0 sb st mv lv hv wx) (hv' : Value) (l' : List Rec) (hs : Seg wx hv' l') (ho : ∀ k, hv'.ownBlock = some k → Own B N W0.heap.size k) : StW B N W0 sb { st with held := l' } mv lv hv' (wx.setCell ⟨sb, 6, none⟩ hv') := by
  have f : Fr (fun k => k = sb) wx (wx.setCell ⟨sb, 6, none⟩ hv') := (Fr.refl (fun k => k = sb) wx).setCell (.inl rfl) _ _
  exact ⟨h.blk.set6 hv', h.mm.fr f (fun m e => h.m_sb e), h.live.fr f (fun m e => h.l_sb e), hs.fr f (fun k e e2 => seg_ne h.blk hs (by rw [e, e2])), h.ne, h.osb, h.om, h.ol, ho, h.grow f (fun k e => by rw [e]; exact h.osb)⟩

theorem StW.make (h : StW B N W0 sb st mv (.map none) hv wx) : StW B N W0 sb st mv (.map (some wx.heap.size)) hv ((wx.setCell ⟨sb, 5, none⟩ (.map (some wx.heap.size))).alloc (.map #[] 0)) := by
  have f1 : Fr (fun k => k = sb) wx (wx.setCell ⟨sb, 5, none⟩ (.map (some wx.heap.size))) := (Fr.refl (fun k => k = sb) wx).setCell (.inl rfl) _ _
  have f : Fr (fun k => k = sb) wx ((wx.setCell ⟨sb, 5, none⟩ (.map (some wx.heap.size))).alloc (.map #[] 0)) := f1.alloc _
  have hL : ∀ i, st.L i = none := by
    rcases h.live with ⟨_, h0⟩ | ⟨m, e, _⟩
    · exact h0
    · cases e
  have hW := h.fr.size
  refine ⟨(h.blk.set5 _).same (Below.heap_alloc _ _ _ (by simp; exact h.blk.lt)), h.mm.fr f (fun m e => h.m_sb e), .inr ⟨_, rfl, ?_⟩, h.seg.fr f (fun k e => h.h_sb e), fun m e e2 => ?_, h.osb, h.om, fun m e => ?_, h.oh, h.grow f (fun k e => by rw [e]; exact h.osb)⟩
  · have := PM.made (f := lvf st.L) (wx.setCell ⟨sb, 5, none⟩ (.map (some wx.heap.size))) 30 .u64 16 (fun i => by simp [lvf, hL i])
    simp only [World.size_setCell] at this
    exact this
  · cases e2
    obtain ⟨es, c, he⟩ := h.mne e
    have := heap_lt he
    omega
  · cases e
    exact .inr hW
end

end Go.Proofs.Ybulkbcrm.model
