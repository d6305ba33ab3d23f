/-
  Seat b2686aD: a record or a queue leaves the manager's maps, and is kept as a spare one.
-/
import Derived.Test.YbulkbcpiDoorRSpt
namespace Go.Proofs.YbulkbcpiDoor.rel
open Go.RowKit

section
variable {ow : Nat → Option Nat} {w : World} {M qm tm : Nat} {s : St}

theorem FrX.then {ow1 ow2 : Nat → Option Nat} {w1 w2 : World} {s1 s2 : St} {S : List Nat} (h : FrX ow w ow1 w1 M qm tm s s1) (k : Fr ow1 w1 ow2 w2 S) (hS : ∀ x ∈ S, x ∈ dom M qm tm s ∨ x ∈ dom M qm tm s1 ∨ w.heap.size ≤ x)
    (hd : ∀ x, x < w.heap.size → x ∉ dom M qm tm s → x ∉ dom M qm tm s2) : FrX ow w ow2 w2 M qm tm s s2 := by
  have := h.size
  refine ⟨k.os.trans h.os, k.tape.trans h.tape, k.output.trans h.output, Nat.le_trans h.size k.size, fun j hj => (k.old j (by omega)).trans (h.old j hj), fun j hj hs => ?_, hd⟩
  rw [k.keep j (by omega) ?_, h.keep j hj hs]
  rw [h.old j hj]
  rcases hs with hs | ⟨x, e, hx, hn⟩
  · intro z hz; rw [hs] at hz; cases hz
  · intro z hz hm
    rw [e] at hz
    cases hz
    rcases hS _ hm with h' | h' | h'
    · exact hn h'
    · exact h.dm _ hx hn h'
    · omega

/-- A record leaves the map. -/
theorem Rep.dropT (h : Rep ow w M qm tm s) {y t : Nat} (hy : y < 4) (ht : s.tb y = some t) {w2 : World} (pt2 : PM w2 3 tlit 4 tm (upd s.tb y none)) (hturn : w.mapTurned w2 tm) {hl' : Nat → List Nat} {wl' : Nat → Option Nat} (e1 : ∀ z, z ≠ y → hl' z = s.hl z) (e2 : ∀ z, z ≠ y → wl' z = s.wl z) :
    Rep ow w2 M qm tm { s with tb := upd s.tb y none, hl := hl', wl := wl' } ∧ Fr ow w ow w2 [tm] ∧ t ∉ dom M qm tm { s with tb := upd s.tb y none, hl := hl', wl := wl' } ∧ tm ≠ t ∧ tm ≠ M := by
  obtain ⟨sqv, stv, mg, ⟨r1, o1⟩, ⟨r2, o2⟩⟩ := h.mg
  have f : Fr ow w ow w2 [tm] := Fr.turned h.fresh hturn h.ot
  obtain ⟨hv, wv, x⟩ := h.ts y hy t ht
  have htM := x.ne_mg mg
  have hqt : t ≠ qm := h.pq.blkne x.blk
  have htt : t ≠ tm := h.pt.blkne x.blk
  have hnq : ∀ i, i < 3 → s.qb i ≠ some t := fun i hi e => by obtain ⟨_, _, q⟩ := h.qs i hi t e; exact q.ne_tx x rfl
  have hns : t ∉ s.sq := fun e => by obtain ⟨_, _, q⟩ := h.sqs t e; exact q.ne_tx x rfl
  have htmM : tm ≠ M := Ne.symm (h.pt.blkne mg)
  have hrow : w2.ownsRow 0 62 1 stv s.st.length (s.st.map qp) := by
    refine ownsRow_same r2 (fun g hg => ?_)
    have hgq : g ≠ tm := by
      rintro rfl
      obtain ⟨es, c, es', c', hh, _⟩ := hturn
      rcases r2.2 with ⟨rfl, _⟩ | ⟨g', cap', cur, rfl, _, h2, _⟩
      · cases hg
      · simp [Value.ownBlock] at hg
        subst hg
        rw [h2] at hh
        cases hh
    exact hturn.grown.block g (ownsRow_lt r2 hg) (fun e => hgq (by cases e; rfl))
  refine ⟨h.reT (f.mono (T := [M, tm, t]) (by simp)) mg (mg.fr f h.oM (by simp [Ne.symm htmM])) hrow o2 pt2 ?_ ?_ hnq hns htM hqt htt ?_ h.stn ?_ h.stl, f, ?_, Ne.symm htt, htmM⟩
  · intro j hj c hc
    by_cases e : j = y
    · subst e; rw [upd_same] at hc; cases hc
    · rw [upd_ne _ _ e] at hc
      exact .inr ⟨fun e2' => e (h.tinj j y t hj hy (by rw [← e2']; exact hc) ht), hc, e1 j e, e2 j e⟩
  · intro c hc
    exact .inr ⟨fun e => h.tsp y t hy ht (by rw [← e]; exact hc), hc⟩
  · intro a b c ha hb ea eb
    by_cases e : a = y
    · subst e; rw [upd_same] at ea; cases ea
    · by_cases e' : b = y
      · subst e'; rw [upd_same] at eb; cases eb
      · rw [upd_ne _ _ e] at ea; rw [upd_ne _ _ e'] at eb; exact h.tinj a b c ha hb ea eb
  · intro a c ha ea
    by_cases e : a = y
    · subst e; rw [upd_same] at ea; cases ea
    · rw [upd_ne _ _ e] at ea; exact h.tsp a c ha ea
  · intro hm
    rcases mem_dom.1 hm with e | e | e | ⟨j, hj, e⟩ | ⟨y', hy', e⟩ | e | e
    · exact htM e
    · exact hqt e
    · exact htt e
    · exact hnq j hj e
    · by_cases ey : y' = y
      · subst ey; simp only [upd_same] at e; cases e
      · simp only [upd_ne _ _ ey] at e; exact ey (h.tinj y' y t hy' hy e ht)
    · exact hns e
    · exact h.tsp y t hy ht e

/-- A record that is in no map becomes a spare one. -/
theorem Rep.spT (h : Rep ow w M qm tm s) {t : Nat} (hd : t ∉ dom M qm tm s) {hdl wt : List Nat} {hv wv : Value} (x : Tx ow w t hdl wt hv wv) {sqv stv : Value} (mg : Mg w M qm tm s.lo s.wa sqv stv) {w' : World} (sp : SpT ow w M qm tm s.lo s.wa sqv s.st t w') :
    ∃ ow' st', Rep ow' w' M qm tm { s with st := st' } ∧ Fr ow w ow' w' [M, tm, t] ∧ (∀ c ∈ st', c ∈ s.st ∨ c = t) := by
  obtain ⟨ow', stv', st', f, mg', row, own, hlen, hmp, hst⟩ := sp
  have nd : ∀ c, c ∈ dom M qm tm s → c ≠ t := fun c hc e => hd (e ▸ hc)
  have hnM : t ≠ M := Ne.symm (nd M (mem_dom.2 (.inl rfl)))
  have hnq : t ≠ qm := Ne.symm (nd qm (mem_dom.2 (.inr (.inl rfl))))
  have hnt : t ≠ tm := Ne.symm (nd tm (mem_dom.2 (.inr (.inr (.inl rfl)))))
  have hsub : ∀ c ∈ st', c ∈ s.st ∨ c = t := by
    intro c hc
    rcases hst with rfl | ⟨rfl, _⟩
    · exact .inl hc
    · simpa using hc
  have htst : t ∉ s.st := fun e => nd t (mem_dom.2 (.inr (.inr (.inr (.inr (.inr (.inr e))))))) rfl
  have hltb : ∀ y c, y < 4 → s.tb y = some c → c ≠ t := fun y c hy e => nd c (mem_dom.2 (.inr (.inr (.inr (.inr (.inl ⟨y, hy, e⟩))))))
  have pt2 : PM w' 3 tlit 4 tm s.tb := h.pt.same hmp
  refine ⟨ow', st', h.reT f mg mg' row own pt2 ?_ ?_ ?_ ?_ hnM hnq hnt h.tinj ?_ ?_ hlen, f, hsub⟩
  · intro j hj c hc
    exact .inr ⟨hltb j c hj hc, hc, rfl, rfl⟩
  · intro c hc
    rcases hst with rfl | ⟨rfl, hx⟩
    · exact .inr ⟨fun e => htst (e ▸ hc), hc⟩
    · rw [List.mem_append, List.mem_singleton] at hc
      rcases hc with hc | rfl
      · exact .inr ⟨fun e => htst (e ▸ hc), hc⟩
      · exact .inl ⟨rfl, hx⟩
  · intro i hi e; exact nd t (mem_dom.2 (.inr (.inr (.inr (.inl ⟨i, hi, e⟩))))) rfl
  · intro e; exact nd t (mem_dom.2 (.inr (.inr (.inr (.inr (.inr (.inl e))))))) rfl
  · rcases hst with rfl | ⟨rfl, hx⟩
    · exact h.stn
    · rw [List.nodup_append]
      exact ⟨h.stn, by simp, fun a ha b hb => by simp at hb; subst hb; rintro rfl; exact htst ha⟩
  · intro a c ha ea hc
    rcases hsub c hc with hc | hc
    · exact h.tsp a c ha ea hc
    · exact hltb a c ha ea hc

/-- A queue leaves the map. -/
theorem Rep.dropQ (h : Rep ow w M qm tm s) {i b : Nat} (hi : i < 3) (hb : s.qb i = some b) {w2 : World} (pq2 : PM w2 9 qlit 3 qm (upd s.qb i none)) (hturn : w.mapTurned w2 qm) (hfree : ∀ y, y < 4 → ∀ t, s.tb y = some t → i ∉ s.hl y ∧ s.wl y ≠ some i) :
    Rep ow w2 M qm tm { s with qb := upd s.qb i none } ∧ Fr ow w ow w2 [qm] ∧ b ∉ dom M qm tm { s with qb := upd s.qb i none } ∧ qm ≠ b ∧ qm ≠ M := by
  obtain ⟨sqv, stv, mg, ⟨r1, o1⟩, ⟨r2, o2⟩⟩ := h.mg
  have f : Fr ow w ow w2 [qm] := Fr.turned h.fresh hturn h.oq
  obtain ⟨gv, wv, x⟩ := h.qs i hi b hb
  have htM := x.ne_mg mg
  have hqt : b ≠ qm := h.pq.blkne x.blk
  have htt : b ≠ tm := h.pt.blkne x.blk
  have hnq : ∀ y, y < 4 → s.tb y ≠ some b := fun y hy e => by obtain ⟨_, _, q⟩ := h.ts y hy b e; exact x.ne_tx q rfl
  have hns : b ∉ s.st := fun e => by obtain ⟨_, _, q⟩ := h.sts b e; exact x.ne_tx q rfl
  have hqmM : qm ≠ M := Ne.symm (h.pq.blkne mg)
  have hrow : w2.ownsRow 0 64 1 sqv s.sq.length (s.sq.map qp) := by
    refine ownsRow_same r1 (fun g hg => ?_)
    have hgq : g ≠ qm := by
      rintro rfl
      obtain ⟨es, c, es', c', hh, _⟩ := hturn
      rcases r1.2 with ⟨rfl, _⟩ | ⟨g', cap', cur, rfl, _, h2, _⟩
      · cases hg
      · simp [Value.ownBlock] at hg
        subst hg
        rw [h2] at hh
        cases hh
    exact hturn.grown.block g (ownsRow_lt r1 hg) (fun e => hgq (by cases e; rfl))
  refine ⟨h.reQ (f.mono (T := [M, qm, b]) (by simp)) mg (mg.fr f h.oM (by simp [Ne.symm hqmM])) hrow o1 pq2 ?_ ?_ ?_ hnq hns htM hqt htt ?_ h.sqn ?_ h.sql, f, ?_, Ne.symm hqt, hqmM⟩
  · intro j hj c hc
    by_cases e : j = i
    · subst e; rw [upd_same] at hc; cases hc
    · rw [upd_ne _ _ e] at hc
      exact .inr ⟨fun e2' => e (h.qinj j i b hj hi (by rw [← e2']; exact hc) hb), hc⟩
  · intro c hc
    exact .inr ⟨fun e => h.qsp i b hi hb (by rw [← e]; exact hc), hc⟩
  · intro y hy t ht
    obtain ⟨f1, f2⟩ := hfree y hy t ht
    refine ⟨blk_upd f1, blk_upd ?_⟩
    cases hw : s.wl y with
    | none => simp
    | some j => rw [hw] at f2; simp; rintro rfl; exact f2 rfl
  · intro a c d ha hc ea eb
    by_cases e : a = i
    · subst e; rw [upd_same] at ea; cases ea
    · by_cases e' : c = i
      · subst e'; rw [upd_same] at eb; cases eb
      · rw [upd_ne _ _ e] at ea; rw [upd_ne _ _ e'] at eb; exact h.qinj a c d ha hc ea eb
  · intro a c ha ea
    by_cases e : a = i
    · subst e; rw [upd_same] at ea; cases ea
    · rw [upd_ne _ _ e] at ea; exact h.qsp a c ha ea
  · intro hm
    rcases mem_dom.1 hm with e | e | e | ⟨j, hj, e⟩ | ⟨y', hy', e⟩ | e | e
    · exact htM e
    · exact hqt e
    · exact htt e
    · by_cases ey : j = i
      · subst ey; simp only [upd_same] at e; cases e
      · simp only [upd_ne _ _ ey] at e; exact ey (h.qinj j i b hj hi e hb)
    · exact hnq y' hy' e
    · exact h.qsp i b hi hb e
    · exact hns e

/-- A queue that is in no map becomes a spare one. -/
theorem Rep.spQ (h : Rep ow w M qm tm s) {b : Nat} (hd : b ∉ dom M qm tm s) {sqv stv : Value} (mg : Mg w M qm tm s.lo s.wa sqv stv) {w' : World} (sp : SpQ ow w M qm tm s.lo s.wa stv s.sq b w') :
    ∃ ow' sq', Rep ow' w' M qm tm { s with sq := sq' } ∧ Fr ow w ow' w' [M, qm, b] ∧ (∀ c ∈ sq', c ∈ s.sq ∨ c = b) := by
  obtain ⟨ow', sqv', sq', f, mg', row, own, hlen, hmp, hst⟩ := sp
  have nd : ∀ c, c ∈ dom M qm tm s → c ≠ b := fun c hc e => hd (e ▸ hc)
  have hnM : b ≠ M := Ne.symm (nd M (mem_dom.2 (.inl rfl)))
  have hnq : b ≠ qm := Ne.symm (nd qm (mem_dom.2 (.inr (.inl rfl))))
  have hnt : b ≠ tm := Ne.symm (nd tm (mem_dom.2 (.inr (.inr (.inl rfl)))))
  have hsub : ∀ c ∈ sq', c ∈ s.sq ∨ c = b := by
    intro c hc
    rcases hst with rfl | ⟨rfl, _⟩
    · exact .inl hc
    · simpa using hc
  have htst : b ∉ s.sq := fun e => nd b (mem_dom.2 (.inr (.inr (.inr (.inr (.inr (.inl e))))))) rfl
  have hltb : ∀ y c, y < 3 → s.qb y = some c → c ≠ b := fun y c hy e => nd c (mem_dom.2 (.inr (.inr (.inr (.inl ⟨y, hy, e⟩)))))
  refine ⟨ow', sq', h.reQ f mg mg' row own (h.pq.same hmp) ?_ ?_ (fun _ _ _ _ => ⟨rfl, rfl⟩) ?_ ?_ hnM hnq hnt h.qinj ?_ ?_ hlen, f, hsub⟩
  · intro j hj c hc
    exact .inr ⟨hltb j c hj hc, hc⟩
  · intro c hc
    rcases hst with rfl | ⟨rfl, hx⟩
    · exact .inr ⟨fun e => htst (e ▸ hc), hc⟩
    · rw [List.mem_append, List.mem_singleton] at hc
      rcases hc with hc | rfl
      · exact .inr ⟨fun e => htst (e ▸ hc), hc⟩
      · exact .inl ⟨rfl, hx⟩
  · intro i hi e; exact nd b (mem_dom.2 (.inr (.inr (.inr (.inr (.inl ⟨i, hi, e⟩)))))) rfl
  · intro e; exact nd b (mem_dom.2 (.inr (.inr (.inr (.inr (.inr (.inr e))))))) rfl
  · rcases hst with rfl | ⟨rfl, hx⟩
    · exact h.sqn
    · rw [List.nodup_append]
      exact ⟨h.sqn, by simp, fun a ha b hb => by simp at hb; subst hb; rintro rfl; exact htst ha⟩
  · intro a c ha ea hc
    rcases hsub c hc with hc | hc
    · exact h.qsp a c ha ea hc
    · exact hltb a c ha ea hc

end

end Go.Proofs.YbulkbcpiDoor.rel
