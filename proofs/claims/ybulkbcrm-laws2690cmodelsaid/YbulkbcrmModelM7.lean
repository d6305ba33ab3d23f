/-
  Seat b2690a: LawS2690CModel: evict.
-/
import Derived.Test.YbulkbcrmModelM6
namespace Go.Proofs.Ybulkbcrm.model
open Go.RowKit

theorem nodup_le : ∀ (n : Nat) (l : List Nat), l.Nodup → (∀ x ∈ l, x < n) → l.length ≤ n
  | 0, l, _, h => by
    cases l with
    | nil => exact Nat.le_refl _
    | cons a r => exact absurd (h a (by simp)) (by omega)
  | n + 1, l, hd, h => by
    have h1 := nodup_le n (l.erase n) (hd.erase n) (fun x hx => by
      have := (List.Nodup.mem_erase_iff hd).1 hx
      have := h x this.2
      omega)
    have h2 := List.length_erase (a := n) (l := l)
    split at h2 <;> omega

/-- The live states: by slot. -/
def lvf (L : Nat → Option Rec) : Nat → Option Value := fun i => (L i).map rcv

structure Lok (L : Nat → Option Rec) : Prop where
  slot : ∀ i r, L i = some r → r.slot = i ∧ i < 16

/-- xs are the states at the slots of 'done', in some order. -/
structure Took (L : Nat → Option Rec) (done : Nat → Prop) (xs : List Rec) : Prop where
  mem : ∀ r, r ∈ xs ↔ ∃ i, done i ∧ L i = some r
  nd : (xs.map (·.slot)).Nodup

theorem Took.nil (L : Nat → Option Rec) {done : Nat → Prop} (h : ∀ i r, done i → L i = some r → False) : Took L done [] :=
  ⟨fun r => ⟨fun h => by simp at h, fun ⟨i, h1, h2⟩ => (h i r h1 h2).elim⟩, by simp⟩

theorem Took.same {L : Nat → Option Rec} {done done' : Nat → Prop} {xs : List Rec} (h : Took L done xs) (hd : ∀ i r, L i = some r → (done i ↔ done' i)) : Took L done' xs :=
  ⟨fun r => (h.mem r).trans ⟨fun ⟨i, a, b⟩ => ⟨i, (hd i r b).1 a, b⟩, fun ⟨i, a, b⟩ => ⟨i, (hd i r b).2 a, b⟩⟩, h.nd⟩

theorem Took.snoc {L : Nat → Option Rec} {done done' : Nat → Prop} {xs : List Rec} (h : Took L done xs) (ok : Lok L) {s : Nat} {r : Rec} (hs : L s = some r) (hn : ¬ done s) (hd : ∀ i, done' i ↔ (done i ∨ i = s)) : Took L done' (xs ++ [r]) := by
  refine ⟨fun q => ?_, ?_⟩
  · rw [List.mem_append, h.mem q]
    constructor
    · rintro (⟨i, h1, h2⟩ | h1)
      · exact ⟨i, (hd i).2 (.inl h1), h2⟩
      · simp at h1
        exact ⟨s, (hd s).2 (.inr rfl), by rw [h1]; exact hs⟩
    · rintro ⟨i, h1, h2⟩
      rcases (hd i).1 h1 with h3 | rfl
      · exact .inl ⟨i, h3, h2⟩
      · rw [hs] at h2
        cases h2
        exact .inr (by simp)
  · rw [List.map_append, List.nodup_append]
    refine ⟨h.nd, by simp, fun a ha b hb => ?_⟩
    simp at hb ha
    obtain ⟨q, hq, rfl⟩ := ha
    obtain ⟨i, hi1, hi2⟩ := (h.mem q).1 hq
    rintro rfl
    have e1 := (ok.slot i q hi2).1
    have e2 := (ok.slot s r hs).1
    rw [hb, e2] at e1
    exact hn (e1 ▸ hi1)

theorem Took.len {L : Nat → Option Rec} {done : Nat → Prop} {xs : List Rec} (h : Took L done xs) (ok : Lok L) : xs.length ≤ 16 := by
  have := nodup_le 16 _ h.nd (fun x hx => by
    simp at hx
    obtain ⟨q, hq, rfl⟩ := hx
    obtain ⟨i, _, hi⟩ := (h.mem q).1 hq
    have := ok.slot i q hi
    omega)
  simpa using this

/-- Evict under way. -/
def EvS (sb lm : Nat) (hv : Value) : Nat → Prop := fun k => k = sb ∨ k = lm ∨ hv.ownBlock = some k

def Ev (w0 : World) (sb lm low rel : Nat) (mv : Value) (kept : Nat) (lv hv : Value) (l xs : List Rec) (wr : World) : Prop :=
  ∃ hvx, SB wr sb low rel mv kept lv hvx ∧ Seg wr hvx (l ++ xs) ∧ Fr (EvS sb lm hv) w0 wr ∧ (hvx.ownBlock = hv.ownBlock ∨ ∀ g, hvx.ownBlock = some g → w0.heap.size ≤ g)

theorem Ev.alloc {w0 : World} {sb lm low rel : Nat} {mv : Value} {kept : Nat} {lv hv : Value} {l xs : List Rec} {wr : World} (h : Ev w0 sb lm low rel mv kept lv hv l xs wr) (o : Obj) : Ev w0 sb lm low rel mv kept lv hv l xs (wr.alloc o) := by
  obtain ⟨hvx, h1, h2, h3, h4⟩ := h
  have F := (Fr.refl (fun _ => False) wr).alloc o
  exact ⟨hvx, h1.fr F (fun h => h), h2.fr F (fun _ _ h => h), h3.alloc o, h4⟩

/-- One state is taken. -/
theorem Ev.take {w0 : World} {sb pb mb db lm low rel : Nat} {mv : Value} {kept : Nat} {lv hv : Value} {l xs : List Rec} {wr : World} (T : World → Prop) (h : Ev w0 sb lm low rel mv kept lv hv l xs wr) (r : Rec)
    (hmb : w0.heap[mb]? = some (.cells #[.map (some lm)] 69 (0, 0))) (hdb : w0.heap[db]? = some (.cells #[dropV pb] 81 (0, 0))) (hp : PB w0 pb sb) (hs0 : ∃ low0 hv0, SB w0 sb low0 rel mv kept lv hv0) (hg0 : ∀ g, hv.ownBlock = some g → ∃ cur, w0.heap[g]? = some (.cells cur 80 (0, 0)))
    (hlm0 : ∃ es c, w0.heap[lm]? = some (.map es c)) (hn : (l ++ xs).length ≤ 100) (hlm : ∃ es c, wr.heap[lm]? = some (.map es c))
    (hdel : ∃ w', (Builtin.delete_ #[69, 30] 0 #[.map (some lm), .int .u64 (r.slot : Int)]).run Yba.prog (wr.alloc (.cells (rcl r).toArray 52)) = .ok (.tuple #[]) w' ∧ T w' ∧ (wr.alloc (.cells (rcl r).toArray 52)).mapTurned w' lm)
    (K : Nat → Prop) (hK : ∀ k, K k → ∃ o, wr.heap[k]? = some o ∧ ∀ cur t fz, o ≠ .cells cur t fz)
    (hT : ∀ w1 w2 : World, T w1 → (∀ k, K k → w2.heap[k]? = w1.heap[k]?) → T w2) :
    Calls Yba.prog 24 #[.int .u64 (r.slot : Int), rcv r, .pointer (some ⟨mb, 0, none⟩), .pointer (some ⟨db, 0, none⟩)] wr fun e w' => e = .returned (.tuple #[]) ∧ T w' ∧ Ev w0 sb lm low rel mv kept lv hv l (xs ++ [r]) w' := by
  obtain ⟨hvx, h1, h2, h3, h4⟩ := h
  obtain ⟨low0, hv0, hs0⟩ := hs0
  obtain ⟨es0, c0, hlm0⟩ := hlm0
  have nS : ∀ k o, w0.heap[k]? = some o → (∀ cur, o ≠ .cells cur 80 (0, 0)) → (∀ es c, o ≠ .map es c) → k ≠ sb → ¬ EvS sb lm hv k := by
    rintro k o ho n1 n2 n3 (e | e | e)
    · exact n3 e
    · rw [e, hlm0] at ho; exact n2 _ _ (by cases ho; rfl)
    · obtain ⟨cur, hc⟩ := hg0 k e
      rw [hc] at ho
      exact n1 cur (by cases ho; rfl)
  have nmb : mb ≠ sb := by rintro rfl; unfold SB at hs0; rw [hmb] at hs0; cases hs0
  have ndb : db ≠ sb := by rintro rfl; unfold SB at hs0; rw [hdb] at hs0; cases hs0
  have npb : pb ≠ sb := by
    rintro rfl
    unfold SB at hs0
    unfold PB at hp
    rw [hp] at hs0
    cases hs0
  have hmb' := (h3.keep mb (heap_lt hmb) (nS mb _ hmb (fun _ e => by cases e) (fun _ _ e => by cases e) nmb)).trans hmb
  have hdb' := (h3.keep db (heap_lt hdb) (nS db _ hdb (fun _ e => by cases e) (fun _ _ e => by cases e) ndb)).trans hdb
  have hp' : PB wr pb sb := (h3.keep pb (heap_lt hp) (nS pb _ hp (fun _ e => by cases e) (fun _ _ e => by cases e) npb)).trans hp
  obtain ⟨wd, hrun, hTd, hturn⟩ := hdel
  have c := evict1 (fun w' => T w' ∧ wr.heap.size ≤ w'.heap.size) r hmb' hdb' hp' h1 h2 hn hlm ⟨wd, hrun, ⟨hTd, ?_⟩, hturn⟩ ?_
  · refine c.mono ?_
    rintro e w2 ⟨rfl, hT2, hv', a1, a2, a3, a4⟩
    refine ⟨rfl, hT2.1, hv', a1, by rw [← List.append_assoc]; exact a2, h3.andThen a3 (fun k hk => ?_), ?_⟩
    · rcases hk with e | e | e
      · exact .inl (.inl e)
      · exact .inl (.inr (.inl e))
      · rcases h4 with h | h
        · rw [h] at e; exact .inl (.inr (.inr e))
        · exact .inr (h k e)
    · rcases a4 with h | h
      · rw [h]; exact h4
      · exact .inr (fun g e => Nat.le_trans h3.size (h g e))
  · have := hturn.grown.size
    simp at this
    omega
  · rintro w1 w2 ⟨t1, t2⟩ hle hk
    refine ⟨hT w1 w2 t1 (fun k kk => ?_), Nat.le_trans t2 hle⟩
    obtain ⟨o, ho, hno⟩ := hK k kk
    refine hk k ?_ ?_ (Nat.lt_of_lt_of_le (heap_lt ho) t2)
    · rintro rfl
      unfold SB at h1
      rw [ho] at h1
      exact hno _ _ _ (by cases h1; rfl)
    · intro e
      obtain ⟨cur, hc⟩ := h2.kind e
      rw [ho] at hc
      exact hno _ _ _ (by cases hc; rfl)

end Go.Proofs.Ybulkbcrm.model
