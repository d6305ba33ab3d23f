/-
  Seat b2690a: LawS2690AScript: the plain law: the places agree with the law's own table.
-/
import Derived.Test.YbulkbcrmPlaces
namespace Go.Proofs.Ybulkbcrm.places

theorem getD_pad (l : List Q) (i j : Nat) : (pad l i).getD j q0 = l.getD j q0 := by
  simp only [pad, List.getD_eq_getElem?_getD]
  by_cases h : j < l.length
  · rw [List.getElem?_append_left h]
  · rw [List.getElem?_append_right (by omega), List.getElem?_eq_none (l := l) (by omega)]
    by_cases h2 : j - l.length < i + 1 - l.length
    · rw [List.getElem?_replicate, if_pos h2]; rfl
    · rw [List.getElem?_replicate, if_neg h2]

theorem length_pad (l : List Q) (i : Nat) : (pad l i).length = l.length + (i + 1 - l.length) := by simp [pad]

theorem getD_set {α : Type} (l : List α) (i j : Nat) (x d : α) (h : i < l.length) : (l.set i x).getD j d = if j = i then x else l.getD j d := by
  simp only [List.getD_eq_getElem?_getD, List.getElem?_set]
  by_cases e : j = i
  · subst e; simp [h]
  · simp [e, Ne.symm e]

def e0 : ByteArray := ⟨#[]⟩

structure Inv (l : List Q) (F : List ByteArray) (S D : List Bool) (mx : Int) : Prop where
  lF : F.length = 16
  lS : S.length = 16
  lD : D.length = 16
  len : (l.length : Int) = mx + 1
  le : l.length ≤ 16
  seen : ∀ j, j < 16 → (l.getD j q0).2.1 = S.getD j false
  split : ∀ j, j < 16 → (l.getD j q0).2.2 = D.getD j false
  val : ∀ j, j < 16 → (l.getD j q0).1 = if S.getD j false then F.getD j e0 else e0

def mxOf (mx : Int) (k : Nat) : Int := if mx < (k : Int) then (k : Int) else mx

theorem getD_rep {α : Type} (n j : Nat) (d : α) : (List.replicate n d).getD j d = d := by
  rw [List.getD_eq_getElem?_getD, List.getElem?_replicate]
  split <;> rfl

theorem inv_start : Inv [] (List.replicate 16 e0) (List.replicate 16 false) (List.replicate 16 false) (-1) := by
  refine ⟨by simp, by simp, by simp, by simp, by simp, ?_, ?_, ?_⟩
  · intro j hj; rw [getD_rep]; rfl
  · intro j hj; rw [getD_rep]; rfl
  · intro j hj; rw [getD_rep]; rfl

theorem pad_len {l : List Q} {mx : Int} {k : Nat} (hl : (l.length : Int) = mx + 1) : ((pad l k).length : Int) = mxOf mx k + 1 := by
  rw [length_pad]
  unfold mxOf
  split <;> omega

theorem seeB_new {l : List Q} {F S D mx} (h : Inv l F S D mx) {k : Nat} (hk : k < 16) (v : ByteArray) (hs : S.getD k false = false) : seeB l k v = false := by
  have := h.seen k hk
  simp only [seeB, getD_pad]
  rw [this, hs]
  simp

theorem seeB_old {l : List Q} {F S D mx} (h : Inv l F S D mx) {k : Nat} (hk : k < 16) (v : ByteArray) (hs : S.getD k false = true) : seeB l k v = (!decide (F.getD k e0 = v) && !D.getD k false) := by
  have h1 := h.seen k hk
  have h2 := h.val k hk
  have h3 := h.split k hk
  simp only [seeB, getD_pad]
  rw [h1, h3, h2, hs]
  simp

theorem step_new {l : List Q} {F S D mx} (h : Inv l F S D mx) {k : Nat} (hk : k < 16) (v : ByteArray) (hs : S.getD k false = false) : Inv (seeL l k v) (F.set k v) (S.set k true) D (mxOf mx k) := by
  have e : seeL l k v = (pad l k).set k (v, true, (l.getD k q0).2.2) := by
    have := h.seen k hk
    simp only [seeL, getD_pad]
    rw [this, hs]
    simp
  have hp : k < (pad l k).length := by rw [length_pad]; omega
  have hle := h.le
  rw [e]
  refine ⟨by simp [h.lF], by simp [h.lS], h.lD, ?_, ?_, ?_, ?_, ?_⟩
  · rw [List.length_set]; exact pad_len h.len
  · rw [List.length_set, length_pad]; omega
  · intro j hj
    rw [getD_set _ _ _ _ _ hp, getD_set _ _ _ _ _ (by rw [h.lS]; exact hk), getD_pad]
    split
    · rfl
    · exact h.seen j hj
  · intro j hj
    rw [getD_set _ _ _ _ _ hp, getD_pad]
    split
    · rename_i e; subst e; exact h.split j hj
    · exact h.split j hj
  · intro j hj
    rw [getD_set _ _ _ _ _ hp, getD_set _ _ _ _ _ (by rw [h.lS]; exact hk), getD_set _ _ _ _ _ (by rw [h.lF]; exact hk), getD_pad]
    split
    · simp
    · exact h.val j hj

theorem mem_of_seen {l : List Q} {F S D mx} (h : Inv l F S D mx) {k : Nat} (hk : k < 16) (hs : S.getD k false = true) : k < l.length := by
  have h1 := h.seen k hk
  rw [hs] at h1
  rcases Nat.lt_or_ge k l.length with g | g
  · exact g
  · rw [List.getD_eq_getElem?_getD, List.getElem?_eq_none g] at h1
    cases h1

theorem pad_old {l : List Q} {k : Nat} (h : k < l.length) : pad l k = l := by
  have : k + 1 - l.length = 0 := by omega
  simp [pad, this]

theorem step_same {l : List Q} {F S D mx} (h : Inv l F S D mx) {k : Nat} (hk : k < 16) (v : ByteArray) (hs : S.getD k false = true) (hv : v = F.getD k e0) : Inv (seeL l k v) F S D (mxOf mx k) := by
  have h1 := h.seen k hk
  have h2 := h.val k hk
  have hm := mem_of_seen h hk hs
  rw [hs] at h1
  rw [hs, if_pos rfl] at h2
  have e : seeL l k v = l := by
    simp only [seeL, getD_pad]
    rw [h1, h2, hv, pad_old hm]
    simp
  have e2 : mxOf mx k = mx := by
    have := h.len
    unfold mxOf
    rw [if_neg (by omega)]
  rw [e, e2]
  exact h

theorem step_diff {l : List Q} {F S D mx} (h : Inv l F S D mx) {k : Nat} (hk : k < 16) (v : ByteArray) (hs : S.getD k false = true) (hv : ¬ v = F.getD k e0) : Inv (seeL l k v) F S (D.set k true) (mxOf mx k) := by
  have h1 := h.seen k hk
  have h2 := h.val k hk
  have h3 := h.split k hk
  have hm := mem_of_seen h hk hs
  rw [hs] at h1
  rw [hs, if_pos rfl] at h2
  have hv' : ¬ F.getD k e0 = v := fun e => hv e.symm
  have e2 : mxOf mx k = mx := by
    have := h.len
    unfold mxOf
    rw [if_neg (by omega)]
  have e : seeL l k v = l.set k ((l.getD k q0).1, true, true) := by
    simp only [seeL, getD_pad]
    rw [h1, h3, pad_old hm]
    rw [show (decide ((l.getD k q0).1 = v)) = false from decide_eq_false (by rw [h2]; exact hv')]
    cases hd : D.getD k false
    · simp
    · simp only [Bool.not_false, Bool.not_true, Bool.and_false, if_true]
      rw [hd] at h3
      have e4 : ((l.getD k q0).1, true, true) = l.getD k q0 := by
        generalize l.getD k q0 = q at h1 h3
        obtain ⟨a, b, c⟩ := q
        simp only at h1 h3
        rw [h1, h3]
      rw [List.getD_eq_getElem?_getD, List.getElem?_eq_getElem hm] at e4 ⊢
      simp only [Option.getD_some] at e4 ⊢
      rw [e4]
      simp
  rw [e, e2]
  refine ⟨h.lF, h.lS, by simp [h.lD], by rw [List.length_set]; exact h.len, by rw [List.length_set]; exact h.le, ?_, ?_, ?_⟩
  · intro j hj
    rw [getD_set _ _ _ _ _ hm]
    split
    · rename_i e; subst e; exact hs.symm
    · exact h.seen j hj
  · intro j hj
    rw [getD_set _ _ _ _ _ hm, getD_set _ _ _ _ _ (by rw [h.lD]; exact hk)]
    split
    · rfl
    · exact h.split j hj
  · intro j hj
    rw [getD_set _ _ _ _ _ hm]
    split
    · rename_i e; subst e; exact h.val j hj
    · exact h.val j hj

end Go.Proofs.Ybulkbcrm.places
