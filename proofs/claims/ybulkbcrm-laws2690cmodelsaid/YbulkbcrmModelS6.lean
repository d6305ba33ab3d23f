/-
  Seat b2690a: LawS2690CModel: the sort of the keys: what a round of the sort keeps (plain).
-/
import Derived.Test.YbulkbcrmModelS5
import Derived.Sort.AssemblyPlain
namespace Go.Proofs.Ybulkbcrm.model
open Go.RowKit Go.Sort

/-- All different on [a, b). -/
def ND (a b : Nat) (d : Array Int) : Prop := ∀ i j, a ≤ i → i < j → j < b → d[i]! ≠ d[j]!

theorem nodup_range (f : Nat → Int) (a n : Nat) : ((List.range' a n).map f).Nodup ↔ ∀ i j, a ≤ i → i < j → j < a + n → f i ≠ f j := by
  unfold List.Nodup
  rw [List.pairwise_map, List.pairwise_iff_getElem]
  constructor
  · intro h i j h1 h2 h3
    have := h (i - a) (j - a) (by simp; omega) (by simp; omega) (by omega)
    simpa [show a + (i - a) = i by omega, show a + (j - a) = j by omega] using this
  · intro h i j hi hj hij
    simp at hi hj ⊢
    exact h (a + i) (a + j) (by omega) (by omega) (by omega)

theorem ND.perm {a b : Nat} {d d' : Array Int} (hb : b ≤ d.size) (h : ND a b d) (p : PermIn a b d d') : ND a b d' := by
  by_cases hab : a ≤ b
  · have e1 := extract_toList d a b hb
    have e2 := extract_toList d' a b (by rw [p.1]; exact hb)
    have h1 : ((List.range' a (b - a)).map (fun i => d[i]!)).Nodup := (nodup_range _ _ _).2 (fun i j h1 h2 h3 => h i j h1 h2 (by omega))
    have h2 : ((List.range' a (b - a)).map (fun i => d'[i]!)).Nodup := by
      rw [← e2]; rw [← e1] at h1
      exact p.2.2.symm.nodup h1
    exact fun i j k1 k2 k3 => (nodup_range _ _ _).1 h2 i j k1 k2 (by omega)
  · intro i j h1 h2 h3; omega

theorem ltTot {x y : Int} (h : ltInt y x = false) (hne : x ≠ y) : ltInt x y = true := by
  unfold ltInt at *
  simp only [decide_eq_false_iff_not] at h
  exact decide_eq_true (by omega)

/-- What the loop keeps: whatever sorts [a, b) of dk from here sorts all of d. -/
structure PD (n : Nat) (d : Array Int) (a b : Nat) (dk : Array Int) : Prop where
  ab : a ≤ b
  bn : b ≤ n
  small : b ≤ a + 16
  size : dk.size = d.size
  dn : n = d.size
  nd : ND a b dk
  str : a = 0 ∨ ∀ i, a ≤ i → i < b → ltInt dk[a - 1]! dk[i]! = true
  fin : ∀ d', PermIn a b dk d' → SortedIn ltInt a b d' → PermIn 0 n d d' ∧ SortedIn ltInt 0 n d'

section
variable {n a b : Nat} {d dk d1 : Array Int}

theorem PD.perm (h : PD n d a b dk) (p : PermIn a b dk d1) : PD n d a b d1 := by
  have hbn := h.bn
  have hdn := h.dn
  have hs := h.size
  refine ⟨h.ab, h.bn, h.small, by rw [p.1, hs], hdn, h.nd.perm (by omega) p, ?_, fun d' q s => h.fin d' (permIn_trans _ _ _ _ _ p q) s⟩
  rcases h.str with e | e
  · exact .inl e
  · by_cases ha : a = 0
    · exact .inl ha
    · right
      intro i h1 h2
      rw [p.2.1 (a - 1) (by omega)]
      exact permIn_all _ _ _ _ (fun x => ltInt dk[a - 1]! x = true) (by omega) p e i h1 h2

theorem glue {m : Nat} {d4 d' : Array Int} (em : d'[m]! = d4[m]!)
    (hlo : ∀ i, a ≤ i → i < m → ltInt d'[i]! d4[m]! = true) (hhi : ∀ i, m < i → i < b → ltInt d'[i]! d4[m]! = false)
    (s1 : SortedIn ltInt a m d') (s2 : SortedIn ltInt (m + 1) b d') : SortedIn ltInt a b d' := by
  intro i j h1 h2 h3
  by_cases hj : j < m
  · exact s1 i j h1 h2 hj
  · by_cases hi : m < i
    · exact s2 i j hi h2 h3
    · by_cases e1 : i = m
      · rw [e1, em]; exact hhi j (by omega) h3
      · have a1 := hlo i h1 (by omega)
        by_cases e2 : j = m
        · rw [e2, em]; unfold ltInt at *; simp only [decide_eq_true_eq] at a1; exact decide_eq_false (by omega)
        · have a2 := hhi j (by omega) h3
          unfold ltInt at *; simp only [decide_eq_true_eq, decide_eq_false_iff_not] at a1 a2; exact decide_eq_false (by omega)

theorem PD.left (h : PD n d a b d1) {m : Nat} {d4 d5 : Array Int} (P : Parted a b d1 d4 m) (p : PermIn a m d4 d5) (s : SortedIn ltInt a m d5) : PD n d (m + 1) b d5 := by
  have hab := h.ab; have hbn := h.bn; have hs := h.size; have hdn := h.dn; have hsm := h.small
  have am := P.am; have mb := P.mb
  have sz4 := P.perm.1
  have sz5 := p.1
  have nd4 := h.nd.perm (by omega) P.perm
  have E : ∀ i, m ≤ i → d5[i]! = d4[i]! := fun i hi => p.2.1 i (.inr hi)
  refine ⟨by omega, hbn, by omega, by omega, hdn, fun i j h1 h2 h3 => ?_, .inr (fun i h1 h2 => ?_), fun d' q s2 => ?_⟩
  · rw [E i (by omega), E j (by omega)]; exact nd4 i j (by omega) h2 h3
  · rw [show m + 1 - 1 = m by omega, E m (Nat.le_refl _), E i (by omega)]
    exact ltTot (P.hi i (by omega) h2) (nd4 m i am (by omega) h2)
  · have q2 : PermIn a b d4 d' := permIn_trans _ _ _ _ _ (permIn_mono _ _ _ _ _ _ (Nat.le_refl _) (by omega) (by omega) p) (permIn_mono _ _ _ _ _ _ (by omega) (Nat.le_refl _) (by omega) q)
    have e0 : ∀ i, i < m + 1 → d'[i]! = d5[i]! := fun i hi => q.2.1 i (.inl hi)
    refine h.fin d' (permIn_trans _ _ _ _ _ P.perm q2) (glue (d4 := d4) (by rw [e0 m (by omega), E m (Nat.le_refl _)]) (fun i h1 h2 => ?_) (fun i h1 h2 => ?_) (fun i j h1 h2 h3 => ?_) s2)
    · rw [e0 i (by omega)]
      exact permIn_all _ _ _ _ (fun x => ltInt x d4[m]! = true) (by omega) p (fun k k1 k2 => P.lo k k1 k2) i h1 h2
    · exact permIn_all _ _ _ _ (fun x => ltInt x d4[m]! = false) (by omega) q (fun k k1 k2 => by rw [E k (by omega)]; exact P.hi k (by omega) k2) i (by omega) h2
    · rw [e0 i (by omega), e0 j (by omega)]; exact s i j h1 h2 h3

theorem PD.right (h : PD n d a b d1) {m : Nat} {d4 d5 : Array Int} (P : Parted a b d1 d4 m) (p : PermIn (m + 1) b d4 d5) (s : SortedIn ltInt (m + 1) b d5) : PD n d a m d5 := by
  have hab := h.ab; have hbn := h.bn; have hs := h.size; have hdn := h.dn; have hsm := h.small
  have am := P.am; have mb := P.mb
  have sz4 := P.perm.1
  have sz5 := p.1
  have nd4 := h.nd.perm (by omega) P.perm
  have E : ∀ i, i < m + 1 → d5[i]! = d4[i]! := fun i hi => p.2.1 i (.inl hi)
  refine ⟨am, by omega, by omega, by omega, hdn, fun i j h1 h2 h3 => ?_, ?_, fun d' q s2 => ?_⟩
  · rw [E i (by omega), E j (by omega)]; exact nd4 i j h1 h2 (by omega)
  · rcases h.str with e | e
    · exact .inl e
    · by_cases ha : a = 0
      · exact .inl ha
      · right
        intro i h1 h2
        rw [E (a - 1) (by omega), E i (by omega), P.perm.2.1 (a - 1) (by omega)]
        exact permIn_all _ _ _ _ (fun x => ltInt d1[a - 1]! x = true) (by omega) P.perm e i h1 (by omega)
  · have q2 : PermIn a b d4 d' := permIn_trans _ _ _ _ _ (permIn_mono _ _ _ _ _ _ (by omega) (Nat.le_refl _) (by omega) p) (permIn_mono _ _ _ _ _ _ (Nat.le_refl _) (by omega) (by omega) q)
    have e0 : ∀ i, m ≤ i → d'[i]! = d5[i]! := fun i hi => q.2.1 i (.inr hi)
    refine h.fin d' (permIn_trans _ _ _ _ _ P.perm q2) (glue (d4 := d4) (by rw [e0 m (Nat.le_refl _), E m (by omega)]) (fun i h1 h2 => ?_) (fun i h1 h2 => ?_) s2 (fun i j h1 h2 h3 => ?_))
    · exact permIn_all _ _ _ _ (fun x => ltInt x d4[m]! = true) (by omega) q (fun k k1 k2 => by rw [E k (by omega)]; exact P.lo k k1 k2) i h1 h2
    · rw [e0 i (by omega)]
      exact permIn_all _ _ _ _ (fun x => ltInt x d4[m]! = false) (by omega) p (fun k k1 k2 => P.hi k (by omega) k2) i (by omega) h2
    · rw [e0 i (by omega), e0 j (by omega)]; exact s i j h1 h2 h3

theorem swoInt : SWO ltInt where
  irrefl x := by unfold ltInt; simp
  trans x y z h1 h2 := by unfold ltInt at *; simp at *; omega
  ntrans x y z h1 h2 := by unfold ltInt at *; simp at *; omega

end

end Go.Proofs.Ybulkbcrm.model
