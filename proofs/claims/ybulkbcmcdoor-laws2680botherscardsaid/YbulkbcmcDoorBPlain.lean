/-
  Seat b2680aD: the plain law of counts and held: no Go in sight.
-/
import Derived.Laws.BitsAllLaws
namespace Go.Proofs.YbulkbcmcDoor.lawB

/-- held's bit j is set just where counts[j] is not 0; each count lies between 0 and N. -/
structure Inv (c : List Int) (h : Nat) (N : Int) : Prop where
  len : c.length = 9
  lt : h < 512
  bd : ∀ j, j < 9 → 0 ≤ c.getD j 0 ∧ c.getD j 0 ≤ N
  bit : ∀ j, j < 9 → h.testBit j = decide (c.getD j 0 ≠ 0)

theorem getD_set (c : List Int) (m j : Nat) (x : Int) (hm : m < c.length) : (c.set m x).getD j 0 = if j = m then x else c.getD j 0 := by
  simp only [List.getD_eq_getElem?_getD, List.getElem?_set]
  by_cases h : j = m
  · subst h; simp [hm]
  · simp [h, Ne.symm h]

theorem pow_lt (m : Nat) (hm : m < 9) : 2 ^ m < 512 := by
  have : 2 ^ m ≤ 2 ^ 8 := Nat.pow_le_pow_right (by decide) (by omega)
  omega

theorem inv_zero : Inv [0, 0, 0, 0, 0, 0, 0, 0, 0] 0 0 := by
  refine ⟨rfl, by decide, ?_, ?_⟩
  · intro j hj
    rcases j with _ | _ | _ | _ | _ | _ | _ | _ | _ | j <;> simp <;> omega
  · intro j hj
    rcases j with _ | _ | _ | _ | _ | _ | _ | _ | _ | j <;> simp

theorem inv_mono {c : List Int} {h : Nat} {N N' : Int} (i : Inv c h N) (hN : N ≤ N') : Inv c h N' :=
  ⟨i.len, i.lt, fun j hj => ⟨(i.bd j hj).1, Int.le_trans (i.bd j hj).2 hN⟩, i.bit⟩

theorem inv_count {c : List Int} {h : Nat} {N : Int} (i : Inv c h N) (m : Nat) (hm : m < 9) : Inv (c.set m (c.getD m 0 + 1)) (h ||| 2 ^ m) (N + 1) := by
  have hm' : m < c.length := by rw [i.len]; exact hm
  refine ⟨by simp [i.len], ?_, ?_, ?_⟩
  · exact Nat.or_lt_two_pow (n := 9) i.lt (pow_lt m hm)
  · intro j hj
    rw [getD_set _ _ _ _ hm']
    have h1 := i.bd j hj
    have h2 := i.bd m hm
    split <;> omega
  · intro j hj
    rw [Nat.testBit_or, i.bit j hj, getD_set _ _ _ _ hm', Nat.testBit_two_pow]
    have h2 := i.bd m hm
    by_cases e : j = m
    · subst e
      generalize c.getD j 0 = x at *
      simp
      omega
    · simp [e, Ne.symm e]

theorem inv_uncount {c : List Int} {h : Nat} {N : Int} (i : Inv c h N) (m : Nat) (hm : m < 9) (hp : 0 < c.getD m 0) :
    Inv (c.set m (c.getD m 0 - 1)) (if c.getD m 0 - 1 = 0 then h &&& (4294967295 - 2 ^ m) else h) N := by
  have hm' : m < c.length := by rw [i.len]; exact hm
  have hlt := pow_lt m hm
  refine ⟨by simp [i.len], ?_, ?_, ?_⟩
  · split
    · exact Nat.lt_of_le_of_lt Nat.and_le_left i.lt
    · exact i.lt
  · intro j hj
    rw [getD_set _ _ _ _ hm']
    have h1 := i.bd j hj
    have h2 := i.bd m hm
    split <;> omega
  · intro j hj
    rw [getD_set _ _ _ _ hm']
    have hb := i.bit j hj
    split
    · rename_i h0
      have e : 4294967295 - 2 ^ m = 2 ^ 32 - (2 ^ m + 1) := by omega
      rw [Nat.testBit_and, e, Nat.testBit_two_pow_sub_succ (by omega), hb, Nat.testBit_two_pow]
      by_cases e : j = m
      · subst e
        generalize c.getD j 0 = x at *
        simp [h0]
      · simp [e, Ne.symm e]
        omega
    · rename_i h0
      rw [hb]
      by_cases e : j = m
      · subst e
        generalize c.getD j 0 = x at *
        simp
        omega
      · simp [e]

/-- what the other holders hold: own's one lock taken off. -/
theorem others_bit {c : List Int} {h : Nat} {N : Int} (i : Inv c h N) (m : Nat) (hm : m < 9) (hp : 0 < c.getD m 0) (j : Nat) (hj : j < 9) :
    (if c.getD m 0 = 1 then h &&& (4294967295 - 2 ^ m) else h).testBit j = decide (0 < (if j = m then c.getD j 0 - 1 else c.getD j 0)) := by
  have u := (inv_uncount i m hm hp).bit j hj
  have b := (inv_uncount i m hm hp).bd j hj
  rw [getD_set _ _ _ _ (by rw [i.len]; exact hm)] at u b
  have e : (c.getD m 0 - 1 = 0) ↔ (c.getD m 0 = 1) := by omega
  simp only [e] at u
  rw [u]
  congr 1
  simp only [eq_iff_iff]
  by_cases hjm : j = m
  · subst hjm
    generalize c.getD j 0 = x at *
    simp at b ⊢
    omega
  · simp [hjm] at b ⊢
    omega

theorem and_zero_iff (x y : Nat) (hx : x < 512) : x &&& y = 0 ↔ ∀ j, j < 9 → ¬ (x.testBit j = true ∧ y.testBit j = true) := by
  constructor
  · intro h j _ ⟨h1, h2⟩
    have := congrArg (fun z => z.testBit j) h
    simp [h1, h2] at this
  · intro h
    apply Nat.eq_of_testBit_eq
    intro j
    rw [Nat.testBit_and, Nat.zero_testBit]
    by_cases hj : j < 9
    · have := h j hj
      cases h1 : x.testBit j <;> cases h2 : y.testBit j <;> simp_all
    · have : x.testBit j = false := Nat.testBit_lt_two_pow (Nat.lt_of_lt_of_le hx (show 2 ^ 9 ≤ 2 ^ j from Nat.pow_le_pow_right (by decide) (by omega)))
      simp [this]

theorem bit_iff (x j : Nat) : (x &&& 2 ^ j = 0) ↔ x.testBit j = false := by
  constructor
  · intro h
    have := congrArg (fun z => z.testBit j) h
    simpa [Nat.testBit_two_pow] using this
  · intro h
    apply Nat.eq_of_testBit_eq
    intro k
    rw [Nat.testBit_and, Nat.zero_testBit, Nat.testBit_two_pow]
    by_cases e : j = k
    · subst e; simp [h]
    · simp [e]

end Go.Proofs.YbulkbcmcDoor.lawB
