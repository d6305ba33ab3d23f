/-
  Seat b2686aD: what is seen of the manager.
-/
import Derived.Test.YbulkbcpiDoorRNew
namespace Go.Proofs.YbulkbcpiDoor.rel
open Go.RowKit

/-- Cell k of the view, where the transactions before y are seen whole and of y the items before i. -/
def vc (s : St) (y i lk k : Nat) : Value :=
  if k < 12 then .bool (decide (k < y * 3 + i) && has (s.gr (k % 3)) (k / 3))
  else if k < 16 then .bool (decide (k - 12 < y) && (s.wl (k - 12)).isSome)
  else if k < 20 then (if k - 16 < y then .string (wn s (k - 16)) else .string ⟨#[]⟩)
  else .int .i64 (lk : Int)

def va (s : St) (y i lk : Nat) : Array Value := Array.ofFn (n := 21) (fun k => vc s y i lk k.1)

theorem va_size (s : St) (y i lk : Nat) : (va s y i lk).size = 21 := by simp [va]
theorem va_at (s : St) (y i lk : Nat) {k : Nat} (h : k < 21) : (va s y i lk)[k]? = some (vc s y i lk k) := by simp [va, h]

theorem va_zero (s : St) : va s 0 0 0 = #[.bool false, .bool false, .bool false, .bool false, .bool false, .bool false, .bool false, .bool false, .bool false, .bool false, .bool false, .bool false, .bool false, .bool false, .bool false, .bool false, .string ⟨#[]⟩, .string ⟨#[]⟩, .string ⟨#[]⟩, .string ⟨#[]⟩, .int .i64 0] := by
  apply Array.ext_getElem?
  intro k
  by_cases h : k < 21
  · rw [va_at _ _ _ _ h]
    have : ∀ k : Nat, k < 21 → some (vc s 0 0 0 k) = (#[Value.bool false, .bool false, .bool false, .bool false, .bool false, .bool false, .bool false, .bool false, .bool false, .bool false, .bool false, .bool false, .bool false, .bool false, .bool false, .bool false, .string ⟨#[]⟩, .string ⟨#[]⟩, .string ⟨#[]⟩, .string ⟨#[]⟩, .int .i64 0])[k]? := by
      intro k hk
      rcases k with _ | _ | _ | _ | _ | _ | _ | _ | _ | _ | _ | _ | _ | _ | _ | _ | _ | _ | _ | _ | _ | k
      all_goals first | rfl | omega
    exact this k h
  · rw [Array.getElem?_eq_none (by rw [va_size]; omega), Array.getElem?_eq_none (by simp; omega)]

theorem va_held (s : St) {y i : Nat} (hy : y < 4) (hi : i < 3) (lk : Nat) : (va s y i lk).setIfInBounds (y * 3 + i) (.bool (has (s.gr i) y)) = va s y (i + 1) lk := by
  apply Array.ext_getElem?
  intro k
  rw [Array.getElem?_setIfInBounds]
  by_cases h : k < 21
  · split
    · next e =>
      subst e
      rw [if_pos (by rw [va_size]; omega), va_at _ _ _ _ h]
      have h1 : (y * 3 + i) % 3 = i := by omega
      have h2 : (y * 3 + i) / 3 = y := by omega
      simp [vc, show y * 3 + i < 12 by omega, h1, h2]
    · next e =>
      rw [va_at _ _ _ _ h, va_at _ _ _ _ h]
      have h1 : (k < y * 3 + i) ↔ (k < y * 3 + (i + 1)) := by omega
      simp only [vc, decide_eq_decide.2 h1]
  · rw [if_neg (by omega), Array.getElem?_eq_none (by rw [va_size]; omega), Array.getElem?_eq_none (by rw [va_size]; omega)]

theorem va_wait (s : St) {y : Nat} (hy : y < 4) (lk : Nat) : ((va s y 3 lk).setIfInBounds (16 + y) (.string (wn s y))).setIfInBounds (12 + y) (.bool (s.wl y).isSome) = va s (y + 1) 0 lk := by
  apply Array.ext_getElem?
  intro k
  rw [Array.getElem?_setIfInBounds, Array.getElem?_setIfInBounds]
  by_cases h : k < 21
  · split
    · next e =>
      subst e
      rw [if_pos (by simp [va_size]; omega), va_at _ _ _ _ h]
      simp [vc, show ¬ 12 + y < 12 by omega, show 12 + y < 16 by omega]
    · next e =>
      split
      · next e2 =>
        subst e2
        rw [if_pos (by simp [va_size]; omega), va_at _ _ _ _ h]
        simp [vc, show ¬ 16 + y < 12 by omega, show ¬ 16 + y < 16 by omega, show 16 + y < 20 by omega]
      · next e2 =>
        rw [va_at _ _ _ _ h, va_at _ _ _ _ h]
        by_cases k1 : k < 12
        · have h1 : (k < y * 3 + 3) ↔ (k < (y + 1) * 3 + 0) := by omega
          simp only [vc, if_pos k1, decide_eq_decide.2 h1]
        · by_cases k2 : k < 16
          · have h1 : (k - 12 < y) ↔ (k - 12 < y + 1) := by omega
            simp only [vc, if_neg k1, if_pos k2, decide_eq_decide.2 h1]
          · by_cases k3 : k < 20
            · have h1 : (k - 16 < y) ↔ (k - 16 < y + 1) := by omega
              simp only [vc, if_neg k1, if_neg k2, if_pos k3, h1]
            · simp only [vc, if_neg k1, if_neg k2, if_neg k3]
  · rw [if_neg (by omega), if_neg (by omega), Array.getElem?_eq_none (by rw [va_size]; omega), Array.getElem?_eq_none (by rw [va_size]; omega)]

theorem va_lock (s : St) (y i lk lk' : Nat) : (va s y i lk).setIfInBounds 20 (.int .i64 (lk' : Int)) = va s y i lk' := by
  apply Array.ext_getElem?
  intro k
  rw [Array.getElem?_setIfInBounds]
  by_cases h : k < 21
  · split
    · next e =>
      subst e
      rw [if_pos (by rw [va_size]; omega), va_at _ _ _ _ h]
      simp [vc]
    · next e =>
      rw [va_at _ _ _ _ h, va_at _ _ _ _ h]
      simp only [vc]
      have : k < 20 := by omega
      simp only [if_pos this]
  · rw [if_neg (by omega), Array.getElem?_eq_none (by rw [va_size]; omega), Array.getElem?_eq_none (by rw [va_size]; omega)]

/-- How many of the items before i are held. -/
def lks (s : St) : Nat → Nat
  | 0 => 0
  | i + 1 => lks s i + (if (has (s.gr i) 0 || has (s.gr i) 1 || has (s.gr i) 2 || has (s.gr i) 3) then 1 else 0)

theorem any_ne {gr wt : List Req} (h : QOK gr wt) : (if (has gr 0 || has gr 1 || has gr 2 || has gr 3) then 1 else 0) = ne gr := by
  unfold ne
  cases gr with
  | nil => rfl
  | cons r l =>
    have hy := (h.glt r (by simp)).1
    have hr : has (r :: l) r.y = true := (has_cons _ _ _).2 (.inl rfl)
    have h1 : (has (r :: l) 0 || has (r :: l) 1 || has (r :: l) 2 || has (r :: l) 3) = true := by
      rcases (by omega : r.y = 0 ∨ r.y = 1 ∨ r.y = 2 ∨ r.y = 3) with e | e | e | e <;> rw [e] at hr <;> simp [hr]
    rw [if_pos h1]
    simp

theorem lks_lo {E X : Nat → Prop} {s : St} (I : Inv E X s) : lks s 3 = s.lo := by
  rw [I.lo]
  simp only [lks]
  rw [any_ne (I.qok 0 (by omega)), any_ne (I.qok 1 (by omega)), any_ne (I.qok 2 (by omega))]
  omega

/-- The view. -/
def view (s : St) : Array Value := va s 4 0 s.lo

theorem view_held (s : St) {y i : Nat} (hy : y < 4) (hi : i < 3) : (view s)[y * 3 + i]? = some (.bool (has (s.gr i) y)) := by
  unfold view
  rw [va_at _ _ _ _ (by omega)]
  have h1 : (y * 3 + i) % 3 = i := by omega
  have h2 : (y * 3 + i) / 3 = y := by omega
  simp [vc, show y * 3 + i < 12 by omega, h1, h2]

theorem view_waits (s : St) {y : Nat} (hy : y < 4) : (view s)[12 + y]? = some (.bool (s.wl y).isSome) := by
  unfold view
  rw [va_at _ _ _ _ (by omega)]
  simp [vc, show ¬ 12 + y < 12 by omega, show 12 + y < 16 by omega, hy]

theorem view_item (s : St) {y : Nat} (hy : y < 4) : (view s)[16 + y]? = some (.string (wn s y)) := by
  unfold view
  rw [va_at _ _ _ _ (by omega)]
  simp [vc, show ¬ 16 + y < 12 by omega, show ¬ 16 + y < 16 by omega, show 16 + y < 20 by omega, hy]

theorem view_lock (s : St) : (view s)[20]? = some (.int .i64 (s.lo : Int)) := by
  unfold view
  rw [va_at _ _ _ _ (by omega)]
  simp [vc]

end Go.Proofs.YbulkbcpiDoor.rel
