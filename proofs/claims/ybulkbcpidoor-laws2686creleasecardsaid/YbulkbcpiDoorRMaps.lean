/-
  Seat b2686aD: the manager's two maps: to each key the block of a queue | of a record, or nothing.
-/
import Derived.Test.YbulkbcpiDoorRMem
import Derived.Maps.OwnOps
import Derived.StringKeys
namespace Go.Proofs.YbulkbcpiDoor.rel
open Go.RowKit

def dnil : DataW Unit := .lit (.int .i64 (-1))
def dptr (b : Nat) : DataW Unit := .lit (.int .i64 (b : Int))

def Rp : Value → Option (DataW Unit × List MemPlace)
  | .pointer none => some (dnil, [])
  | .pointer (some ⟨b, 0, none⟩) => some (dptr b, [])
  | _ => Option.none

def encP : Option Nat → DataW Unit
  | some b => dptr b
  | Option.none => dnil

def pv : Option Nat → Value
  | some b => .pointer (some ⟨b, 0, none⟩)
  | Option.none => .pointer Option.none

theorem Rp_pv (x : Option Nat) : Rp (pv x) = some (encP x, []) := by cases x <;> rfl

theorem Rp_inv {v : Value} {x : Option Nat} {ps : List MemPlace} (h : Rp v = some (encP x, ps)) : v = pv x := by
  unfold Rp at h
  split at h
  · cases x with
    | none => rfl
    | some b => simp [encP, dnil, dptr] at h
  · cases x with
    | none => simp [encP, dnil, dptr] at h
    | some b => simp [encP, dptr] at h; obtain ⟨h, _⟩ := h; have h' := Int.ofNat.inj h; subst h'; rfl
  · cases h

def cntF (f : Nat → Option Nat) : Nat → Nat
  | 0 => 0
  | n + 1 => cntF f n + (if (f n).isSome then 1 else 0)

def upd (f : Nat → Option Nat) (i : Nat) (x : Option Nat) : Nat → Option Nat := fun j => if j = i then x else f j

theorem cntF_le (f : Nat → Option Nat) : ∀ n, cntF f n ≤ n
  | 0 => Nat.le_refl _
  | n + 1 => by have := cntF_le f n; simp only [cntF]; split <;> omega

theorem cntF_out (f : Nat → Option Nat) (i : Nat) (x : Option Nat) : ∀ n, n ≤ i → cntF (upd f i x) n = cntF f n
  | 0, _ => rfl
  | n + 1, h => by simp only [cntF, cntF_out f i x n (by omega), upd, if_neg (show ¬ n = i by omega)]

theorem cntF_upd (f : Nat → Option Nat) (i : Nat) (x : Option Nat) : ∀ n, i < n → cntF (upd f i x) n + (if (f i).isSome then 1 else 0) = cntF f n + (if x.isSome then 1 else 0)
  | 0, h => by omega
  | n + 1, h => by
    simp only [cntF]
    by_cases e : i = n
    · subst e
      rw [cntF_out f i x i (Nat.le_refl _)]
      simp only [upd, if_true]
      omega
    · have := cntF_upd f i x n (by omega)
      simp only [upd, if_neg (show ¬ n = i by omega)]
      omega

/-- Block b is a map: at the key 'lit i' (i < N) the block 'f i', and no other keys. -/
structure PM (w : World) (kt : TypeId) (lit : Nat → Lit) (N : Nat) (b : Nat) (f : Nat → Option Nat) : Prop where
  ex : ∃ n D, w.ownsMap Ybad.prog kt Rp b n D ∧ Maps.size D = cntF f N ∧ (∀ i, i < N → D.atKey (lit i) dnil = encP (f i)) ∧ ∀ i, i < N → Maps.has D (lit i) = (f i).isSome

theorem tighten {w : World} {kt : TypeId} {b n : Nat} {D : DataW Unit} (h : w.ownsMap Ybad.prog kt Rp b n D) : w.ownsMap Ybad.prog kt Rp b (Maps.size D) D := by
  obtain ⟨es, clock, hb, F, _, rfl⟩ := h
  refine ⟨es, clock, hb, F, ?_, rfl⟩
  rw [Maps.size_eq, length_read]
  exact Nat.le_refl _

section
variable {w : World} {kt t e : TypeId} {lit : Nat → Lit} {N b : Nat} {f : Nat → Option Nat}

theorem PM.lt (h : PM w kt lit N b f) : b < w.heap.size := by obtain ⟨n, D, h1, _⟩ := h.ex; exact h1.lt

theorem PM.same {w' : World} (h : PM w kt lit N b f) (hb : w'.heap[b]? = w.heap[b]?) : PM w' kt lit N b f := by
  obtain ⟨n, D, ⟨es, clock, h1, h2⟩, h3⟩ := h.ex
  exact ⟨n, D, ⟨es, clock, by rw [hb]; exact h1, h2⟩, h3⟩

theorem PM.fr {ow ow' : Nat → Option Nat} {w' : World} {S : List Nat} {s : Nat} (h : PM w kt lit N b f) (g : Fr ow w ow' w' S) (ho : ow b = some s) (hs : s ∉ S) : PM w' kt lit N b f :=
  h.same (g.keep b h.lt (fun s' e hm => by rw [ho] at e; cases e; exact hs hm))

theorem PM.look (h : PM w kt lit N b f) (K : Maps.Keyed Ybad.prog kt) (ht : Ybad.prog.underlying t = some (.map kt e)) (hz : (zeroValue e).run Ybad.prog w = .ok (.pointer none) w) {key : Value} {i : Nat} (hi : i < N) (hkey : keyOf Ybad.prog kt key = some (lit i)) :
    (Instr.lookup t (.map (some b)) key false).run Ybad.prog w = .ok (pv (f i)) w := by
  obtain ⟨n, D, h1, _, h3, _⟩ := h.ex
  obtain ⟨v, ps, hrun, hv⟩ := h1.lookup K ht hz (Rp_pv Option.none) hkey
  rw [show encP Option.none = dnil from rfl, h3 i hi] at hv
  rw [hrun, Rp_inv hv]

theorem PM.put (h : PM w kt lit N b f) (K : Maps.Keyed Ybad.prog kt) (ht : Ybad.prog.underlying t = some (.map kt e)) {key : Value} {i : Nat} (hi : i < N) (hkey : keyOf Ybad.prog kt key = some (lit i)) (hN : N < maxLen)
    (hinj : ∀ i j, i < N → j < N → lit i = lit j → i = j) (x : Nat) :
    ∃ w', (Instr.mapUpdate t (.map (some b)) key (pv (some x))).run Ybad.prog w = .ok () w' ∧ PM w' kt lit N b (upd f i (some x)) ∧ w.mapTurned w' b := by
  obtain ⟨n, D, h1, h2, h3, h4⟩ := h.ex
  obtain ⟨w', hrun, hown, hturn⟩ := (tighten h1).store K ht (by rw [h2]; have := cntF_le f N; omega) hkey (Rp_pv (some x))
  refine ⟨w', hrun, ⟨_, _, hown, ?_, ?_, ?_⟩, hturn⟩
  · rw [Maps.size_put (h1.tidy K), h4 i hi, h2]
    have := cntF_upd f i (some x) N hi
    cases hf : (f i).isSome <;> simp [hf] at this ⊢ <;> omega
  · intro j hj
    by_cases e : j = i
    · subst e; rw [Maps.atKey_put_same h1.isMap (K.key hkey)]; simp [upd]
    · rw [Maps.atKey_put_other (fun e' => e (hinj j i hj hi e')), h3 j hj]; simp [upd, e]
  · intro j hj
    by_cases e : j = i
    · subst e; rw [Maps.has_put_same h1.isMap (K.key hkey)]; simp [upd]
    · rw [Maps.has_put_other (fun e' => e (hinj j i hj hi e')), h4 j hj]; simp [upd, e]

theorem PM.del (h : PM w kt lit N b f) (K : Maps.Keyed Ybad.prog kt) (ht : Ybad.prog.underlying t = some (.map kt e)) {key : Value} {i : Nat} (hi : i < N) (hkey : keyOf Ybad.prog kt key = some (lit i))
    (hinj : ∀ i j, i < N → j < N → lit i = lit j → i = j) (ty : TypeId) :
    ∃ w', (Builtin.delete_ #[t, kt] ty #[.map (some b), key]).run Ybad.prog w = .ok (.tuple #[]) w' ∧ PM w' kt lit N b (upd f i Option.none) ∧ w.mapTurned w' b := by
  obtain ⟨n, D, h1, h2, h3, h4⟩ := h.ex
  obtain ⟨w', hrun, hown, hturn⟩ := h1.drop K ht hkey ty
  refine ⟨w', hrun, ⟨_, _, hown, ?_, ?_, ?_⟩, hturn⟩
  · have e1 := Maps.size_del (h1.tidy K) (k := lit i)
    rw [h4 i hi, h2] at e1
    have := cntF_upd f i Option.none N hi
    cases hf : (f i).isSome <;> simp [hf] at this e1 ⊢ <;> omega
  · intro j hj
    by_cases e : j = i
    · subst e; rw [Maps.atKey_del_same]; simp [upd, encP]
    · rw [Maps.atKey_del_other (fun e' => e (hinj j i hj hi e')), h3 j hj]; simp [upd, e]
  · intro j hj
    by_cases e : j = i
    · subst e; rw [Maps.has_del_same]; simp [upd]
    · rw [Maps.has_del_other (fun e' => e (hinj j i hj hi e')), h4 j hj]; simp [upd, e]

theorem Fr.turned {ow : Nat → Option Nat} {w w' : World} {b s : Nat} (hf : Fresh ow w) (h : w.mapTurned w' b) (ho : ow b = some s) : Fr ow w ow w' [s] := by
  have hg := h.grown
  have hsz : w'.heap.size = w.heap.size := by
    obtain ⟨es, c, es', c', hb, rfl⟩ := h
    simp [ChangeMaps.setBlock]
  refine ⟨hg.os, hg.tape, hg.output, hg.size, fun _ _ => rfl, fun k hk => hf k (by omega), fun k hk hn => hg.block k hk (fun e => ?_)⟩
  cases e
  exact hn s ho (by simp)

end

/-! ### at the operation -/
section
variable {P : Program} (w : World) {ops : Array Oper} {rest : List Oper} {o : Oper} {a : Act} {Q : Exit → Act → World → Prop}

theorem wpList_lookup_run (hg : o.guard = none) (m x : Operand) (t : TypeId) (hop : o.op = Op.lookup t m x false) (mv key v : Value) (hm : a.eval m = mv) (hx : a.eval x = key)
    (hrun : (Instr.lookup t mv key false).run P w = .ok v w) (hK : wpList P ops Q rest (a.put o.dst v) w) : wpList P ops Q (o :: rest) a w := by
  refine wpList_plain hg fun K' hK' => ?_
  unfold Oper.wp
  simp [execOp, hop, hm, hx, hrun, Result.andThen]
  exact hK' _ _ hK

theorem wpList_mapUpdate_run (hg : o.guard = none) (m x v : Operand) (t : TypeId) (hop : o.op = Op.mapUpdate t m x v) (mv key val : Value) (hm : a.eval m = mv) (hx : a.eval x = key) (hv : a.eval v = val) (w' : World)
    (hrun : (Instr.mapUpdate t mv key val).run P w = .ok () w') (hK : wpList P ops Q rest (a.put o.dst undef) w') : wpList P ops Q (o :: rest) a w := by
  refine wpList_plain hg fun K' hK' => ?_
  unfold Oper.wp
  simp [execOp, hop, hm, hx, hv, hrun, Result.andThen]
  exact hK' _ _ hK

theorem wpList_delete_run (hg : o.guard = none) (m x : Operand) (t k : TypeId) (hop : o.op = Op.call { callee := Callee.builtin Builtin.delete, args := #[m, x], argTypes := #[t, k] }) (mv key : Value) (hm : a.eval m = mv) (hx : a.eval x = key) (w' : World)
    (hrun : ∀ ty, (Builtin.delete_ #[t, k] ty #[mv, key]).run P w = .ok (.tuple #[]) w') (hK : wpList P ops Q rest (a.put o.dst (.tuple #[])) w') : wpList P ops Q (o :: rest) a w := by
  refine wpList_plain hg fun K' hK' => ?_
  unfold Oper.wp
  simp [execOp, hop, resolve, invoke, builtin, hm, hx, hrun, Result.andThen]
  exact hK' _ _ hK
end

/-! ### the two maps -/

def nameB : Nat → List UInt8
  | 0 => [97]
  | 1 => [98]
  | _ => [99]

def name (i : Nat) : ByteArray := ⟨(nameB i).toArray⟩
def qlit (i : Nat) : Lit := .string (nameB i)
def tlit (y : Nat) : Lit := .int .i64 (y : Int)

theorem qlit_inj : ∀ i j, i < 3 → j < 3 → qlit i = qlit j → i = j := by
  intro i j hi hj h
  have : ∀ i, i < 3 → ∀ j, j < 3 → nameB i = nameB j → i = j := by decide
  exact this i hi j hj (by simpa [qlit] using h)

theorem tlit_inj : ∀ i j, i < 4 → j < 4 → tlit i = tlit j → i = j := by
  intro i j _ _ h
  simp [tlit] at h
  omega

theorem keyedS : Maps.Keyed Ybad.prog 9 := Maps.string_keyed Ybad.underlying9
theorem keyedI : Maps.Keyed Ybad.prog 3 := Maps.int_keyed Ybad.underlying3

theorem zero64 (w : World) : (zeroValue 64).run Ybad.prog w = .ok (.pointer none) w := by kernel_rfl
theorem zero62 (w : World) : (zeroValue 62).run Ybad.prog w = .ok (.pointer none) w := by kernel_rfl

theorem keyT {y : Nat} (hy : y < 4) : keyOf Ybad.prog 3 (.int .i64 (y : Int)) = some (tlit y) :=
  Maps.keyOf_int_mk Ybad.underlying3 (by
    have : ∀ y, y < 4 → (Lit.int .i64 ((y : Nat) : Int)).wf = true := by decide
    exact this y hy)

theorem keyQ {i : Nat} (hi : i < 3) : keyOf Ybad.prog 9 (.string (name i)) = some (qlit i) := by
  have hs : (name i).size ≤ maxLen := by
    have : ∀ i, i < 3 → (name i).size ≤ maxLen := by decide
    exact this i hi
  rw [Go.WideMaps.keyOf_string_mk Ybad.underlying9 hs]
  simp [qlit, name]

end Go.Proofs.YbulkbcpiDoor.rel
