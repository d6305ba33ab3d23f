/-
  Seat b2690a: LawS2690CModel: the memory of a Standing: records, frames, its block, its two maps.
-/
import Derived.Test.YbulkbcrmModelA
import Derived.Maps.OwnOps
import Derived.Maps.Range
import Derived.Maps.RangeWalk
namespace Go.Proofs.Ybulkbcrm.model
open Go.RowKit

theorem Yba.info52 : (Yba.prog.info? 52).map (fun i => (i.zero, i.size, i.bytes)) = some (some (.agg #[.int .u64 0, .int .u64 0, .int .u32 0, .int .u64 0, .slice none 0 0, .int .u64 0, .int .u64 0, .int .u64 0, .int .u32 0, .int .u64 0, .int .u32 0, .slice none 0 0]), 12, 128) := by kernel_rfl
theorem Yba.info80 : (Yba.prog.info? 80).map (fun i => (i.zero, i.size, i.bytes)) = some (some (.agg #[.int .u64 0, .int .u64 0, .int .u64 0, .int .u32 0, .int .u64 0, .slice none 0 0, .int .u64 0, .int .u64 0, .int .u64 0, .int .u32 0, .int .u64 0, .int .u32 0, .slice none 0 0]), 13, 136) := by kernel_rfl
theorem Yba.info59 : (Yba.prog.info? 59).map (fun i => (i.zero, i.size, i.bytes)) = some (some (.agg #[.int .u32 0, .int .u64 0]), 2, 16) := by kernel_rfl

/-- A saved state: its slot, its low, its releases, its log (the index), its row of marks and their number. -/
structure Rec : Type where
  slot : Nat
  low : Nat
  rel : Nat
  log : Nat
  ma : Option Addr
  ml : Nat
  mc : Nat

abbrev Rec.mv (r : Rec) : Value := .slice r.ma r.ml r.mc

def rcl (r : Rec) : List Value := [.int .u64 r.slot, .int .u64 0, .int .u32 0, .int .u64 r.low, .slice r.ma r.ml r.mc, .int .u64 r.rel, .int .u64 r.log, .int .u64 0, .int .u32 0, .int .u64 0, .int .u32 0, .slice none 0 0]
def rcv (r : Rec) : Value := .agg #[.int .u64 r.slot, .int .u64 0, .int .u32 0, .int .u64 r.low, .slice r.ma r.ml r.mc, .int .u64 r.rel, .int .u64 r.log, .int .u64 0, .int .u32 0, .int .u64 0, .int .u32 0, .slice none 0 0]

/-! ### Frames -/

/-- Of what was there only the blocks in S may have turned. -/
structure Fr (S : Nat → Prop) (w w' : World) : Prop where
  os : w'.os = w.os
  tape : w'.tape = w.tape
  output : w'.output = w.output
  size : w.heap.size ≤ w'.heap.size
  keep : ∀ k, k < w.heap.size → ¬ S k → w'.heap[k]? = w.heap[k]?

theorem Fr.refl (S : Nat → Prop) (w : World) : Fr S w w := ⟨rfl, rfl, rfl, Nat.le_refl _, fun _ _ _ => rfl⟩
theorem Fr.trans {S : Nat → Prop} {w w1 w2 : World} (h : Fr S w w1) (k : Fr S w1 w2) : Fr S w w2 := by
  have := h.size
  exact ⟨k.os.trans h.os, k.tape.trans h.tape, k.output.trans h.output, Nat.le_trans h.size k.size, fun j hj hs => (k.keep j (by omega) hs).trans (h.keep j hj hs)⟩
/-- A step behind the first may also turn whatever is new. -/
theorem Fr.andThen {S T : Nat → Prop} {w w1 w2 : World} (h : Fr S w w1) (k : Fr T w1 w2) (hT : ∀ j, T j → S j ∨ w.heap.size ≤ j) : Fr S w w2 := by
  have := h.size
  refine ⟨k.os.trans h.os, k.tape.trans h.tape, k.output.trans h.output, Nat.le_trans h.size k.size, fun j hj hs => (k.keep j (by omega) (fun t => ?_)).trans (h.keep j hj hs)⟩
  rcases hT j t with h1 | h1
  · exact hs h1
  · omega
theorem Fr.mono {S T : Nat → Prop} {w w1 : World} (h : Fr S w w1) (hs : ∀ k, S k → T k ∨ w.heap.size ≤ k) : Fr T w w1 :=
  ⟨h.os, h.tape, h.output, h.size, fun k hk hn => h.keep k hk (fun s => by
    rcases hs k s with h1 | h1
    · exact hn h1
    · omega)⟩
theorem Fr.below {S : Nat → Prop} {B : Nat} {w w1 : World} (h : Fr S w w1) (hB : B ≤ w.heap.size) (hs : ∀ k, S k → B ≤ k) : Below B w w1 :=
  ⟨h.os, h.tape, h.output, h.size, fun k hk => h.keep k (by omega) (fun s => by have := hs k s; omega)⟩
theorem Fr.of_below {B : Nat} {w w1 : World} (h : Below B w w1) : Fr (fun k => B ≤ k) w w1 := ⟨h.os, h.tape, h.output, h.size, fun k _ hn => h.block k (by omega)⟩

theorem Fr.alloc {S : Nat → Prop} {w w1 : World} (h : Fr S w w1) (o : Obj) : Fr S w (w1.alloc o) := by
  have := h.size
  refine ⟨h.os, h.tape, h.output, by simp; omega, fun k hk hn => ?_⟩
  rw [Below.heap_alloc _ _ _ (by omega)]
  exact h.keep k hk hn
theorem Fr.drewN {S : Nat → Prop} {w w1 : World} (h : Fr S w w1) (n : Nat) : Fr S w (w1.drewN n) := ⟨h.os, h.tape, h.output, h.size, h.keep⟩
theorem Fr.drew {S : Nat → Prop} {w w1 : World} (h : Fr S w w1) : Fr S w w1.drew := ⟨h.os, h.tape, h.output, h.size, h.keep⟩

theorem hset_other (w : World) (a : Addr) (u : Value) {k : Nat} (h : a.block ≠ k) : (w.setCell a u).heap[k]? = w.heap[k]? := by
  simp [World.setCell, Array.getElem?_modify, h]
theorem hset_same {w : World} {b : Nat} {cs : Array Value} {e : TypeId} {fz : Nat × Nat} (h : w.heap[b]? = some (.cells cs e fz)) (j : Nat) (u : Value) : (w.setCell ⟨b, j, none⟩ u).heap[b]? = some (.cells (cs.setIfInBounds j u) e fz) := by
  simp [World.setCell, Array.getElem?_modify, h]
theorem heap_lt {w : World} {b : Nat} {o : Obj} (h : w.heap[b]? = some o) : b < w.heap.size := (Array.getElem?_eq_some_iff.1 h).1

theorem Fr.setCell {S : Nat → Prop} {w w1 : World} (h : Fr S w w1) {b : Nat} (hb : S b ∨ w.heap.size ≤ b) (j : Nat) (u : Value) : Fr S w (w1.setCell ⟨b, j, none⟩ u) := by
  have := h.size
  refine ⟨h.os, h.tape, h.output, by simp; omega, fun k hk hn => ?_⟩
  rw [hset_other _ _ _ (by
    rintro rfl
    rcases hb with hb | hb
    · exact hn hb
    · exact absurd hk (Nat.not_lt.2 hb))]
  exact h.keep k hk hn

theorem Fr.grown {S : Nat → Prop} {w w1 w2 : World} {row : Option Nat} (h : Fr S w w1) (hg : w1.grownBy w2 row) (hr : ∀ k, row = some k → S k ∨ w.heap.size ≤ k) : Fr S w w2 := by
  have := h.size
  refine ⟨hg.os.trans h.os, hg.tape.trans h.tape, hg.output.trans h.output, Nat.le_trans h.size hg.size, fun k hk hn => (hg.block k (by omega) (fun e => ?_)).trans (h.keep k hk hn)⟩
  rcases hr k e.symm with h1 | h1
  · exact hn h1
  · omega

theorem Fr.cell {S : Nat → Prop} {w w1 : World} (h : Fr S w w1) {a : Addr} (ha : a.block < w.heap.size) (hs : ¬ S a.block) : w1.cell? a = w.cell? a := World.cell?_of_block (h.keep _ ha hs)
theorem Fr.frozen {S : Nat → Prop} {w w1 : World} (h : Fr S w w1) {a : Addr} (ha : a.block < w.heap.size) (hs : ¬ S a.block) : w1.frozen? a = w.frozen? a := World.frozen?_of_block (h.keep _ ha hs)

/-! ### The Standing's block -/

/-- Its seven cells. -/
def SB (w : World) (b : Nat) (low rel : Nat) (mv : Value) (kept : Nat) (lv hv : Value) : Prop :=
  w.heap[b]? = some (.cells #[.nilFunc, .int .u64 low, .int .u64 rel, mv, .int .u64 kept, lv, hv] 72 (0, 0))

section
variable {w : World} {b low rel : Nat} {mv : Value} {kept : Nat} {lv hv : Value}
theorem SB.c0 (h : SB w b low rel mv kept lv hv) : w.cell? ⟨b, 0, none⟩ = some .nilFunc := by simp [World.cell?, show _ = _ from h]
theorem SB.c1 (h : SB w b low rel mv kept lv hv) : w.cell? ⟨b, 1, none⟩ = some (.int .u64 low) := by simp [World.cell?, show _ = _ from h]
theorem SB.c2 (h : SB w b low rel mv kept lv hv) : w.cell? ⟨b, 2, none⟩ = some (.int .u64 rel) := by simp [World.cell?, show _ = _ from h]
theorem SB.c3 (h : SB w b low rel mv kept lv hv) : w.cell? ⟨b, 3, none⟩ = some mv := by simp [World.cell?, show _ = _ from h]
theorem SB.c4 (h : SB w b low rel mv kept lv hv) : w.cell? ⟨b, 4, none⟩ = some (.int .u64 kept) := by simp [World.cell?, show _ = _ from h]
theorem SB.c5 (h : SB w b low rel mv kept lv hv) : w.cell? ⟨b, 5, none⟩ = some lv := by simp [World.cell?, show _ = _ from h]
theorem SB.c6 (h : SB w b low rel mv kept lv hv) : w.cell? ⟨b, 6, none⟩ = some hv := by simp [World.cell?, show _ = _ from h]
theorem SB.fz (h : SB w b low rel mv kept lv hv) (j : Nat) : w.frozen? ⟨b, j, none⟩ = false := by simp [World.frozen?, show _ = _ from h]
theorem SB.lt (h : SB w b low rel mv kept lv hv) : b < w.heap.size := heap_lt h
theorem SB.same {w' : World} (h : SB w b low rel mv kept lv hv) (e : w'.heap[b]? = w.heap[b]?) : SB w' b low rel mv kept lv hv := e.trans h
theorem SB.set1 (h : SB w b low rel mv kept lv hv) (x : Nat) : SB (w.setCell ⟨b, 1, none⟩ (.int .u64 x)) b x rel mv kept lv hv := (hset_same h 1 _).trans rfl
theorem SB.set2 (h : SB w b low rel mv kept lv hv) (x : Nat) : SB (w.setCell ⟨b, 2, none⟩ (.int .u64 x)) b low x mv kept lv hv := (hset_same h 2 _).trans rfl
theorem SB.set3 (h : SB w b low rel mv kept lv hv) (x : Value) : SB (w.setCell ⟨b, 3, none⟩ x) b low rel x kept lv hv := (hset_same h 3 _).trans rfl
theorem SB.set4 (h : SB w b low rel mv kept lv hv) (x : Nat) : SB (w.setCell ⟨b, 4, none⟩ (.int .u64 x)) b low rel mv x lv hv := (hset_same h 4 _).trans rfl
theorem SB.set5 (h : SB w b low rel mv kept lv hv) (x : Value) : SB (w.setCell ⟨b, 5, none⟩ x) b low rel mv kept x hv := (hset_same h 5 _).trans rfl
theorem SB.set6 (h : SB w b low rel mv kept lv hv) (x : Value) : SB (w.setCell ⟨b, 6, none⟩ x) b low rel mv kept lv x := (hset_same h 6 _).trans rfl
end

/-! ### The two maps -/

def Rv (v : Value) : Option (DataW Value × List MemPlace) := some (.held v, [])

def cntF (f : Nat → Option Value) : Nat → Nat
  | 0 => 0
  | n + 1 => cntF f n + (if (f n).isSome then 1 else 0)

def upd {α : Type} (f : Nat → Option α) (i : Nat) (x : Option α) : Nat → Option α := fun j => if j = i then x else f j

theorem cntF_le (f : Nat → Option Value) : ∀ n, cntF f n ≤ n
  | 0 => Nat.le_refl _
  | n + 1 => by have := cntF_le f n; simp only [cntF]; split <;> omega

theorem cntF_out (f : Nat → Option Value) (i : Nat) (x : Option Value) : ∀ n, n ≤ i → cntF (upd f i x) n = cntF f n
  | 0, _ => rfl
  | n + 1, h => by simp only [cntF, cntF_out f i x n (by omega), upd, if_neg (show ¬ n = i by omega)]

theorem cntF_upd (f : Nat → Option Value) (i : Nat) (x : Option Value) : ∀ n, i < n → cntF (upd f i x) n + (if (f i).isSome then 1 else 0) = cntF f n + (if x.isSome then 1 else 0)
  | 0, h => by omega
  | n + 1, h => by
    simp only [cntF]
    by_cases e : i = n
    · subst e
      rw [cntF_out f i x i (Nat.le_refl _)]
      simp only [upd, if_true]
      omega
    · have := cntF_upd f i x n (by omega)
      simp only [upd, if_neg (show ¬ n = i by omega)]
      omega

theorem cntF_none (f : Nat → Option Value) (h : ∀ i, f i = none) : ∀ n, cntF f n = 0
  | 0 => rfl
  | n + 1 => by simp [cntF, cntF_none f h n, h n]

def klit (q : IntKind) (i : Nat) : Lit := .int q (i : Int)

/-- The datum D holds at the key i (i < N) the value 'f i', and no other key. -/
structure PD' (q : IntKind) (N : Nat) (D : DataW Value) (f : Nat → Option Value) : Prop where
  size : Maps.size D = cntF f N
  look : ∀ i, i < N → ∀ zd, D.atKey (klit q i) zd = ((f i).map DataW.held).getD zd
  has : ∀ i, i < N → Maps.has D (klit q i) = (f i).isSome
  all : ∀ kl, Maps.has D kl = true → ∃ i, i < N ∧ kl = klit q i

/-- Block b is such a map. -/
def PM (w : World) (kt : TypeId) (q : IntKind) (N b : Nat) (f : Nat → Option Value) : Prop :=
  ∃ n D, w.ownsMap Yba.prog kt Rv b n D ∧ PD' q N D f

theorem tighten {w : World} {kt : TypeId} {b n : Nat} {D : DataW Value} (h : w.ownsMap Yba.prog kt Rv b n D) : w.ownsMap Yba.prog kt Rv b (Maps.size D) D := by
  obtain ⟨es, clock, hb, F, _, rfl⟩ := h
  refine ⟨es, clock, hb, F, ?_, rfl⟩
  rw [Maps.size_eq, length_read]
  exact Nat.le_refl _

section
variable {w : World} {kt t e : TypeId} {q : IntKind} {N b : Nat} {f : Nat → Option Value} {D : DataW Value}

theorem klit_inj {i j : Nat} (h : klit q i = klit q j) : i = j := by
  simp [klit] at h
  omega

theorem PD'.empty (hf : ∀ i, f i = none) : PD' q N (.map []) f := by
  refine ⟨by rw [cntF_none f hf]; rfl, fun i hi zd => ?_, fun i hi => ?_, fun kl h => ?_⟩
  · rw [hf i]; rfl
  · rw [hf i]; rfl
  · cases h

theorem PD'.put (h : PD' q N D f) (hm : Maps.IsMap D) (ht : Maps.Tidy D) {i : Nat} (hi : i < N) (hk : WideAt.IsKeyLit (klit q i)) (x : Value) : PD' q N (D.put (klit q i) (.held x)) (upd f i (some x)) := by
  refine ⟨?_, fun j hj zd => ?_, fun j hj => ?_, fun kl hkl => ?_⟩
  · rw [Maps.size_put ht, h.has i hi, h.size]
    have := cntF_upd f i (some x) N hi
    cases hf : (f i).isSome <;> simp [hf] at this ⊢ <;> omega
  · by_cases e : j = i
    · subst e; rw [Maps.atKey_put_same hm hk]; simp [upd]
    · rw [Maps.atKey_put_other (fun e' => e (klit_inj e')), h.look j hj]; simp [upd, e]
  · by_cases e : j = i
    · subst e; rw [Maps.has_put_same hm hk]; simp [upd]
    · rw [Maps.has_put_other (fun e' => e (klit_inj e')), h.has j hj]; simp [upd, e]
  · by_cases e : kl = klit q i
    · exact ⟨i, hi, e⟩
    · rw [Maps.has_put_other e] at hkl
      exact h.all kl hkl

theorem PD'.del (h : PD' q N D f) (ht : Maps.Tidy D) {i : Nat} (hi : i < N) : PD' q N (D.del (klit q i)) (upd f i none) := by
  refine ⟨?_, fun j hj zd => ?_, fun j hj => ?_, fun kl hkl => ?_⟩
  · have e1 := Maps.size_del ht (k := klit q i)
    rw [h.has i hi, h.size] at e1
    have := cntF_upd f i none N hi
    cases hf : (f i).isSome <;> simp [hf] at this e1 ⊢ <;> omega
  · by_cases e : j = i
    · subst e; rw [Maps.atKey_del_same]; simp [upd]
    · rw [Maps.atKey_del_other (fun e' => e (klit_inj e')), h.look j hj]; simp [upd, e]
  · by_cases e : j = i
    · subst e; rw [Maps.has_del_same]; simp [upd]
    · rw [Maps.has_del_other (fun e' => e (klit_inj e')), h.has j hj]; simp [upd, e]
  · by_cases e : kl = klit q i
    · exact ⟨i, hi, e⟩
    · rw [Maps.has_del_other e] at hkl
      exact h.all kl hkl

theorem PM.lt (h : PM w kt q N b f) : b < w.heap.size := by obtain ⟨n, D, h1, _⟩ := h; exact h1.lt

theorem PM.same {w' : World} (h : PM w kt q N b f) (hb : w'.heap[b]? = w.heap[b]?) : PM w' kt q N b f := by
  obtain ⟨n, D, ⟨es, clock, h1, h2⟩, h3⟩ := h
  exact ⟨n, D, ⟨es, clock, by rw [hb]; exact h1, h2⟩, h3⟩

theorem PM.isMap (h : PM w kt q N b f) : ∃ es c, w.heap[b]? = some (.map es c) := by
  obtain ⟨n, D, ⟨es, clock, h1, h2⟩, h3⟩ := h
  exact ⟨es, clock, h1⟩

theorem PM.made (w : World) (kt : TypeId) (q : IntKind) (N : Nat) (hf : ∀ i, f i = none) : PM (w.alloc (.map #[] 0)) kt q N w.heap.size f :=
  ⟨_, _, World.ownsMap_made w Yba.prog kt Rv, PD'.empty hf⟩

theorem PM.look (h : PM w kt q N b f) (K : Maps.Keyed Yba.prog kt) (ht : Yba.prog.underlying t = some (.map kt e)) {z : Value} (hz : (zeroValue e).run Yba.prog w = .ok z w) {key : Value} {i : Nat} (hi : i < N) (hkey : keyOf Yba.prog kt key = some (klit q i)) :
    (Instr.lookup t (.map (some b)) key false).run Yba.prog w = .ok ((f i).getD z) w := by
  obtain ⟨n, D, h1, h2⟩ := h
  obtain ⟨v, ps, hrun, hv⟩ := h1.lookup K ht hz (show Rv z = some (.held z, []) from rfl) hkey
  rw [h2.look i hi] at hv
  rw [hrun]
  cases hf : f i with
  | none => rw [hf] at hv; simp [Rv] at hv; rw [hv.1]; rfl
  | some x => rw [hf] at hv; simp [Rv] at hv; rw [hv.1]; rfl

theorem PM.lookOk (h : PM w kt q N b f) (K : Maps.Keyed Yba.prog kt) (ht : Yba.prog.underlying t = some (.map kt e)) {z : Value} (hz : (zeroValue e).run Yba.prog w = .ok z w) {key : Value} {i : Nat} (hi : i < N) (hkey : keyOf Yba.prog kt key = some (klit q i)) :
    (Instr.lookup t (.map (some b)) key true).run Yba.prog w = .ok (.tuple #[(f i).getD z, .bool (f i).isSome]) w := by
  obtain ⟨n, D, h1, h2⟩ := h
  obtain ⟨v, ps, hrun, hv⟩ := h1.look_ok K ht hz (show Rv z = some (.held z, []) from rfl) hkey
  rw [h2.look i hi] at hv
  rw [hrun, h2.has i hi]
  cases hf : f i with
  | none => rw [hf] at hv; simp [Rv] at hv; rw [hv.1]; rfl
  | some x => rw [hf] at hv; simp [Rv] at hv; rw [hv.1]; rfl

theorem PM.put (h : PM w kt q N b f) (K : Maps.Keyed Yba.prog kt) (ht : Yba.prog.underlying t = some (.map kt e)) {key : Value} {i : Nat} (hi : i < N) (hkey : keyOf Yba.prog kt key = some (klit q i)) (hN : N < maxLen) (x : Value) :
    ∃ w', (Instr.mapUpdate t (.map (some b)) key x).run Yba.prog w = .ok () w' ∧ PM w' kt q N b (upd f i (some x)) ∧ w.mapTurned w' b := by
  obtain ⟨n, D, h1, h2⟩ := h
  obtain ⟨w', hrun, hown, hturn⟩ := (tighten h1).store K ht (by rw [h2.size]; have := cntF_le f N; omega) hkey (show Rv x = some (.held x, []) from rfl)
  exact ⟨w', hrun, ⟨_, _, hown, h2.put h1.isMap (h1.tidy K) hi (K.key hkey) x⟩, hturn⟩

theorem PM.del (h : PM w kt q N b f) (K : Maps.Keyed Yba.prog kt) (ht : Yba.prog.underlying t = some (.map kt e)) {key : Value} {i : Nat} (hi : i < N) (hkey : keyOf Yba.prog kt key = some (klit q i)) (ty : TypeId) :
    ∃ w', (Builtin.delete_ #[t, kt] ty #[.map (some b), key]).run Yba.prog w = .ok (.tuple #[]) w' ∧ PM w' kt q N b (upd f i none) ∧ w.mapTurned w' b := by
  obtain ⟨n, D, h1, h2⟩ := h
  obtain ⟨w', hrun, hown, hturn⟩ := h1.drop K ht hkey ty
  exact ⟨w', hrun, ⟨_, _, hown, h2.del (h1.tidy K) hi⟩, hturn⟩

theorem PM.fr {S : Nat → Prop} {w' : World} (h : PM w kt q N b f) (g : Fr S w w') (hs : ¬ S b) : PM w' kt q N b f := h.same (g.keep b h.lt hs)

theorem Fr.turned {S : Nat → Prop} {w0 w w' : World} {b : Nat} (h0 : Fr S w0 w) (h : w.mapTurned w' b) (hs : S b ∨ w0.heap.size ≤ b) : Fr S w0 w' :=
  h0.grown h.grown (fun k e => by cases e; exact hs)

/-! ### a range over a map under way -/

def PMr (w : World) (kt : TypeId) (q : IntKind) (N b r : Nat) (f : Nat → Option Value) (left : Nat → Bool) (cnt : Nat) : Prop :=
  ∃ n D lf, w.ranges Yba.prog kt Rv b r n D lf cnt ∧ PD' q N D f ∧ (∀ i, i < N → lf (klit q i) = left i) ∧ ∀ kl, lf kl = true → ∃ i, i < N ∧ kl = klit q i

theorem PM.range (h : PM w kt q N b f) (K : Maps.Keyed Yba.prog kt) (ht : Yba.prog.underlying t = some (.map kt e)) :
    ∃ w' cnt, (Instr.range t (.map (some b))).run Yba.prog w = .ok (.pointer (some ⟨w.heap.size, 0, none⟩)) w' ∧ PMr w' kt q N b w.heap.size f (fun i => (f i).isSome) cnt ∧ w.grownBy w' none ∧ w'.heap.size = w.heap.size + 1 := by
  obtain ⟨n, D, h1, h2⟩ := h
  obtain ⟨w', hrun, hr, hg, hs⟩ := h1.range K ht
  exact ⟨w', _, hrun, ⟨n, D, _, hr, h2, fun i hi => h2.has i hi, h2.all⟩, hg, hs⟩

variable {r cnt : Nat} {left : Nat → Bool}

theorem PMr.pm (h : PMr w kt q N b r f left cnt) : PM w kt q N b f := by
  obtain ⟨n, D, lf, h1, h2, _⟩ := h
  exact ⟨n, D, h1.owns, h2⟩

theorem PMr.left_eq (h : PMr w kt q N b r f left cnt) : w.rangeLeft b r = cnt := by
  obtain ⟨n, D, lf, h1, h2, _⟩ := h
  exact h1.left_eq

theorem PMr.lt (h : PMr w kt q N b r f left cnt) : r < w.heap.size := by obtain ⟨n, D, lf, h1, _⟩ := h; exact h1.lt
theorem PMr.ne (h : PMr w kt q N b r f left cnt) : r ≠ b := by obtain ⟨n, D, lf, h1, _⟩ := h; exact h1.ne
theorem PMr.iter (h : PMr w kt q N b r f left cnt) : ∃ a1 a2 a3, w.heap[r]? = some (.mapIter (some b) a1 a2 a3) := by
  obtain ⟨n, D, lf, ⟨_, _, a1, a2, a3, _, _, _, _, hr, _⟩, _⟩ := h
  exact ⟨a1, a2, a3, hr⟩

theorem PMr.same {w' : World} (h : PMr w kt q N b r f left cnt) (hb : w'.heap[b]? = w.heap[b]?) (hr : w'.heap[r]? = w.heap[r]?) : PMr w' kt q N b r f left cnt := by
  obtain ⟨n, D, lf, ⟨es, clock, since, seen, c0, h1, F, hs, hD, h5, rest⟩, h2⟩ := h
  exact ⟨n, D, lf, ⟨es, clock, since, seen, c0, by rw [hb]; exact h1, F, hs, hD, by rw [hr]; exact h5, rest⟩, h2⟩

theorem PMr.fr {S : Nat → Prop} {w' : World} (h : PMr w kt q N b r f left cnt) (g : Fr S w w') (hs : ¬ S b) (hr : ¬ S r) : PMr w' kt q N b r f left cnt := h.same (g.keep b h.pm.lt hs) (g.keep r h.lt hr)

theorem klit_same {i j : Nat} (hi : WideAt.IsKeyLit (klit q i)) : (klit q j).sameKey (klit q i) = decide (j = i) := by
  by_cases e : j = i
  · subst e
    rw [WideAt.sameKey_self hi, decide_eq_true rfl]
  · rw [decide_eq_false e]
    exact Maps.sameKey_ne (fun e' => e (klit_inj e'))

theorem PMr.next (h : PMr w kt q N b r f left cnt) (K : Maps.Keyed Yba.prog kt) (hk : ∀ i, i < N → keyOf Yba.prog kt (.int q (i : Int)) = some (klit q i)) (ty : TypeId) :
    (cnt = 0 ∧ (∀ i, i < N → left i = false) ∧ (Instr.next (.pointer (some ⟨r, 0, none⟩)) false ty).run Yba.prog w = .ok (.tuple #[.bool false]) w) ∨
    ∃ i v w' cnt', i < N ∧ left i = true ∧ f i = some v ∧ (Instr.next (.pointer (some ⟨r, 0, none⟩)) false ty).run Yba.prog w = .ok (.tuple #[.bool true, .int q (i : Int), v]) w' ∧
      PMr w' kt q N b r f (fun j => left j && !decide (j = i)) cnt' ∧ cnt' < cnt ∧ w.grownBy w' (some r) ∧ w'.heap.size = w.heap.size ∧ (Instr.entry (.pointer (some ⟨r, 0, none⟩))).run Yba.prog w' = .ok (.tuple #[.int q (i : Int), v]) w' := by
  obtain ⟨n, D, lf, h1, h2, h3, h4⟩ := h
  rcases h1.next K ty with ⟨e1, e2, e3⟩ | ⟨key, v, kl, y, w', cnt', hkey, hl, hR, hat, hrun, hr', hlt, hg, hs, hent⟩
  · exact .inl ⟨e1, fun i hi => by rw [← h3 i hi]; exact e2 _, e3⟩
  · obtain ⟨i, hi, rfl⟩ := h4 kl hl
    have ek : key = .int q (i : Int) := K.inj hkey (hk i hi)
    subst ek
    simp [Rv] at hR
    subst hR
    have hfi : f i = some v := by
      have a1 := hat (.held v)
      have a2 := hat .nil
      rw [h2.look i hi] at a1 a2
      cases hf : f i with
      | none => rw [hf] at a2; simp at a2
      | some x => rw [hf] at a2; simp at a2; rw [a2]
    refine .inr ⟨i, v, w', cnt', hi, by rw [← h3 i hi]; exact hl, hfi, hrun, ⟨n, D, _, hr', h2, fun j hj => ?_, fun kl' hkl' => ?_⟩, hlt, hg, hs, hent⟩
    · rw [h3 j hj, klit_same (K.key hkey)]
    · simp at hkl'
      exact h4 kl' hkl'.1

theorem PMr.drop (h : PMr w kt q N b r f left cnt) (K : Maps.Keyed Yba.prog kt) (ht : Yba.prog.underlying t = some (.map kt e)) {i : Nat} (hi : i < N) {key : Value} (hkey : keyOf Yba.prog kt key = some (klit q i)) (ty : TypeId) :
    ∃ w' cnt', (Builtin.delete_ #[t, kt] ty #[.map (some b), key]).run Yba.prog w = .ok (.tuple #[]) w' ∧ PMr w' kt q N b r (upd f i none) (fun j => left j && !decide (j = i)) cnt' ∧ cnt' ≤ cnt ∧ w.mapTurned w' b := by
  obtain ⟨n, D, lf, h1, h2, h3, h4⟩ := h
  obtain ⟨w', cnt', hrun, hr', hle, ht'⟩ := h1.drop K ht hkey ty
  refine ⟨w', cnt', hrun, ⟨n, _, _, hr', h2.del (h1.owns.tidy K) hi, fun j hj => ?_, fun kl' hkl' => ?_⟩, hle, ht'⟩
  · rw [h3 j hj, klit_same (K.key hkey)]
  · simp at hkl'
    exact h4 kl' hkl'.1

theorem PM.len (h : PM w kt q N b f) (ht : Yba.prog.underlying t = some (.map kt e)) (ty : TypeId) : (Builtin.len_ #[t] ty #[.map (some b)]).run Yba.prog w = .ok (.int .i64 (cntF f N : Nat)) w := by
  obtain ⟨n, D, h1, h2⟩ := h
  rw [h1.len ht ty, h2.size]
end

theorem keyed30 : Maps.Keyed Yba.prog 30 := Maps.int_keyed Yba.underlying30
theorem keyed46 : Maps.Keyed Yba.prog 46 := Maps.int_keyed Yba.underlying46
theorem key30 {i : Nat} (hi : i < 16) : keyOf Yba.prog 30 (.int .u64 (i : Int)) = some (klit .u64 i) :=
  Maps.keyOf_int_mk Yba.underlying30 (by
    have : ∀ y, y < 16 → (Lit.int .u64 ((y : Nat) : Int)).wf = true := by decide
    exact this i hi)
theorem key46 {i : Nat} (hi : i < 4) : keyOf Yba.prog 46 (.int .u32 (i : Int)) = some (klit .u32 i) :=
  Maps.keyOf_int_mk Yba.underlying46 (by
    have : ∀ y, y < 4 → (Lit.int .u32 ((y : Nat) : Int)).wf = true := by decide
    exact this i hi)

theorem zero30 (w : World) : (zeroValue 30).run Yba.prog w = .ok (.int .u64 0) w := by kernel_rfl
def zrec : Rec := ⟨0, 0, 0, 0, none, 0, 0⟩
theorem zero52 (w : World) : (zeroValue 52).run Yba.prog w = .ok (rcv zrec) w := by kernel_rfl

/-! ### at the operation -/
section
variable {P : Program} (w : World) {ops : Array Oper} {rest : List Oper} {o : Oper} {a : Act} {Q : Exit → Act → World → Prop}

theorem wpList_lookup_run (ok : Bool) (hg : o.guard = none) (m x : Operand) (t : TypeId) (hop : o.op = Op.lookup t m x ok) (mv key v : Value) (hm : a.eval m = mv) (hx : a.eval x = key)
    (hrun : (Instr.lookup t mv key ok).run P w = .ok v w) (hK : wpList P ops Q rest (a.put o.dst v) w) : wpList P ops Q (o :: rest) a w := by
  refine wpList_plain hg fun K' hK' => ?_
  unfold Oper.wp
  simp [execOp, hop, hm, hx, hrun, Result.andThen]
  exact hK' _ _ hK

theorem wpList_mapUpdate_run (hg : o.guard = none) (m x v : Operand) (t : TypeId) (hop : o.op = Op.mapUpdate t m x v) (mv key val : Value) (hm : a.eval m = mv) (hx : a.eval x = key) (hv : a.eval v = val) (w' : World)
    (hrun : (Instr.mapUpdate t mv key val).run P w = .ok () w') (hK : wpList P ops Q rest (a.put o.dst undef) w') : wpList P ops Q (o :: rest) a w := by
  refine wpList_plain hg fun K' hK' => ?_
  unfold Oper.wp
  simp [execOp, hop, hm, hx, hv, hrun, Result.andThen]
  exact hK' _ _ hK

theorem wpList_delete_run (hg : o.guard = none) (m x : Operand) (t k : TypeId) (hop : o.op = Op.call { callee := Callee.builtin Builtin.delete, args := #[m, x], argTypes := #[t, k] }) (mv key : Value) (hm : a.eval m = mv) (hx : a.eval x = key) (w' : World)
    (hrun : ∀ ty, (Builtin.delete_ #[t, k] ty #[mv, key]).run P w = .ok (.tuple #[]) w') (hK : wpList P ops Q rest (a.put o.dst (.tuple #[])) w') : wpList P ops Q (o :: rest) a w := by
  refine wpList_plain hg fun K' hK' => ?_
  unfold Oper.wp
  simp [execOp, hop, resolve, invoke, builtin, hm, hx, hrun, Result.andThen]
  exact hK' _ _ hK
end

end Go.Proofs.Ybulkbcrm.model
