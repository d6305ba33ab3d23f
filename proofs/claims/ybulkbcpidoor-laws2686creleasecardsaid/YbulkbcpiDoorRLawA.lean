/-
  Seat b2686aD: the script.
-/
import Derived.Test.YbulkbcpiDoorRLawP
import Derived.Deep.Cut
import Derived.Deep.CutRange
namespace Go.Proofs.YbulkbcpiDoor.rel
open Go.RowKit

/-- The manager stands in wr, in blocks that W did not have. -/
structure SI (W : World) (M qm tm : Nat) (ow : Nat → Option Nat) (s : St) (wr : World) : Prop where
  bel : Below W.heap.size W wr
  rep : Rep ow wr M qm tm s
  inv : Inv NoE NoE s
  own : ∀ k, k < W.heap.size → ow k = none

theorem SI.glob {W : World} {M qm tm : Nat} {ow : Nat → Option Nat} {s : St} {wr : World} {ev : Nat → Value} (h : SI W M qm tm ow s wr) (G : ∀ k, k < 8 → W.cell? ⟨k, 0, none⟩ = some (ev k)) : Glob ow wr ev :=
  ⟨fun k hk => by rw [h.bel.cell (p := ⟨k, 0, none⟩) (cell_lt (G k hk))]; exact G k hk, fun k hk => h.own k (cell_lt (G k hk))⟩

theorem SI.frx {W : World} {M qm tm : Nat} {ow ow' : Nat → Option Nat} {s s' : St} {wr w' : World} (h : SI W M qm tm ow s wr) (f : FrX ow wr ow' w' M qm tm s s') (r : Rep ow' w' M qm tm s') (I : Inv NoE NoE s') : SI W M qm tm ow' s' w' := by
  have hs := h.bel.size
  refine ⟨⟨f.os.trans h.bel.os, f.tape.trans h.bel.tape, f.output.trans h.bel.output, Nat.le_trans h.bel.size f.size, fun k hk => ?_⟩, r, I, fun k hk => ?_⟩
  · rw [f.keep k (by omega) (.inl (h.own k hk)), h.bel.block k hk]
  · rw [f.old k (by omega)]; exact h.own k hk

theorem SI.fr {W : World} {M qm tm : Nat} {ow : Nat → Option Nat} {s : St} {wr w' : World} (h : SI W M qm tm ow s wr) (f : Fr ow wr ow w' []) : SI W M qm tm ow s w' := h.frx (FrX.of f (by simp) (fun _ _ hn => hn)) (h.rep.still f) h.inv

theorem SI.below {W : World} {M qm tm : Nat} {ow : Nat → Option Nat} {s : St} {wr w' : World} (h : SI W M qm tm ow s wr) (b : Below wr.heap.size wr w') : SI W M qm tm ow s w' := h.fr (fr_below b h.rep.fresh)

theorem SI.nxt {W : World} {M qm tm : Nat} {ow : Nat → Option Nat} {s : St} {wr w' : World} (h : SI W M qm tm ow s wr) (n : Nxt ow wr M qm tm s w') : ∃ ow' s', SI W M qm tm ow' s' w' := by
  obtain ⟨s', ⟨ow', f, r⟩, I⟩ := n
  exact ⟨ow', s', h.frx f r I⟩

theorem SI.ra {W : World} {M qm tm : Nat} {ow : Nat → Option Nat} {s : St} {wr w' : World} {x : Nat} {ev v er : Value} (h : SI W M qm tm ow s wr) (n : RA ow wr M qm tm s x ev v er w') : ∃ ow' s', SI W M qm tm ow' s' w' := by
  rcases n with ⟨_, _, _, _, f⟩ | ⟨_, _, ow', s', _, f, r, I, _⟩
  · exact ⟨ow, s, h.fr f⟩
  · exact ⟨ow', s', h.frx f r I⟩

def zv : Array Value := #[.bool false, .bool false, .bool false, .bool false, .bool false, .bool false, .bool false, .bool false, .bool false, .bool false, .bool false, .bool false, .bool false, .bool false, .bool false, .bool false, .string ⟨#[]⟩, .string ⟨#[]⟩, .string ⟨#[]⟩, .string ⟨#[]⟩, .int .i64 0]

/-- A view is laid in a new block. -/
theorem box44 {w : World} (V : Array Value) : Below w.heap.size w ((w.alloc (.cells zv 44)).setRow w.heap.size V) ∧ ((w.alloc (.cells zv 44)).setRow w.heap.size V).heap[w.heap.size]? = some (.cells V 44 (0, 0)) :=
  ⟨below_setRow ((Below.refl _ _).alloc (Nat.le_refl _) _) (Nat.le_refl _) _, setRow_heap _ _ _ _ _ _ (heap_new w _)⟩

theorem no_wait {s : St} (I : Inv NoE NoE s) {i : Nat} (hi : i < 3) (h : any4b (s.gr i) = false) : ∀ y, y < 4 → s.wl y ≠ some i := by
  intro y hy e
  have hg : s.gr i = [] := by
    cases hc : s.gr i with
    | nil => rfl
    | cons r l =>
      have hr : r ∈ s.gr i := by rw [hc]; simp
      have hy := ((I.qok i hi).glt r hr).1
      have h1 : any4b (s.gr i) = true := any4 hy (has_iff.2 ⟨r, hr, rfl⟩)
      rw [h] at h1
      cases h1
  have hw := I.emp i hi (fun e => e) hg
  have h2 := (I.wait i hi y hy).2 e
  rw [hw] at h2
  cases h2

theorem below_trans {a b c : World} (h : Below a.heap.size a b) (k : Below b.heap.size b c) : Below a.heap.size a c := h.trans (k.mono h.size)

theorem below_alloc (w : World) (o : Obj) : Below w.heap.size w (w.alloc o) := (Below.refl _ _).alloc (Nat.le_refl _) _

theorem below_blk {a b : World} (h : Below a.heap.size a b) {k : Nat} {o : Obj} (e : a.heap[k]? = some o) : b.heap[k]? = some o := by rw [h.block k (heap_lt e)]; exact e

set_option maxRecDepth 50000 in
set_option maxHeartbeats 4000000 in
theorem law_main (a : Option Addr) (len cap x : Nat) (f0 f1 f2 f3 : Nat → Nat) (ev : Nat → Value) (w : World) (hl : len ≤ 1024) (hx : x < 256) (hc : ∀ k, k < len → ∃ b off, a = some ⟨b, off, none⟩ ∧ b < w.heap.size ∧ w.cell? ⟨b, off + k * 4, none⟩ = some (.int .u8 (f0 k : Int)) ∧ w.cell? ⟨b, off + k * 4 + 1, none⟩ = some (.int .u8 (f1 k : Int)) ∧ w.cell? ⟨b, off + k * 4 + 2, none⟩ = some (.int .u8 (f2 k : Int)) ∧ w.cell? ⟨b, off + k * 4 + 3, none⟩ = some (.int .u8 (f3 k : Int)))
    (hf : ∀ k, k < len → f0 k < 256 ∧ f1 k < 256 ∧ f2 k < 256 ∧ f3 k < 256) (G : ∀ k, k < 8 → w.cell? ⟨k, 0, none⟩ = some (ev k)) (hev : ∀ W, (binOp .eql 31 (ev 0) (ev 0)).run Ybad.prog W = .ok (.bool true) W) (hgd : ∀ W x y, (eqGuard .eql 31 x y (ev 0) (ev 0)).run Ybad.prog W = .ok () W) :
    Calls Ybad.prog 3 #[.slice a len cap, .int .u8 (x : Int)] w fun e w' => e = .returned (.bool true) ∧ Below w.heap.size w w' := by
  have hlI : ¬ (1024 : Int) < (len : Int) := by omega
  have HC : Aside (∀ k, k < len → ∃ b off, a = some ⟨b, off, none⟩ ∧ b < w.heap.size ∧ w.cell? ⟨b, off + k * 4, none⟩ = some (.int .u8 (f0 k : Int)) ∧ w.cell? ⟨b, off + k * 4 + 1, none⟩ = some (.int .u8 (f1 k : Int)) ∧ w.cell? ⟨b, off + k * 4 + 2, none⟩ = some (.int .u8 (f2 k : Int)) ∧ w.cell? ⟨b, off + k * 4 + 3, none⟩ = some (.int .u8 (f3 k : Int))) := hc
  have HF : Aside (∀ k, k < len → f0 k < 256 ∧ f1 k < 256 ∧ f2 k < 256 ∧ f3 k < 256) := hf
  have GG : Aside (∀ k, k < 8 → w.cell? ⟨k, 0, none⟩ = some (ev k)) := G
  have HEV : Aside (∀ W, (binOp .eql 31 (ev 0) (ev 0)).run Ybad.prog W = .ok (.bool true) W) := hev
  have HGD : Aside (∀ W x y, (eqGuard .eql 31 x y (ev 0) (ev 0)).run Ybad.prog W = .ok () W) := hgd
  clear hc hf G hev hgd
  go_enter Ybad.func3, Ybad.ntmps3
  go_wp2_with fail
  refine (newM w).mono ?_
  rintro e w1 ⟨M, qm, tm, ow, rfl, hR, hB, hO⟩
  have S0 : Aside (SI w M qm tm ow s0 w1) := ⟨hB, hR, inv0, hO⟩
  clear hR hB hO
  go_wp2
  go_loopw [33] (fun kv wr => ∃ (k : Nat) (ow' : Nat → Option Nat) (s' : St), k ≤ len ∧ kv = .int .i64 (k : Int) ∧ SI w M qm tm ow' s' wr) (fun kv _ => len - (intOf kv).toNat)
  case atStart => exact ⟨0, ow, s0, Nat.zero_le _, rfl, S0.out⟩
  case round =>
    obtain ⟨k, ow', s', hk, rfl, hS⟩ := hrel
    clear S0
    have SS := hide hS
    clear hS
    by_cases hlt : k < len
    · obtain ⟨b, off, rfl, bl, c0, c1, c2, c3⟩ := HC.out k hlt
      obtain ⟨g0, g1, g2, g3⟩ := HF.out k hlt
      rw [← SS.out.bel.cell (p := ⟨b, off + k * 4, none⟩) bl] at c0
      rw [← SS.out.bel.cell (p := ⟨b, off + k * 4 + 1, none⟩) bl] at c1
      rw [← SS.out.bel.cell (p := ⟨b, off + k * 4 + 2, none⟩) bl] at c2
      rw [← SS.out.bel.cell (p := ⟨b, off + k * 4 + 3, none⟩) bl] at c3
      have bl1 := Nat.lt_of_lt_of_le bl SS.out.bel.size
      generalize f0 k = z0 at *
      generalize f1 k = z1 at *
      generalize f2 k = z2 at *
      generalize f3 k = z3 at *
      obtain ⟨y, hy⟩ : ∃ y, y = z1 % 4 := ⟨_, rfl⟩
      have hyI : (z1 : Int) % 4 = (y : Int) := by omega
      have hy4 : y < 4 := by omega
      obtain ⟨m, hm⟩ : ∃ m, m = z3 % 2 := ⟨_, rfl⟩
      have hmI : (z3 : Int) % 2 = (m : Int) := by omega
      have hm2 : m < 2 := by omega
      have hi3 : z2 % 3 < 3 := by omega
      have S1 : Aside (SI w M qm tm ow' s' (wr.alloc (.cells #[.int .u8 (z0 : Int), .int .u8 (z1 : Int), .int .u8 (z2 : Int), .int .u8 (z3 : Int)] 26))) := SS.out.fr ((Fr.refl SS.out.rep.fresh []).alloc _)
      have AC : Aside (Calls Ybad.prog 6 #[.pointer (some ⟨M, 0, none⟩), .int .i64 (y : Int), .string (name (z2 % 3)), .int .i64 (m : Int)] (wr.alloc (.cells #[.int .u8 (z0 : Int), .int .u8 (z1 : Int), .int .u8 (z2 : Int), .int .u8 (z3 : Int)] 26)) fun e w' => ∃ v er, e = .returned (.tuple #[v, er]) ∧ ∃ ow2 s2, SI w M qm tm ow2 s2 w') := by
        refine (acquireX S1.out.rep S1.out.inv (S1.out.glob GG.out) hi3 y m hy4 hm2).mono ?_
        rintro e w' ⟨v, er, rfl, n⟩
        exact ⟨v, er, rfl, S1.out.nxt n⟩
      have UP : Aside (Calls Ybad.prog 7 #[.pointer (some ⟨M, 0, none⟩), .int .i64 (y : Int), .string (name (z2 % 3))] (wr.alloc (.cells #[.int .u8 (z0 : Int), .int .u8 (z1 : Int), .int .u8 (z2 : Int), .int .u8 (z3 : Int)] 26)) fun e w' => ∃ v er, e = .returned (.tuple #[v, er]) ∧ ∃ ow2 s2, SI w M qm tm ow2 s2 w') := by
        refine (upgradeX S1.out.rep S1.out.inv (S1.out.glob GG.out) hi3 y hy4).mono ?_
        rintro e w' ⟨v, er, rfl, n⟩
        exact ⟨v, er, rfl, S1.out.nxt n⟩
      have RE : Aside (Calls Ybad.prog 8 #[.pointer (some ⟨M, 0, none⟩), .int .i64 (y : Int), .string (name (z2 % 3))] (wr.alloc (.cells #[.int .u8 (z0 : Int), .int .u8 (z1 : Int), .int .u8 (z2 : Int), .int .u8 (z3 : Int)] 26)) fun e w' => ∃ v er, e = .returned (.tuple #[v, er]) ∧ ∃ ow2 s2, SI w M qm tm ow2 s2 w') := by
        refine (releaseX S1.out.rep S1.out.inv (S1.out.glob GG.out) hi3 y hy4).mono ?_
        rintro e w' ⟨v, er, rfl, n⟩
        exact ⟨v, er, rfl, S1.out.nxt n⟩
      have RAL : Aside (Calls Ybad.prog 9 #[.pointer (some ⟨M, 0, none⟩), .int .i64 (y : Int)] (wr.alloc (.cells #[.int .u8 (z0 : Int), .int .u8 (z1 : Int), .int .u8 (z2 : Int), .int .u8 (z3 : Int)] 26)) fun e w' => ∃ v er, e = .returned (.tuple #[v, er]) ∧ ∃ ow2 s2, SI w M qm tm ow2 s2 w') := by
        refine (releaseAll S1.out.rep S1.out.inv (S1.out.glob GG.out) y hy4).mono ?_
        rintro e w' ⟨v, er, rfl, n⟩
        exact ⟨v, er, rfl, S1.out.ra n⟩
      clear hy hm hi3 HC HF SS S1
      go_wp2_with fail
      refine (citem z2 g2 _).mono ?_
      rintro e w2 ⟨rfl, rfl⟩
      obtain ⟨nm, hnm⟩ : ∃ nm, name (z2 % 3) = nm := ⟨_, rfl⟩
      rw [hnm] at AC UP RE ⊢
      clear hnm
      rcases (by omega : z0 % 4 = 0 ∨ z0 % 4 = 1 ∨ z0 % 4 = 2 ∨ z0 % 4 = 3) with hq | hq | hq | hq
      · as_aux_lemma =>
          have hqI : (z0 : Int) % 4 = 0 := by omega
          clear hq UP RE RAL
          go_wp2_with fail
          refine AC.out.mono ?_
          rintro e w3 ⟨v, er, rfl, ow2, s2, hE⟩
          have E := hide hE
          clear hE AC
          go_wp2
          go_roundw
          case rel => exact ⟨k + 1, _, _, by omega, by go_num, E.out⟩
          case measure => simp [intOf]; omega
      · as_aux_lemma =>
          have hqI : (z0 : Int) % 4 = 1 := by omega
          clear hq AC RE RAL
          go_wp2_with fail
          refine UP.out.mono ?_
          rintro e w3 ⟨v, er, rfl, ow2, s2, hE⟩
          have E := hide hE
          clear hE UP
          go_wp2
          go_roundw
          case rel => exact ⟨k + 1, _, _, by omega, by go_num, E.out⟩
          case measure => simp [intOf]; omega
      · as_aux_lemma =>
          have hqI : (z0 : Int) % 4 = 2 := by omega
          clear hq AC UP RAL
          go_wp2_with fail
          refine RE.out.mono ?_
          rintro e w3 ⟨v, er, rfl, ow2, s2, hE⟩
          have E := hide hE
          clear hE RE
          go_wp2
          go_roundw
          case rel => exact ⟨k + 1, _, _, by omega, by go_num, E.out⟩
          case measure => simp [intOf]; omega
      · as_aux_lemma =>
          have hqI : (z0 : Int) % 4 = 3 := by omega
          clear hq AC UP RE
          go_wp2_with fail
          refine RAL.out.mono ?_
          rintro e w3 ⟨v, er, rfl, ow2, s2, hE⟩
          have E := hide hE
          clear hE RAL
          go_wp2
          go_roundw
          case rel => exact ⟨k + 1, _, _, by omega, by go_num, E.out⟩
          case measure => simp [intOf]; omega
    · clear HC HF
      obtain ⟨p, hp⟩ : ∃ p, p = x % 4 := ⟨_, rfl⟩
      have hpI : (x : Int) % 4 = (p : Int) := by omega
      have hp4 : p < 4 := by omega
      have hpL : (p : Int) < 4 := by omega
      clear hp
      have L1 : Aside (Calls Ybad.prog 10 #[.pointer (some ⟨M, 0, none⟩)] wr fun e w' => e = .returned (.agg (view s')) ∧ Below wr.heap.size wr w') := look SS.out.rep SS.out.inv
      obtain ⟨V, hV⟩ : ∃ V, view s' = V := ⟨_, rfl⟩
      have hVi : Aside ((Ybad.prog.info? 44).map (·.size) = some V.size) := by rw [← hV]; exact info44v
      have hVs : Aside (21 = V.size) := by rw [← hV]; exact (va_size _ _ _ _).symm
      have hV1 : Aside (V.all (·.oneCell') = true) := by rw [← hV]; exact view_one s'
      have VW := hide hV
      rw [hV] at L1
      clear hV
      go_wp2_with fail
      refine L1.out.mono ?_
      rintro e w2 ⟨rfl, hb⟩
      have B0 := hide hb
      clear hb L1
      go_wp2_with (refine wpList_store_row rfl 44 (.tmp 12) (.tmp 90) rfl w2.heap.size V rfl rfl 44 _ (heap_new w2 _) hVi.out hVs.out hV1.out ?_)
      obtain ⟨W1, hW1⟩ : ∃ W1, W1 = (w2.alloc (.cells zv 44)).setRow w2.heap.size V := ⟨_, rfl⟩
      have BW1 : Aside (Below wr.heap.size wr W1 ∧ W1.heap[w2.heap.size]? = some (.cells V 44 (0, 0)) ∧ wr.heap.size ≤ w2.heap.size) := by rw [hW1]; exact ⟨below_trans B0.out (box44 V).1, (box44 V).2, B0.out.size⟩
      unfold zv at hW1
      rw [← hW1]
      clear hW1 B0 hVi hVs hV1
      obtain ⟨X1, hX1⟩ : ∃ X1, w2.heap.size = X1 := ⟨_, rfl⟩
      rw [hX1] at BW1 ⊢
      clear hX1
      have T1 : Aside (Calls Ybad.prog 11 #[.pointer (some ⟨M, 0, none⟩)] W1 fun e w' => e = .returned (.agg #[.int .i64 (s'.lo : Int), .int .i64 (s'.wa : Int)]) ∧ Below W1.heap.size W1 w') := tally (SS.out.below BW1.out.1).rep
      refine T1.out.mono ?_
      rintro e w3 ⟨rfl, hb⟩
      have BW3 : Aside (Below wr.heap.size wr w3 ∧ w3.heap[X1]? = some (.cells V 44 (0, 0)) ∧ wr.heap.size ≤ X1) := ⟨below_trans BW1.out.1 hb, below_blk hb BW1.out.2.1, BW1.out.2.2⟩
      clear hb T1 BW1
      have S3 : Aside (SI w M qm tm ow' s' (w3.alloc (.cells #[.int .i64 (s'.lo : Int), .int .i64 (s'.wa : Int)] 47))) := SS.out.below (below_trans BW3.out.1 (below_alloc _ _))
      have RL : Aside (Calls Ybad.prog 9 #[.pointer (some ⟨M, 0, none⟩), .int .i64 (p : Int)] (w3.alloc (.cells #[.int .i64 (s'.lo : Int), .int .i64 (s'.wa : Int)] 47)) fun e w' => ∃ v er, e = .returned (.tuple #[v, er]) ∧ RA ow' (w3.alloc (.cells #[.int .i64 (s'.lo : Int), .int .i64 (s'.wa : Int)] 47)) M qm tm s' p (ev 0) v er w') := releaseAll S3.out.rep S3.out.inv (S3.out.glob GG.out) p hp4
      go_wp2_with fail
      refine RL.out.mono ?_
      rintro e w4 ⟨v, er, rfl, hra⟩
      have POST : Aside (∃ ow4 s4, SI w M qm tm ow4 s4 w4 ∧ w4.heap[X1]? = some (.cells V 44 (0, 0)) ∧ w4.heap[w3.heap.size]? = some (.cells #[.int .i64 (s'.lo : Int), .int .i64 (s'.wa : Int)] 47 (0, 0)) ∧
          ((∃ i, s'.wl p = some i ∧ v = .slice none 0 0 ∧ er = ev 0 ∧ s4 = s') ∨ (s'.wl p = none ∧ er = .nilIface ∧ ∃ gs, RAP s' s4 p gs ∧ GRow w4 v gs))) := by
        have h1 := below_blk (below_alloc w3 (.cells #[.int .i64 (s'.lo : Int), .int .i64 (s'.wa : Int)] 47)) BW3.out.2.1
        have h2 := heap_new w3 (.cells #[.int .i64 (s'.lo : Int), .int .i64 (s'.wa : Int)] 47)
        have o1 : ow' X1 = none := SS.out.rep.fresh _ BW3.out.2.2
        have o2 : ow' w3.heap.size = none := SS.out.rep.fresh _ BW3.out.1.size
        have key : ∀ ow2 s2, FrX ow' (w3.alloc (.cells #[.int .i64 (s'.lo : Int), .int .i64 (s'.wa : Int)] 47)) ow2 w4 M qm tm s' s2 → w4.heap[X1]? = some (.cells V 44 (0, 0)) ∧ w4.heap[w3.heap.size]? = some (.cells #[.int .i64 (s'.lo : Int), .int .i64 (s'.wa : Int)] 47 (0, 0)) := fun ow2 s2 f =>
          ⟨by rw [f.keep X1 (heap_lt h1) (.inl o1)]; exact h1, by rw [f.keep w3.heap.size (heap_lt h2) (.inl o2)]; exact h2⟩
        rcases hra with ⟨i, e1, e2, e3, f⟩ | ⟨e1, e2, ow4, s4, gs, f, r, I, rap, row, _⟩
        · have fx : FrX ow' _ ow' w4 M qm tm s' s' := FrX.of f (by simp) (fun _ _ hn => hn)
          exact ⟨ow', s', S3.out.fr f, (key _ _ fx).1, (key _ _ fx).2, .inl ⟨i, e1, e2, e3, rfl⟩⟩
        · exact ⟨ow4, s4, S3.out.frx f r I, (key _ _ f).1, (key _ _ f).2, .inr ⟨e1, e2, gs, rap, row⟩⟩
      clear hra RL S3 BW3
      obtain ⟨ow4, s4, k1, k2, k3, k4⟩ := POST.out
      have S4 := hide k1
      have F4 := hide (And.intro k2 k3)
      have C4 := hide k4
      clear k1 k2 k3 k4 POST
      obtain ⟨X2, hX2⟩ : ∃ X2, w3.heap.size = X2 := ⟨_, rfl⟩
      rw [hX2] at F4 ⊢
      clear hX2
      have L2 : Aside (Calls Ybad.prog 10 #[.pointer (some ⟨M, 0, none⟩)] w4 fun e w' => e = .returned (.agg (view s4)) ∧ Below w4.heap.size w4 w') := look S4.out.rep S4.out.inv
      obtain ⟨V4, hV4⟩ : ∃ V4, view s4 = V4 := ⟨_, rfl⟩
      have hV4i : Aside ((Ybad.prog.info? 44).map (·.size) = some V4.size) := by rw [← hV4]; exact info44v
      have hV4s : Aside (21 = V4.size) := by rw [← hV4]; exact (va_size _ _ _ _).symm
      have hV41 : Aside (V4.all (·.oneCell') = true) := by rw [← hV4]; exact view_one s4
      have VW4 := hide hV4
      rw [hV4] at L2
      clear hV4
      go_wp2_with fail
      refine L2.out.mono ?_
      rintro e w5 ⟨rfl, hb⟩
      have B5 := hide hb
      clear hb L2
      go_wp2_with (refine wpList_store_row rfl 44 (.tmp 16) (.tmp 100) rfl w5.heap.size V4 (by simp [Act.eval]) (by simp [Act.eval]) 44 _ (heap_new w5 _) hV4i.out hV4s.out hV41.out ?_)
      obtain ⟨W5, hW5⟩ : ∃ W5, W5 = (w5.alloc (.cells zv 44)).setRow w5.heap.size V4 := ⟨_, rfl⟩
      have BW5 : Aside (Below w4.heap.size w4 W5 ∧ W5.heap[w5.heap.size]? = some (.cells V4 44 (0, 0))) := by rw [hW5]; exact ⟨below_trans B5.out (box44 V4).1, (box44 V4).2⟩
      unfold zv at hW5
      rw [← hW5]
      clear hW5 B5 hV4i hV4s hV41
      obtain ⟨X3, hX3⟩ : ∃ X3, w5.heap.size = X3 := ⟨_, rfl⟩
      rw [hX3] at BW5 ⊢
      clear hX3
      have T2 : Aside (Calls Ybad.prog 11 #[.pointer (some ⟨M, 0, none⟩)] W5 fun e w' => e = .returned (.agg #[.int .i64 (s4.lo : Int), .int .i64 (s4.wa : Int)]) ∧ Below W5.heap.size W5 w') := tally (S4.out.below BW5.out.1).rep
      refine T2.out.mono ?_
      rintro e w6 ⟨rfl, hb⟩
      obtain ⟨W6, hW6⟩ : ∃ W6, W6 = w6.alloc (.cells #[.int .i64 (s4.lo : Int), .int .i64 (s4.wa : Int)] 47) := ⟨_, rfl⟩
      have BW6 : Aside (Below w4.heap.size w4 W6 ∧ W6.heap[X3]? = some (.cells V4 44 (0, 0)) ∧ W6.heap[w6.heap.size]? = some (.cells #[.int .i64 (s4.lo : Int), .int .i64 (s4.wa : Int)] 47 (0, 0))) := by
        rw [hW6]
        have b := below_alloc w6 (.cells #[.int .i64 (s4.lo : Int), .int .i64 (s4.wa : Int)] 47)
        exact ⟨below_trans (below_trans BW5.out.1 hb) b, below_blk b (below_blk hb BW5.out.2), heap_new w6 _⟩
      clear hb T2 BW5
      have F6 : Aside (W6.heap[X1]? = some (.cells V 44 (0, 0)) ∧ W6.heap[X2]? = some (.cells #[.int .i64 (s'.lo : Int), .int .i64 (s'.wa : Int)] 47 (0, 0)) ∧ W6.heap[X3]? = some (.cells V4 44 (0, 0)) ∧ W6.heap[w6.heap.size]? = some (.cells #[.int .i64 (s4.lo : Int), .int .i64 (s4.wa : Int)] 47 (0, 0))) :=
        ⟨below_blk BW6.out.1 F4.out.1, below_blk BW6.out.1 F4.out.2, BW6.out.2.1, BW6.out.2.2⟩
      have S6 : Aside (SI w M qm tm ow4 s4 W6) := S4.out.below BW6.out.1
      have C6 : Aside ((∃ i, s'.wl p = some i ∧ v = .slice none 0 0 ∧ er = ev 0 ∧ s4 = s') ∨ (s'.wl p = none ∧ er = .nilIface ∧ ∃ gs, RAP s' s4 p gs ∧ GRow W6 v gs)) := by
        rcases C4.out with h | ⟨e1, e2, gs, rap, row⟩
        · exact .inl h
        · exact .inr ⟨e1, e2, gs, rap, row.same (fun g e => BW6.out.1.block g (row.lt e))⟩
      clear C4 F4 S4 BW6
      have INV1 : Aside (Inv NoE NoE s') := SS.out.inv
      have INV4 : Aside (Inv NoE NoE s4) := S6.out.inv
      obtain ⟨X4, hX4⟩ : ∃ X4, w6.heap.size = X4 := ⟨_, rfl⟩
      go_upto_region 25 with fail
      rw [← hW6]
      rw [hX4] at F6
      clear hW6 hX4
      have c1w : W6.cell? ⟨X1, 12 + p, none⟩ = some (.bool (s'.wl p).isSome) := by rw [cell_of_row _ _ _ _ _ _ F6.out.1, ← VW.out]; exact view_waits s' hp4
      have lX1 := heap_lt F6.out.1
      have lX2 := heap_lt F6.out.2.1
      have lX3 := heap_lt F6.out.2.2.1
      have lX4 := heap_lt F6.out.2.2.2
      cases hwp : s'.wl p with
      | some i =>
        as_aux_lemma =>
          rw [hwp, Option.isSome_some] at c1w
          have CW := hide c1w
          rw [hwp] at C6
          obtain ⟨rfl, rfl, hs4⟩ : v = .slice none 0 0 ∧ er = ev 0 ∧ s4 = s' := by
            rcases C6.out with ⟨_, _, h⟩ | ⟨h, _⟩
            · exact h
            · cases h
          have gG := (S6.out.glob GG.out).c 0 (by omega)
          have lG := cell_lt gG
          have hB1 : Aside (W6.heap[X1]? = some (.cells (view s') 44 (0, 0))) := by rw [VW.out]; exact F6.out.1
          have hB3 : Aside (W6.heap[X3]? = some (.cells (view s') 44 (0, 0))) := by rw [← hs4, VW4.out]; exact F6.out.2.2.1
          have t20 : W6.cell? ⟨X2, 0, none⟩ = some (.int .i64 (s'.lo : Int)) := by rw [cell_of_row _ _ _ _ _ _ F6.out.2.1]; rfl
          have t21 : W6.cell? ⟨X2, 1, none⟩ = some (.int .i64 (s'.wa : Int)) := by rw [cell_of_row _ _ _ _ _ _ F6.out.2.1]; rfl
          have t40 : W6.cell? ⟨X4, 0, none⟩ = some (.int .i64 (s'.lo : Int)) := by rw [cell_of_row _ _ _ _ _ _ F6.out.2.2.2, hs4]; rfl
          have t41 : W6.cell? ⟨X4, 1, none⟩ = some (.int .i64 (s'.wa : Int)) := by rw [cell_of_row _ _ _ _ _ _ F6.out.2.2.2, hs4]; rfl
          have h35 := eq35 W6
          have hev6 := HEV.out W6
          have hgd6 := HGD.out W6
          have EB : Aside (Below w.heap.size w W6) := S6.out.bel
          clear hs4 C6 hwp c1w F6 S6 INV1 INV4 VW VW4
          have c1w : W6.cell? ⟨X1, 12 + p, none⟩ = some (.bool true) := CW.out
          go_wp2_with (first
            | refine wpList_load_row_g rfl 44 (.tmp 16) rfl X3 rfl 44 (view s') (0, 0) _ hB3.out Ybad.underlying44 rfl info44v ?_
            | refine wpList_load_row_g rfl 44 (.tmp 12) rfl X1 rfl 44 (view s') (0, 0) _ hB1.out Ybad.underlying44 rfl info44v ?_
            | refine wpList_binop_g rfl .eql 44 44 (.tmp 115) (.tmp 116) rfl (.agg (view s')) (.agg (view s')) (.bool true) rfl rfl (eqg s' W6 _ _) (eqv s' W6) ?_)
          go_ret
          exact ⟨rfl, EB.out⟩
      | none =>
        rw [hwp, Option.isSome_none] at c1w
        rw [hwp] at C6
        obtain ⟨rfl, gs, hrap, hrow⟩ : er = .nilIface ∧ ∃ gs, RAP s' s4 p gs ∧ GRow W6 v gs := by
          rcases C6.out with ⟨_, h, _⟩ | ⟨_, h⟩
          · cases h
          · exact h
        have RP := hide hrap
        have RW := hide hrow
        obtain ⟨va, vc, rfl⟩ := hrow.form
        obtain ⟨n, hn⟩ : ∃ n, gs.length = n := ⟨_, rfl⟩
        rw [hn] at RW ⊢
        have HN := hide hn
        clear hrap hrow hn C6 hwp
        have hn4 : n ≤ 12 := by
          have := RP.out.cnt
          have := INV1.out.wa12
          rw [HN.out] at *
          omega
        have VB : Aside (Vw W6 X1 s') := vw_of (by rw [VW.out]; exact F6.out.1)
        have VA : Aside (Vw W6 X3 s4) := vw_of (by rw [VW4.out]; exact F6.out.2.2.1)
        go_upto_region 30 with fail
        have ST2 : Aside (L2I W6 gs 0 (W6.alloc (.cells #[.bool false, .bool false, .bool false, .bool false] 41))) := ⟨below_alloc _ _, by rw [GA_zero]; exact heap_new W6 _⟩
        obtain ⟨X5, hX5⟩ : ∃ X5, W6.heap.size = X5 := ⟨_, rfl⟩
        rw [hX5]
        have HX5 := hide hX5
        clear hX5
        go_wp2
        go_loopw [128] (fun kv wr => ∃ k : Nat, k ≤ n ∧ kv = .int .i64 (k : Int) ∧ L2I W6 gs k wr) (fun kv _ => n - (intOf kv).toNat)
        case atStart => exact ⟨0, Nat.zero_le _, rfl, ST2.out⟩
        case round =>
          obtain ⟨k2, hk2, rfl, hL⟩ := hrel
          clear ST2
          have LL := hide hL
          clear hL
          by_cases hlt2 : k2 < n
          · as_aux_lemma =>
              obtain ⟨q, hq⟩ : ∃ q, gs[k2]? = some q := ⟨_, List.getElem?_eq_getElem (by rw [HN.out]; exact hlt2)⟩
              obtain ⟨g, hva, gl, hnvc, r0, r1⟩ := RW.out.cells hq
              subst hva
              obtain ⟨e1, e2, e3, e4, e5, e6⟩ := RP.out.each q (List.mem_of_getElem? hq)
              have cG := LL.out.cell e1
              rw [inG_new RP.out.nd hq] at cG
              have vb := VB.out.below LL.out.bel
              have va' := VA.out.below LL.out.bel
              have bw := vb.waits q.1 e1
              have bi := vb.item q.1 e1
              have ah := va'.held q.1 q.2 e1 e2
              have aw := va'.waits q.1 e1
              have l1 := vb.lt
              have l3 := va'.lt
              have wnq : wn s' q.1 = name q.2 := by unfold wn; rw [e4]
              rw [e4, Option.isSome_some] at bw
              rw [wnq] at bi
              rw [e5] at ah
              rw [e6, Option.isSome_none] at aw
              rw [← LL.out.bel.cell (p := ⟨g, k2 * 2, none⟩) gl] at r0
              rw [← LL.out.bel.cell (p := ⟨g, k2 * 2 + 1, none⟩) gl] at r1
              have gl2 := Nat.lt_of_lt_of_le gl LL.out.bel.size
              have zf : wr.frozen? ⟨W6.heap.size, q.1, none⟩ = false := frozen_of_row _ _ _ _ _ LL.out.blk
              have l5 := heap_lt LL.out.blk
              have GPUT := hide (GA_put hq e1)
              obtain ⟨z, j⟩ := q
              simp only at *
              have hX5 := HX5.out
              have n1 : X1 ≠ X5 := by omega
              have n3 : X3 ≠ X5 := by omega
              have ng : g ≠ X5 := by omega
              have CI : Aside (∀ W, Calls Ybad.prog 12 #[.string (name j)] W fun e w' => e = .returned (.int .i64 (j : Int)) ∧ w' = W) := fun W => cindex j e2 W
              obtain ⟨nm, hnm⟩ : ∃ nm, name j = nm := ⟨_, rfl⟩
              rw [hnm] at CI r1 bi
              rw [hX5] at cG zf l5
              have hz0 : ¬ (z : Int) < 0 := by omega
              have hz3 : ¬ (3 : Int) < (z : Int) := by omega
              have hzp : ((z : Int) == (p : Int)) = false := by rw [beq_eq_false_iff_ne]; omega
              have hzL : (z : Int) < 4 := by omega
              have hj0 : ¬ (j : Int) < 0 := by omega
              have hjL : (j : Int) < 3 := by omega
              have hnn : (nm == nm) = true := by rw [beq_toListBytes]; simp
              have hnn2 : (nm != nm) = false := by rw [bne, hnn]; rfl
              have NEXT : Aside (∀ wx, Below wr.heap.size (wr.setCell ⟨X5, z, none⟩ (.bool true)) wx → L2I W6 gs (k2 + 1) wx) := by
                intro wx bx
                have bs : Below W6.heap.size W6 (wr.setCell ⟨X5, z, none⟩ (.bool true)) := LL.out.bel.setCell (by simp; omega) _
                refine ⟨bs.trans (bx.mono (by have := LL.out.bel.size; omega)), ?_⟩
                rw [bx.block _ (by omega), ← GPUT.out, ← hX5]
                exact hset_same LL.out.blk _ _
              clear hnm hX5 hq e1 e2 e3 e4 e5 e6 vb va' wnq GPUT LL gl
              go_wp2_with fail
              refine (CI.out _).mono ?_
              rintro e w7 ⟨rfl, rfl⟩
              go_wp2
              go_region
              have E2 := hide (NEXT.out _ ((Below.refl _ _).alloc (by simp) (.cells #[.int .i64 (z : Int), .string nm] 50)).drew)
              clear NEXT
              go_wp2
              go_roundw
              case rel => exact ⟨k2 + 1, by omega, by go_num, E2.out⟩
              case measure => simp [intOf]; omega
          · have hk2n : k2 = n := by omega
            subst hk2n
            clear hlt2 hk2
            go_wp2
            go_loopw [22] (fun yv wr3 => ∃ y : Nat, y ≤ 4 ∧ yv = .int .i64 (y : Int) ∧ L2I W6 gs k2 wr3) (fun yv _ => 4 - (intOf yv).toNat)
            case atStart => exact ⟨0, by omega, rfl, LL.out⟩
            case round =>
              obtain ⟨y, hy4, rfl, hL⟩ := hrel
              clear LL
              have LL := hide hL
              clear hL
              by_cases hyl : y < 4
              · as_aux_lemma =>
                  have hyL : (y : Int) < 4 := by omega
                  have vb := hide (VB.out.below LL.out.bel)
                  have va' := hide (VA.out.below LL.out.bel)
                  have l1 := vb.out.lt
                  have l3 := va'.out.lt
                  go_wp2
                  go_loop [23] (fun iv => ∃ i : Nat, i ≤ 3 ∧ iv = .int .i64 (i : Int)) (fun iv => 3 - (intOf iv).toNat)
                  case atStart => exact ⟨0, by omega, rfl⟩
                  case round =>
                    obtain ⟨i, hi3, rfl⟩ := hrel
                    by_cases hil : i < 3
                    · have hiL : (i : Int) < 3 := by omega
                      have ah := va'.out.held y i hyl hil
                      have bh := vb.out.held y i hyl hil
                      by_cases hyp : y = p
                      · have hypb : ((y : Int) == (p : Int)) = true := by rw [beq_iff_eq]; omega
                        rw [hyp, RP.out.gone i hil, ← hyp] at ah
                        clear hyp
                        go_wp2
                        go_round
                        case rel => exact ⟨i + 1, by omega, by go_num⟩
                        case measure => simp [intOf]; omega
                      · have hypb : ((y : Int) == (p : Int)) = false := by rw [beq_eq_false_iff_ne]; omega
                        cases hb : has (s'.gr i) y with
                        | true =>
                          rw [hb] at bh
                          rw [RP.out.stay i hil y hyl hyp hb] at ah
                          go_wp2
                          go_round
                          case rel => exact ⟨i + 1, by omega, by go_num⟩
                          case measure => simp [intOf]; omega
                        | false =>
                          rw [hb] at bh
                          go_wp2
                          go_round
                          case rel => exact ⟨i + 1, by omega, by go_num⟩
                          case measure => simp [intOf]; omega
                    · have hiL : ¬ (i : Int) < 3 := by omega
                      have cG := LL.out.cell hyl
                      rw [HX5.out] at cG
                      have l5 := heap_lt LL.out.blk
                      rw [HX5.out] at l5
                      have aw := va'.out.waits y hyl
                      have bw := vb.out.waits y hyl
                      have ai := va'.out.item y hyl
                      have bi := vb.out.item y hyl
                      have E3 : Aside (L2I W6 gs k2 wr.drew) := ⟨LL.out.bel.drew, LL.out.blk⟩
                      cases hg : inG gs k2 y with
                      | true =>
                        rw [hg] at cG
                        go_wp2
                        go_region
                        all_goals
                          go_wp2
                          go_roundw
                          case rel => exact ⟨y + 1, by omega, by go_num, E3.out⟩
                          case measure => simp [intOf]; omega
                      | false =>
                        rw [hg] at cG
                        have hny : y ∉ gs.map Prod.fst := by
                          intro hm
                          have : inG gs k2 y = true := by
                            unfold inG
                            rw [List.take_of_length_le (by rw [HN.out]; exact Nat.le_refl _)]
                            exact decide_eq_true hm
                          rw [hg] at this
                          cases this
                        have hwe := RP.out.rest y hyl hny
                        have hwn : wn s4 y = wn s' y := by unfold wn; rw [hwe]
                        rw [hwe] at aw
                        rw [hwn] at ai
                        obtain ⟨nm, hnm⟩ : ∃ nm, wn s' y = nm := ⟨_, rfl⟩
                        obtain ⟨bb, hbb⟩ : ∃ bb, (s'.wl y).isSome = bb := ⟨_, rfl⟩
                        rw [hnm] at ai bi
                        rw [hbb] at aw bw
                        have hnn : (nm == nm) = true := by rw [beq_toListBytes]; simp
                        have hnn2 : (nm != nm) = false := by rw [bne, hnn]; rfl
                        have hbn : (bb != bb) = false := by cases bb <;> rfl
                        have hbn2 : (bb == bb) = true := by cases bb <;> rfl
                        clear hnm hbb hny hwe hwn
                        go_wp2
                        go_region
                        all_goals
                          go_wp2
                          go_roundw
                          case rel => exact ⟨y + 1, by omega, by go_num, E3.out⟩
                          case measure => simp [intOf]; omega
              · have hyL : ¬ (y : Int) < 4 := by omega
                have LB : Aside (Below W6.heap.size W6 wr) := LL.out.bel
                clear LL hyl hy4
                go_wp2
                go_loopw [24] (fun iv wr5 => ∃ i : Nat, i ≤ 3 ∧ iv = .int .i64 (i : Int) ∧ Below W6.heap.size W6 wr5) (fun iv _ => 3 - (intOf iv).toNat)
                case atStart => exact ⟨0, by omega, rfl, LB.out⟩
                case round =>
                  obtain ⟨i, hi3, rfl, hBx⟩ := hrel
                  clear LB
                  have LB := hide hBx
                  clear hBx
                  by_cases hil : i < 3
                  · as_aux_lemma =>
                      have hiL : (i : Int) < 3 := by omega
                      have bh := (VB.out.below LB.out).held p i hp4 hil
                      have l1 := (VB.out.below LB.out).lt
                      have l3 := (VA.out.below LB.out).lt
                      cases hb : has (s'.gr i) p with
                      | false =>
                        rw [hb] at bh
                        go_wp2
                        go_roundw
                        case rel => exact ⟨i + 1, by omega, by go_num, LB.out⟩
                        case measure => simp [intOf]; omega
                      | true =>
                        rw [hb] at bh
                        have AN : Aside (Calls Ybad.prog 13 #[.agg (view s4), .int .i64 (i : Int)] wr fun e w' => e = .returned (.bool (any4b (s4.gr i))) ∧ Below wr.heap.size wr w') := anyholder hil (fun y hy => view_held s4 hy hil) wr
                        have hB5 : Aside (wr.heap[X3]? = some (.cells (view s4) 44 (0, 0))) := by rw [VW4.out]; exact below_blk LB.out F6.out.2.2.1
                        go_wp2_with (refine wpList_load_row_g rfl 44 (.tmp 16) rfl X3 rfl 44 (view s4) (0, 0) _ hB5.out Ybad.underlying44 rfl info44v ?_)
                        refine AN.out.mono ?_
                        rintro e w8 ⟨rfl, hb8⟩
                        have LB8 := hide (below_trans LB.out hb8)
                        clear hb8 AN hB5
                        cases ha : any4b (s4.gr i) with
                        | true =>
                          go_wp2
                          go_roundw
                          case rel => exact ⟨i + 1, by omega, by go_num, LB8.out⟩
                          case measure => simp [intOf]; omega
                        | false =>
                          have NOW : Aside (∀ y, y < 4 → s4.wl y ≠ some i) := no_wait INV4.out hil ha
                          have va8 := hide (VA.out.below LB8.out)
                          have l38 := va8.out.lt
                          clear ha
                          rcases (by omega : i = 0 ∨ i = 1 ∨ i = 2) with rfl | rfl | rfl
                          · go_wp2_with fail
                            refine (citem 0 (by omega) w8).mono ?_
                            rintro e w9 ⟨rfl, rfl⟩
                            obtain ⟨nm, hnm⟩ : ∃ nm, name (0 % 3) = nm := ⟨_, rfl⟩
                            rw [hnm]
                            have NMI : Aside (name 0 = nm) := hnm
                            clear hnm
                            go_wp2
                            go_loop [26] (fun yv => ∃ y : Nat, y ≤ 4 ∧ yv = .int .i64 (y : Int)) (fun yv => 4 - (intOf yv).toNat)
                            case atStart => exact ⟨0, by omega, rfl⟩
                            case round =>
                              obtain ⟨y6, hy6, rfl⟩ := hrel
                              by_cases hy6l : y6 < 4
                              · have hy6L : (y6 : Int) < 4 := by omega
                                have aw := va8.out.waits y6 hy6l
                                have ai := va8.out.item y6 hy6l
                                cases hwl6 : s4.wl y6 with
                                | none =>
                                  rw [hwl6, Option.isSome_none] at aw
                                  clear hwl6
                                  go_wp2
                                  go_round
                                  case rel => exact ⟨y6 + 1, by omega, by go_num⟩
                                  case measure => simp [intOf]; omega
                                | some j6 =>
                                  have hj3 := INV4.out.wl3 y6 hy6l j6 hwl6
                                  have hji : j6 ≠ 0 := fun e => NOW.out y6 hy6l (by rw [hwl6, e])
                                  have wnj : wn s4 y6 = name j6 := by unfold wn; rw [hwl6]
                                  have hnb := name_ne hj3 (by omega) hji
                                  rw [hwl6, Option.isSome_some] at aw
                                  rw [wnj] at ai
                                  rw [NMI.out] at hnb
                                  obtain ⟨nj, hnj⟩ : ∃ nj, name j6 = nj := ⟨_, rfl⟩
                                  rw [hnj] at ai hnb
                                  have hnb2 : (nj.toList == nm.toList) = false := by rw [← beq_toListBytes]; exact hnb
                                  have hnb3 : ¬ nj = nm := fun e => by rw [e, beq_toListBytes] at hnb; simp at hnb
                                  have hnb4 : ¬ nj.toList = nm.toList := fun e => by rw [e] at hnb2; simp at hnb2
                                  clear hwl6 wnj hnj hji hj3
                                  go_wp2
                                  go_round
                                  case rel => exact ⟨y6 + 1, by omega, by go_num⟩
                                  case measure => simp [intOf]; omega
                              · have hy6L : ¬ (y6 : Int) < 4 := by omega
                                go_wp2
                                go_roundw
                                case rel => exact ⟨1, by omega, rfl, LB8.out⟩
                                case measure => simp [intOf]
                          · go_wp2_with fail
                            refine (citem 1 (by omega) w8).mono ?_
                            rintro e w9 ⟨rfl, rfl⟩
                            obtain ⟨nm, hnm⟩ : ∃ nm, name (1 % 3) = nm := ⟨_, rfl⟩
                            rw [hnm]
                            have NMI : Aside (name 1 = nm) := hnm
                            clear hnm
                            go_wp2
                            go_loop [26] (fun yv => ∃ y : Nat, y ≤ 4 ∧ yv = .int .i64 (y : Int)) (fun yv => 4 - (intOf yv).toNat)
                            case atStart => exact ⟨0, by omega, rfl⟩
                            case round =>
                              obtain ⟨y6, hy6, rfl⟩ := hrel
                              by_cases hy6l : y6 < 4
                              · have hy6L : (y6 : Int) < 4 := by omega
                                have aw := va8.out.waits y6 hy6l
                                have ai := va8.out.item y6 hy6l
                                cases hwl6 : s4.wl y6 with
                                | none =>
                                  rw [hwl6, Option.isSome_none] at aw
                                  clear hwl6
                                  go_wp2
                                  go_round
                                  case rel => exact ⟨y6 + 1, by omega, by go_num⟩
                                  case measure => simp [intOf]; omega
                                | some j6 =>
                                  have hj3 := INV4.out.wl3 y6 hy6l j6 hwl6
                                  have hji : j6 ≠ 1 := fun e => NOW.out y6 hy6l (by rw [hwl6, e])
                                  have wnj : wn s4 y6 = name j6 := by unfold wn; rw [hwl6]
                                  have hnb := name_ne hj3 (by omega) hji
                                  rw [hwl6, Option.isSome_some] at aw
                                  rw [wnj] at ai
                                  rw [NMI.out] at hnb
                                  obtain ⟨nj, hnj⟩ : ∃ nj, name j6 = nj := ⟨_, rfl⟩
                                  rw [hnj] at ai hnb
                                  have hnb2 : (nj.toList == nm.toList) = false := by rw [← beq_toListBytes]; exact hnb
                                  have hnb3 : ¬ nj = nm := fun e => by rw [e, beq_toListBytes] at hnb; simp at hnb
                                  have hnb4 : ¬ nj.toList = nm.toList := fun e => by rw [e] at hnb2; simp at hnb2
                                  clear hwl6 wnj hnj hji hj3
                                  go_wp2
                                  go_round
                                  case rel => exact ⟨y6 + 1, by omega, by go_num⟩
                                  case measure => simp [intOf]; omega
                              · have hy6L : ¬ (y6 : Int) < 4 := by omega
                                go_wp2
                                go_roundw
                                case rel => exact ⟨2, by omega, rfl, LB8.out⟩
                                case measure => simp [intOf]
                          · go_wp2_with fail
                            refine (citem 2 (by omega) w8).mono ?_
                            rintro e w9 ⟨rfl, rfl⟩
                            obtain ⟨nm, hnm⟩ : ∃ nm, name (2 % 3) = nm := ⟨_, rfl⟩
                            rw [hnm]
                            have NMI : Aside (name 2 = nm) := hnm
                            clear hnm
                            go_wp2
                            go_loop [26] (fun yv => ∃ y : Nat, y ≤ 4 ∧ yv = .int .i64 (y : Int)) (fun yv => 4 - (intOf yv).toNat)
                            case atStart => exact ⟨0, by omega, rfl⟩
                            case round =>
                              obtain ⟨y6, hy6, rfl⟩ := hrel
                              by_cases hy6l : y6 < 4
                              · have hy6L : (y6 : Int) < 4 := by omega
                                have aw := va8.out.waits y6 hy6l
                                have ai := va8.out.item y6 hy6l
                                cases hwl6 : s4.wl y6 with
                                | none =>
                                  rw [hwl6, Option.isSome_none] at aw
                                  clear hwl6
                                  go_wp2
                                  go_round
                                  case rel => exact ⟨y6 + 1, by omega, by go_num⟩
                                  case measure => simp [intOf]; omega
                                | some j6 =>
                                  have hj3 := INV4.out.wl3 y6 hy6l j6 hwl6
                                  have hji : j6 ≠ 2 := fun e => NOW.out y6 hy6l (by rw [hwl6, e])
                                  have wnj : wn s4 y6 = name j6 := by unfold wn; rw [hwl6]
                                  have hnb := name_ne hj3 (by omega) hji
                                  rw [hwl6, Option.isSome_some] at aw
                                  rw [wnj] at ai
                                  rw [NMI.out] at hnb
                                  obtain ⟨nj, hnj⟩ : ∃ nj, name j6 = nj := ⟨_, rfl⟩
                                  rw [hnj] at ai hnb
                                  have hnb2 : (nj.toList == nm.toList) = false := by rw [← beq_toListBytes]; exact hnb
                                  have hnb3 : ¬ nj = nm := fun e => by rw [e, beq_toListBytes] at hnb; simp at hnb
                                  have hnb4 : ¬ nj.toList = nm.toList := fun e => by rw [e] at hnb2; simp at hnb2
                                  clear hwl6 wnj hnj hji hj3
                                  go_wp2
                                  go_round
                                  case rel => exact ⟨y6 + 1, by omega, by go_num⟩
                                  case measure => simp [intOf]; omega
                              · have hy6L : ¬ (y6 : Int) < 4 := by omega
                                go_wp2
                                go_roundw
                                case rel => exact ⟨3, by omega, rfl, LB8.out⟩
                                case measure => simp [intOf]
                  · as_aux_lemma =>
                      have hiL : ¬ (i : Int) < 3 := by omega
                      have hwaI : (s4.wa : Int) = (s'.wa : Int) - (k2 : Int) := by
                        have := RP.out.cnt
                        rw [HN.out] at this
                        omega
                      have hwa12 := INV1.out.wa12
                      have hlo3 := INV1.out.lo3
                      have hlo34 := INV4.out.lo3
                      obtain ⟨wa, hwa⟩ : ∃ wa, s'.wa = wa := ⟨_, rfl⟩
                      obtain ⟨wa4, hwa4⟩ : ∃ wa4, s4.wa = wa4 := ⟨_, rfl⟩
                      obtain ⟨lo, hlo⟩ : ∃ lo, s'.lo = lo := ⟨_, rfl⟩
                      obtain ⟨lo4, hlo4⟩ : ∃ lo4, s4.lo = lo4 := ⟨_, rfl⟩
                      have t20 : wr.cell? ⟨X2, 0, none⟩ = some (.int .i64 (lo : Int)) := by rw [cell_of_row _ _ _ _ _ _ (below_blk LB.out F6.out.2.1), hlo]; rfl
                      have t21 : wr.cell? ⟨X2, 1, none⟩ = some (.int .i64 (wa : Int)) := by rw [cell_of_row _ _ _ _ _ _ (below_blk LB.out F6.out.2.1), hwa]; rfl
                      have t40 : wr.cell? ⟨X4, 0, none⟩ = some (.int .i64 (lo4 : Int)) := by rw [cell_of_row _ _ _ _ _ _ (below_blk LB.out F6.out.2.2.2), hlo4]; rfl
                      have t41 : wr.cell? ⟨X4, 1, none⟩ = some (.int .i64 (wa4 : Int)) := by rw [cell_of_row _ _ _ _ _ _ (below_blk LB.out F6.out.2.2.2), hwa4]; rfl
                      have t10 : wr.cell? ⟨X1, 20, none⟩ = some (.int .i64 (lo : Int)) := by rw [(VB.out.below LB.out).lock, hlo]
                      have t30 : wr.cell? ⟨X3, 20, none⟩ = some (.int .i64 (lo4 : Int)) := by rw [(VA.out.below LB.out).lock, hlo4]
                      have l1 := (VB.out.below LB.out).lt
                      have l3 := (VA.out.below LB.out).lt
                      have l2 := heap_lt (below_blk LB.out F6.out.2.1)
                      have l4 := heap_lt (below_blk LB.out F6.out.2.2.2)
                      rw [hwa, hwa4] at hwaI
                      rw [hwa] at hwa12
                      rw [hlo] at hlo3
                      rw [hlo4] at hlo34
                      have hneq : ((wa4 : Int) == (wa : Int) - (k2 : Int)) = true := by rw [beq_iff_eq]; exact hwaI
                      have hneq2 : ((wa4 : Int) != (wa : Int) - (k2 : Int)) = false := by rw [bne, hneq]; rfl
                      have EB : Aside (Below w.heap.size w wr) := S6.out.bel.trans (LB.out.mono S6.out.bel.size)
                      clear hwa hwa4 hlo hlo4 hwaI
                      go_wp2
                      go_ret
                      exact ⟨rfl, EB.out⟩

end Go.Proofs.YbulkbcpiDoor.rel
