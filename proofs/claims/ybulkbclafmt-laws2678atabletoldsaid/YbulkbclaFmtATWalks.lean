/-
  Seat b2678aF: LawS2678ATable: closed facts on fmt's stop, and the walks.
-/
import Derived.Test.YbulkbclaFmtCards
import Derived.WalkKit
import Derived.Below
import Derived.Outline
import Derived.Stop.FmtLaws
import Derived.Laws.Externs
import Derived.WideLaws
import Derived.WalkSpells
namespace Go.Proofs.YbulkbclaFmt.lawATable
open Go.RowKit Go.Extern.Stop Go.Stop Go.Extern

theorem call18 (args : Array Value) (w : World) : (callFunc 18 args).run Ybaf.prog w = ((FmtStop.errorf #[9, 60] #[36] args).run Ybaf.prog w).andThen fun v w' => .ok (.value v) w' :=
  run_callFunc_extern Ybaf.func18 (by kernel_rfl) (by kernel_rfl) (by kernel_rfl) (by kernel_rfl) args w
theorem fguard (name : String) (w : World) : (FmtStop.guard name).run Ybaf.prog w = .ok () w := by kernel_rfl
theorem fmt0 : FmtStop.printed? ⟨#[80, 68, 85, 32, 115, 101, 115, 115, 105, 111, 110, 32, 116, 121, 112, 101, 32, 37, 100, 32, 104, 97, 115, 32, 110, 111, 32, 80, 68, 85, 32, 97, 100, 100, 114, 101, 115, 115]⟩ 1 = some [(0, 100, false)] := by kernel_rfl
theorem fmt0r (w : World) : (FmtDoors.printed ⟨#[80, 68, 85, 32, 115, 101, 115, 115, 105, 111, 110, 32, 116, 121, 112, 101, 32, 37, 100, 32, 104, 97, 115, 32, 110, 111, 32, 80, 68, 85, 32, 97, 100, 100, 114, 101, 115, 115]⟩ 1).run Ybaf.prog w = .ok [(0, 100, false)] w := by kernel_rfl
def shape5 : List UInt8 := [6, 5, 0, 0, 0, 0, 0, 0, 0, 117, 105, 110, 116, 56]
theorem op5_100 (name : String) (x : Int) (w : World) : (FmtStop.operand name false 100 false (.iface 5 (.int .u8 x))).run Ybaf.prog w = .ok (shape5, Go.Extern.Stop.digits 8 (x % 2 ^ 64).toNat) w := by kernel_rfl
theorem op5_100w (name : String) (x : Int) (w : World) : (FmtStop.operand name true 100 false (.iface 5 (.int .u8 x))).run Ybaf.prog w = .ok (shape5, Go.Extern.Stop.digits 8 (x % 2 ^ 64).toNat) w := by kernel_rfl
theorem ptr70 (w : World) : (FmtStop.ptrTo "errors.errorString").run Ybaf.prog w = .ok 70 w := by kernel_rfl
theorem elem70 (w : World) : (elemOf 70).run Ybaf.prog w = .ok 72 w := by kernel_rfl
theorem isError70 (w : World) : (FmtDoors.textMethod 70 "Error").run Ybaf.prog w = .ok true w := by kernel_rfl
attribute [local go_sem] call18 fguard fmt0 fmt0r op5_100 op5_100w ptr70 elem70 isError70

/-- What the table says: the three sizes, and whether the type has addresses. -/
def expId (t : Int) : Int := if t = 2 ∨ t = 3 then 8 else 0
def expV4 (t : Int) : Int := if t = 1 ∨ t = 3 then 4 else 0

def expLink (ll : Bool) : Int := if ll then 16 else 0

theorem expect_ok (t : Int) (ll : Bool) (w : World) (h : t = 1 ∨ t = 2 ∨ t = 3) :
    Calls Ybaf.prog 9 #[.int .u8 t, .bool ll] w fun e w' => e = .returned (.tuple #[.int .i64 (expId t), .int .i64 (expV4 t), .int .i64 (expLink ll), .bool true]) ∧ w' = w := by
  rcases h with rfl | rfl | rfl <;> cases ll
  all_goals
    go_enter Ybaf.func9, Ybaf.ntmps9
    go_wp2
    exact bodyPost_ret (by simp [results, Ybaf.results9, expId, expV4, expLink, go_sem]) rfl ⟨rfl, rfl⟩

theorem expect_no (t : Int) (ll : Bool) (w : World) (h1 : ¬ t = 1) (h2 : ¬ t = 2) (h3 : ¬ t = 3) :
    Calls Ybaf.prog 9 #[.int .u8 t, .bool ll] w fun e w' => e = .returned (.tuple #[.int .i64 0, .int .i64 0, .int .i64 0, .bool false]) ∧ w' = w := by
  go_enter Ybaf.func9, Ybaf.ntmps9
  go_wp2
  exact bodyPost_ret (by simp [results, Ybaf.results9, go_sem]) rfl ⟨rfl, rfl⟩

theorem sizes_ok (t : Int) (ll : Bool) (b : Nat) (w : World) (h : t = 1 ∨ t = 2 ∨ t = 3) (c0 : w.cell? ⟨b, 0, none⟩ = some (.int .u8 t)) (c1 : w.cell? ⟨b, 1, none⟩ = some (.bool ll)) :
    Calls Ybaf.prog 8 #[.pointer (some ⟨b, 0, none⟩)] w fun e w' => e = .returned (.tuple #[.int .i64 (expId t), .int .i64 (expV4 t), .int .i64 (expLink ll), .nilIface]) ∧ w' = w := by
  rcases h with rfl | rfl | rfl <;> cases ll
  all_goals
    go_enter Ybaf.func8, Ybaf.ntmps8
    go_wp2
    exact bodyPost_ret (by simp [results, Ybaf.results8, expId, expV4, expLink, go_sem]) rfl ⟨rfl, rfl⟩

theorem sizes_no (F : Interp) (t : Int) (b : Nat) (w : World) (hF : F.answers w.tape) (h1 : ¬ t = 1) (h2 : ¬ t = 2) (h3 : ¬ t = 3) (c0 : w.cell? ⟨b, 0, none⟩ = some (.int .u8 t)) :
    Calls Ybaf.prog 8 #[.pointer (some ⟨b, 0, none⟩)] w fun e w' => e = .returned (.tuple #[.int .i64 0, .int .i64 0, .int .i64 0, .iface 70 (.pointer (some ⟨w.heap.size + 1, 0, none⟩))]) ∧ Below w.heap.size w w' := by
  have hF' := answers_open hF
  go_enter Ybaf.func8, Ybaf.ntmps8
  go_wp2
  refine bodyPost_ret (by simp [results, Ybaf.results8, go_sem]) rfl ⟨rfl, ?_⟩
  exact (((Below.refl _ _).alloc (Nat.le_refl _) _).alloc (by simp) _).drew

end Go.Proofs.YbulkbclaFmt.lawATable
