/-
  No cell of these rows narrows 'for every input' (looked for: loops, veiled, ifaces, maps, wideKeys, modest, calm, conditions, laid).
  DERIVED. THE GIVEN ROWS OF THIS SEAT. 3 by the template 'for every input the law returns true; each argument reads behind the call as it read before'; 0 by the template 'total and deterministic' (their statements: YbulkbcrmTotals.lean).
  GIVEN WITH THE SEED: the statements are not yours to turn. If you find one false, say at which input.
  Laid BY PROGRAM, IN A SANDBOX (cutbox-rows.mjs): the forced cells as the released guide's own fill.sh prints them over the translation b7359471b3188766… (all of the seat's roots in one cut). By AI agents, Wed Nov 11 2026. No macro, syntax, notation, axiom, sorry.
-/
import Derived.Test.YbulkbcrmChecked
import GoSem.Claim
import GoSem.ClaimJoined
import GoSem.ClaimMapViews
import Derived.JoinedTies
import Derived.KernelRfl
namespace Go.Proofs.Ybulkbcrm
/- THE CELL 'sum', in the pinned program and in every row, IS THE sha256 OF THE DUMP (.gsa) THAT YbulkbcrmProg.lean LOADS. Nothing in Lean hashes anything: it is a label: what it is worth is what the hold of that sum in a sandbox is worth. -/
noncomputable def Yba.pinned : Pinned := { name := "ybulkbcrm", sum := "b7359471b3188766dbc85a0dff493677634adf64578cc4cfe22bd1c9b552329c", checked := Yba.checked }
namespace Rows
def none {H : Type} : Left H := { results := [], args := [] }

/-- 'sim.LawS2690AScript': WHATEVER THE INPUT: true; the input reads as it did. -/
def lawS2690AScriptSpec : ChangeSpec := { name := "lawS2690AScript", fn := fun _ => fun
  | [d] => { results := [.lit (.bool true)], args := [d] }
  | _ => none }
def lawS2690AScriptRow : OpenClaim := { program := "ybulkbcrm", sum := "b7359471b3188766dbc85a0dff493677634adf64578cc4cfe22bd1c9b552329c", func := "example.com/quorate/quorate/internal/sim.LawS2690AScript", spec := "lawS2690AScript", apart := false }
def LawS2690AScriptSaid : Prop := lawS2690AScriptRow.holds Yba.pinned (OpenSpec.ofChange lawS2690AScriptSpec)

/-- ITS FALSE NEIGHBOUR: 'it returns false'. Refute it at one input. -/
def lawS2690AScriptWrong : ChangeSpec := { name := "lawS2690AScript", fn := fun _ => fun
  | [d] => { results := [.lit (.bool false)], args := [d] }
  | _ => none }
def LawS2690AScriptWrongFalsely : Prop := lawS2690AScriptRow.holds Yba.pinned (OpenSpec.ofChange lawS2690AScriptWrong)

/-- 'sim.LawS2690AGrow': WHATEVER THE INPUT: true; the input reads as it did. -/
def lawS2690AGrowSpec : ChangeSpec := { name := "lawS2690AGrow", fn := fun _ => fun
  | [d1, d2, d3] => { results := [.lit (.bool true)], args := [d1, d2, d3] }
  | _ => none }
def lawS2690AGrowRow : OpenClaim := { program := "ybulkbcrm", sum := "b7359471b3188766dbc85a0dff493677634adf64578cc4cfe22bd1c9b552329c", func := "example.com/quorate/quorate/internal/sim.LawS2690AGrow", spec := "lawS2690AGrow", apart := false }
def LawS2690AGrowSaid : Prop := lawS2690AGrowRow.holds Yba.pinned (OpenSpec.ofChange lawS2690AGrowSpec)

/-- ITS FALSE NEIGHBOUR: 'it returns false'. Refute it at one input. -/
def lawS2690AGrowWrong : ChangeSpec := { name := "lawS2690AGrow", fn := fun _ => fun
  | [d1, d2, d3] => { results := [.lit (.bool false)], args := [d1, d2, d3] }
  | _ => none }
def LawS2690AGrowWrongFalsely : Prop := lawS2690AGrowRow.holds Yba.pinned (OpenSpec.ofChange lawS2690AGrowWrong)

/-- 'paxos.LawS2690CModel': WHATEVER THE INPUT: true; the input reads as it did. -/
def lawS2690CModelSpec : ChangeSpec := { name := "lawS2690CModel", fn := fun _ => fun
  | [d] => { results := [.lit (.bool true)], args := [d] }
  | _ => none }
def lawS2690CModelRow : OpenClaim := { program := "ybulkbcrm", sum := "b7359471b3188766dbc85a0dff493677634adf64578cc4cfe22bd1c9b552329c", func := "example.com/quorate/quorate/internal/paxos.LawS2690CModel", spec := "lawS2690CModel", unfollowed := true, recurses := true, apart := false }
def LawS2690CModelSaid : Prop := lawS2690CModelRow.holds Yba.pinned (OpenSpec.ofChange lawS2690CModelSpec)

/-- ITS FALSE NEIGHBOUR: 'it returns false'. Refute it at one input. -/
def lawS2690CModelWrong : ChangeSpec := { name := "lawS2690CModel", fn := fun _ => fun
  | [d] => { results := [.lit (.bool false)], args := [d] }
  | _ => none }
def LawS2690CModelWrongFalsely : Prop := lawS2690CModelRow.holds Yba.pinned (OpenSpec.ofChange lawS2690CModelWrong)

end Rows
end Go.Proofs.Ybulkbcrm
