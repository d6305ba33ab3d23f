/-
  NARROWER THAN 'FOR EVERY INPUT', by the rows' own cells (each row's printed sentence says how): LawS2680BOthers: laid · LawS2680BNewAgrees: laid.
  DERIVED. THE GIVEN ROWS OF THIS SEAT. 3 by the template 'for every input the law returns true; each argument reads behind the call as it read before'; 0 by the template 'total and deterministic' (their statements: YbulkbcmcDoorTotals.lean).
  GIVEN WITH THE SEED: the statements are not yours to turn. If you find one false, say at which input.
  Laid BY PROGRAM, IN A SANDBOX (cutbox-rows.mjs): the forced cells as the released guide's own fill.sh prints them over the translation 052c8c95af6afad0… (all of the seat's roots in one cut). By AI agents, Wed Nov 11 2026. No macro, syntax, notation, axiom, sorry.
-/
import Derived.Test.YbulkbcmcDoorChecked
import GoSem.Claim
import GoSem.ClaimJoined
import GoSem.ClaimMapViews
import Derived.JoinedTies
import Derived.KernelRfl
namespace Go.Proofs.YbulkbcmcDoor
/- THE CELL 'sum', in the pinned program and in every row, IS THE sha256 OF THE DUMP (.gsa) THAT YbulkbcmcDoorProg.lean LOADS. Nothing in Lean hashes anything: it is a label: what it is worth is what the hold of that sum in a sandbox is worth. -/
noncomputable def Ybad.pinned : Pinned := { name := "ybulkbcmcdoor", sum := "052c8c95af6afad0f972adb932b98dada5515e80cf991060cec72017f545a805", checked := Ybad.checked }
namespace Rows
def none {H : Type} : Left H := { results := [], args := [] }

/- WHAT THE LISTED PACKAGE-LEVEL VARIABLES READ AS WHEN THE CALL BEGINS. Each datum BY PROGRAM (the guide's laid-datum.mjs) off the statement by which the dump's own 'gosem.cut.vars' lays the variable. In a bare row this is a premise. The card (YbulkbcmcDoorCards.lean) ties it to the program's text. -/
def laid_example_com_cyclebreak_cyclebreak_conflicts {H : Type} : DataW H := .agg [.lit (.int .u32 416), .lit (.int .u32 440), .lit (.int .u32 444), .lit (.int .u32 438), .lit (.int .u32 446), .lit (.int .u32 447), .lit (.int .u32 128), .lit (.int .u32 511), .lit (.int .u32 191)]

/-- 'cyclebreak.LawS2680BOthers': WHATEVER THE INPUT: true; the input reads as it did. -/
def lawS2680BOthersSpec : ChangeSpec := { name := "lawS2680BOthers", vars := ["example.com/cyclebreak/cyclebreak.conflicts"], fn := fun _ => fun
  | [d1, d2, d3, d4, g1] => { results := [.lit (.bool true)], args := [d1, d2, d3, d4], vars := [g1] }
  | _ => none }
def lawS2680BOthersRow : OpenClaim := { program := "ybulkbcmcdoor", sum := "052c8c95af6afad0f972adb932b98dada5515e80cf991060cec72017f545a805", func := "example.com/cyclebreak/cyclebreak.LawS2680BOthers", spec := "lawS2680BOthers", named := ["example.com/cyclebreak/cyclebreak.conflicts"], plainKeys := false, apart := false, laid := [("example.com/cyclebreak/cyclebreak.conflicts", laid_example_com_cyclebreak_cyclebreak_conflicts)] }
def LawS2680BOthersSaid : Prop := lawS2680BOthersRow.holds Ybad.pinned (OpenSpec.ofChange lawS2680BOthersSpec)

/-- ITS FALSE NEIGHBOUR: 'it returns false'. Refute it at one input. -/
def lawS2680BOthersWrong : ChangeSpec := { name := "lawS2680BOthers", vars := ["example.com/cyclebreak/cyclebreak.conflicts"], fn := fun _ => fun
  | [d1, d2, d3, d4, g1] => { results := [.lit (.bool false)], args := [d1, d2, d3, d4], vars := [g1] }
  | _ => none }
def LawS2680BOthersWrongFalsely : Prop := lawS2680BOthersRow.holds Ybad.pinned (OpenSpec.ofChange lawS2680BOthersWrong)

/-- 'cyclebreak.LawS2680BNewAgrees': WHATEVER THE INPUT: true; the input reads as it did. -/
def lawS2680BNewAgreesSpec : ChangeSpec := { name := "lawS2680BNewAgrees", vars := ["example.com/cyclebreak/cyclebreak.conflicts"], fn := fun _ => fun
  | [d1, d2, g1] => { results := [.lit (.bool true)], args := [d1, d2], vars := [g1] }
  | _ => none }
def lawS2680BNewAgreesRow : OpenClaim := { program := "ybulkbcmcdoor", sum := "052c8c95af6afad0f972adb932b98dada5515e80cf991060cec72017f545a805", func := "example.com/cyclebreak/cyclebreak.LawS2680BNewAgrees", spec := "lawS2680BNewAgrees", named := ["example.com/cyclebreak/cyclebreak.conflicts"], plainKeys := false, apart := false, laid := [("example.com/cyclebreak/cyclebreak.conflicts", laid_example_com_cyclebreak_cyclebreak_conflicts)] }
def LawS2680BNewAgreesSaid : Prop := lawS2680BNewAgreesRow.holds Ybad.pinned (OpenSpec.ofChange lawS2680BNewAgreesSpec)

/-- ITS FALSE NEIGHBOUR: 'it returns false'. Refute it at one input. -/
def lawS2680BNewAgreesWrong : ChangeSpec := { name := "lawS2680BNewAgrees", vars := ["example.com/cyclebreak/cyclebreak.conflicts"], fn := fun _ => fun
  | [d1, d2, g1] => { results := [.lit (.bool false)], args := [d1, d2], vars := [g1] }
  | _ => none }
def LawS2680BNewAgreesWrongFalsely : Prop := lawS2680BNewAgreesRow.holds Ybad.pinned (OpenSpec.ofChange lawS2680BNewAgreesWrong)

/-- 'cyclebreak.LawS2680CVictim': WHATEVER THE INPUT: true; the input reads as it did. -/
def lawS2680CVictimSpec : ChangeSpec := { name := "lawS2680CVictim", fn := fun _ => fun
  | [d] => { results := [.lit (.bool true)], args := [d] }
  | _ => none }
def lawS2680CVictimRow : OpenClaim := { program := "ybulkbcmcdoor", sum := "052c8c95af6afad0f972adb932b98dada5515e80cf991060cec72017f545a805", func := "example.com/cyclebreak/cyclebreak.LawS2680CVictim", spec := "lawS2680CVictim", inPlace := ["sync/atomic.StoreInt64", "(*internal/sync.Mutex).Lock", "internal/race.Disable", "sync/atomic.CompareAndSwapInt32", "internal/race.Enable", "internal/race.Acquire", "(*internal/sync.Mutex).lockSlow", "internal/sync.runtime_canSpin", "internal/sync.runtime_doSpin", "internal/sync.throw", "internal/sync.runtime_nanotime", "internal/sync.runtime_SemacquireMutex", "sync/atomic.AddInt32", "(*internal/sync.Mutex).Unlock", "internal/race.ReleaseMerge", "(*internal/sync.Mutex).unlockSlow", "internal/sync.fatal", "internal/sync.runtime_Semrelease", "sync/atomic.LoadInt64"], unfollowed := true, recurses := true, named := ["math/rand/v2.globalRand"], plainKeys := false, apart := false }
def LawS2680CVictimSaid : Prop := lawS2680CVictimRow.holds Ybad.pinned (OpenSpec.ofChange lawS2680CVictimSpec)

/-- ITS FALSE NEIGHBOUR: 'it returns false'. Refute it at one input. -/
def lawS2680CVictimWrong : ChangeSpec := { name := "lawS2680CVictim", fn := fun _ => fun
  | [d] => { results := [.lit (.bool false)], args := [d] }
  | _ => none }
def LawS2680CVictimWrongFalsely : Prop := lawS2680CVictimRow.holds Ybad.pinned (OpenSpec.ofChange lawS2680CVictimWrong)

end Rows
end Go.Proofs.YbulkbcmcDoor
