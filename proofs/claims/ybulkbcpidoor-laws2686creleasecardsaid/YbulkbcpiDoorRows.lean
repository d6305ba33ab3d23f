/-
  NARROWER THAN 'FOR EVERY INPUT', by the rows' own cells (each row's printed sentence says how): LawS2686CRelease: ifaces, laid.
  DERIVED. THE GIVEN ROWS OF THIS SEAT. 1 by the template 'for every input the law returns true; each argument reads behind the call as it read before'; 0 by the template 'total and deterministic' (their statements: YbulkbcpiDoorTotals.lean).
  GIVEN WITH THE SEED: the statements are not yours to turn. If you find one false, say at which input.
  Laid BY PROGRAM, IN A SANDBOX (cutbox-rows.mjs): the forced cells as the released guide's own fill.sh prints them over the translation 6dc06d4f4fbe47ae… (all of the seat's roots in one cut). By AI agents, Wed Nov 11 2026. No macro, syntax, notation, axiom, sorry.
-/
import Derived.Test.YbulkbcpiDoorChecked
import GoSem.Claim
import GoSem.ClaimJoined
import GoSem.ClaimMapViews
import Derived.JoinedTies
import Derived.KernelRfl
namespace Go.Proofs.YbulkbcpiDoor
/- THE CELL 'sum', in the pinned program and in every row, IS THE sha256 OF THE DUMP (.gsa) THAT YbulkbcpiDoorProg.lean LOADS. Nothing in Lean hashes anything: it is a label: what it is worth is what the hold of that sum in a sandbox is worth. -/
noncomputable def Ybad.pinned : Pinned := { name := "ybulkbcpidoor", sum := "6dc06d4f4fbe47ae2ba4451ef216318e3e32016aa75200d051f8c7990c5cc4e5", checked := Ybad.checked }
namespace Rows
def none {H : Type} : Left H := { results := [], args := [] }

/- WHAT THE LISTED PACKAGE-LEVEL VARIABLES READ AS WHEN THE CALL BEGINS. Each datum BY PROGRAM (the guide's laid-datum.mjs) off the statement by which the dump's own 'gosem.cut.vars' lays the variable. In a bare row this is a premise. The card (YbulkbcpiDoorCards.lean) ties it to the program's text. -/
def laid_example_com_latchwork_latchwork_lock_ErrAlreadyLocked {H : Type} : DataW H := .iface "*errors.errorString" (.ptr (.agg [.lit (.string [97, 108, 114, 101, 97, 100, 121, 32, 108, 111, 99, 107, 101, 100])]))
def laid_example_com_latchwork_latchwork_lock_ErrNotLocked {H : Type} : DataW H := .iface "*errors.errorString" (.ptr (.agg [.lit (.string [110, 111, 116, 32, 108, 111, 99, 107, 101, 100])]))
def laid_example_com_latchwork_latchwork_lock_ErrNotShared {H : Type} : DataW H := .iface "*errors.errorString" (.ptr (.agg [.lit (.string [110, 111, 32, 115, 104, 97, 114, 101, 100, 32, 108, 111, 99, 107, 32, 116, 111, 32, 117, 112, 103, 114, 97, 100, 101])]))
def laid_example_com_latchwork_latchwork_lock_ErrRigorous {H : Type} : DataW H := .iface "*errors.errorString" (.ptr (.agg [.lit (.string [114, 105, 103, 111, 114, 111, 117, 115, 32, 104, 111, 108, 100, 115, 32, 97, 108, 108, 32, 108, 111, 99, 107, 115, 32, 116, 111, 32, 99, 111, 109, 109, 105, 116])]))
def laid_example_com_latchwork_latchwork_lock_ErrStrict {H : Type} : DataW H := .iface "*errors.errorString" (.ptr (.agg [.lit (.string [115, 116, 114, 105, 99, 116, 32, 104, 111, 108, 100, 115, 32, 101, 120, 99, 108, 117, 115, 105, 118, 101, 32, 108, 111, 99, 107, 115, 32, 116, 111, 32, 99, 111, 109, 109, 105, 116])]))
def laid_example_com_latchwork_latchwork_lock_ErrShrinking {H : Type} : DataW H := .iface "*errors.errorString" (.ptr (.agg [.lit (.string [115, 104, 114, 105, 110, 107, 105, 110, 103, 32, 112, 104, 97, 115, 101])]))
def laid_example_com_latchwork_latchwork_lock_ErrWaiting {H : Type} : DataW H := .iface "*errors.errorString" (.ptr (.agg [.lit (.string [116, 114, 97, 110, 115, 97, 99, 116, 105, 111, 110, 32, 105, 115, 32, 119, 97, 105, 116, 105, 110, 103, 32, 102, 111, 114, 32, 97, 32, 108, 111, 99, 107])]))
def laid_example_com_latchwork_latchwork_lock_ErrDeadlock {H : Type} : DataW H := .iface "*errors.errorString" (.ptr (.agg [.lit (.string [100, 101, 97, 100, 108, 111, 99, 107])]))

/-- 'lock.LawS2686CRelease': WHATEVER THE INPUT: true; the input reads as it did. -/
def lawS2686CReleaseSpec : ChangeSpec := { name := "lawS2686CRelease", vars := ["example.com/latchwork/latchwork/lock.ErrWaiting", "example.com/latchwork/latchwork/lock.ErrAlreadyLocked", "example.com/latchwork/latchwork/lock.ErrShrinking", "example.com/latchwork/latchwork/lock.ErrDeadlock", "example.com/latchwork/latchwork/lock.ErrNotShared", "example.com/latchwork/latchwork/lock.ErrNotLocked", "example.com/latchwork/latchwork/lock.ErrRigorous", "example.com/latchwork/latchwork/lock.ErrStrict"], fn := fun _ => fun
  | [d1, d2, g1, g2, g3, g4, g5, g6, g7, g8] => { results := [.lit (.bool true)], args := [d1, d2], vars := [g1, g2, g3, g4, g5, g6, g7, g8] }
  | _ => none }
def lawS2686CReleaseRow : OpenClaim := { program := "ybulkbcpidoor", sum := "6dc06d4f4fbe47ae2ba4451ef216318e3e32016aa75200d051f8c7990c5cc4e5", func := "example.com/latchwork/latchwork/lock.LawS2686CRelease", spec := "lawS2686CRelease", inPlace := ["slices.overlaps[example.com/latchwork/latchwork/lock.request[int]]"], unfollowed := true, recurses := true, named := ["example.com/latchwork/latchwork/lock.ErrWaiting", "example.com/latchwork/latchwork/lock.ErrAlreadyLocked", "example.com/latchwork/latchwork/lock.ErrShrinking", "example.com/latchwork/latchwork/lock.ErrDeadlock", "example.com/latchwork/latchwork/lock.ErrNotShared", "example.com/latchwork/latchwork/lock.ErrNotLocked", "example.com/latchwork/latchwork/lock.ErrRigorous", "example.com/latchwork/latchwork/lock.ErrStrict"], ifaces := true, apart := false, laid := [("example.com/latchwork/latchwork/lock.ErrAlreadyLocked", laid_example_com_latchwork_latchwork_lock_ErrAlreadyLocked), ("example.com/latchwork/latchwork/lock.ErrNotLocked", laid_example_com_latchwork_latchwork_lock_ErrNotLocked), ("example.com/latchwork/latchwork/lock.ErrNotShared", laid_example_com_latchwork_latchwork_lock_ErrNotShared), ("example.com/latchwork/latchwork/lock.ErrRigorous", laid_example_com_latchwork_latchwork_lock_ErrRigorous), ("example.com/latchwork/latchwork/lock.ErrStrict", laid_example_com_latchwork_latchwork_lock_ErrStrict), ("example.com/latchwork/latchwork/lock.ErrShrinking", laid_example_com_latchwork_latchwork_lock_ErrShrinking), ("example.com/latchwork/latchwork/lock.ErrWaiting", laid_example_com_latchwork_latchwork_lock_ErrWaiting), ("example.com/latchwork/latchwork/lock.ErrDeadlock", laid_example_com_latchwork_latchwork_lock_ErrDeadlock)] }
def LawS2686CReleaseSaid : Prop := lawS2686CReleaseRow.holds Ybad.pinned (OpenSpec.ofChange lawS2686CReleaseSpec)

/-- ITS FALSE NEIGHBOUR: 'it returns false'. Refute it at one input. -/
def lawS2686CReleaseWrong : ChangeSpec := { name := "lawS2686CRelease", vars := ["example.com/latchwork/latchwork/lock.ErrWaiting", "example.com/latchwork/latchwork/lock.ErrAlreadyLocked", "example.com/latchwork/latchwork/lock.ErrShrinking", "example.com/latchwork/latchwork/lock.ErrDeadlock", "example.com/latchwork/latchwork/lock.ErrNotShared", "example.com/latchwork/latchwork/lock.ErrNotLocked", "example.com/latchwork/latchwork/lock.ErrRigorous", "example.com/latchwork/latchwork/lock.ErrStrict"], fn := fun _ => fun
  | [d1, d2, g1, g2, g3, g4, g5, g6, g7, g8] => { results := [.lit (.bool false)], args := [d1, d2], vars := [g1, g2, g3, g4, g5, g6, g7, g8] }
  | _ => none }
def LawS2686CReleaseWrongFalsely : Prop := lawS2686CReleaseRow.holds Ybad.pinned (OpenSpec.ofChange lawS2686CReleaseWrong)

end Rows
end Go.Proofs.YbulkbcpiDoor
