/-
  DERIVED. GIVEN WITH THE SEED: THE CARDS: each row of YbulkbcmcDoorRows.lean that lists a variable, with what it lists TIED to the program's text (the seventh form; the later family's looks); each row that meets fmt, with fmt's text TOLD by the authors' own Lean function (tested against real Go, not proved from fmt's source: count such statements apart). THE CARD IS WHAT COUNTS. Prove the row's statement (the work); the ties are given (YbulkbcmcDoorTie.lean); close each card by the builder's one call (the guide's Derived/Test/ToyasCard.lean, 'card_holds'). Laid BY PROGRAM, IN A SANDBOX (cutbox-door.mjs). By AI agents, Wed Nov 11 2026. No macro, syntax, notation, axiom, sorry.
-/
import Derived.Test.YbulkbcmcDoorRows
import GoSem.ClaimSeven
namespace Go.Proofs.YbulkbcmcDoor
namespace Rows

/-- THE TIED CARD OF 'cyclebreak.LawS2680BOthers'. -/
def lawS2680BOthersCard : Claim7 := { stood := { row := lawS2680BOthersRow, standIns := [], harness := (true, "d4dde3293277877075a739bf14c2eff9d75864f75aa622bb2b89e5b996c4a0ae"), looks := false }, kinds := [], alts := [], laidByText := true, laidKinds := [.called], laidTests := true, laidLooks := .later }
def LawS2680BOthersCardSaid : Prop := Claim7.holds Ybad.pinned (.plain (OpenSpec.ofChange lawS2680BOthersSpec)) lawS2680BOthersCard

/-- THE TIED CARD OF 'cyclebreak.LawS2680BNewAgrees'. -/
def lawS2680BNewAgreesCard : Claim7 := { stood := { row := lawS2680BNewAgreesRow, standIns := [], harness := (true, "d4dde3293277877075a739bf14c2eff9d75864f75aa622bb2b89e5b996c4a0ae"), looks := false }, kinds := [], alts := [], laidByText := true, laidKinds := [.called], laidTests := true, laidLooks := .later }
def LawS2680BNewAgreesCardSaid : Prop := Claim7.holds Ybad.pinned (.plain (OpenSpec.ofChange lawS2680BNewAgreesSpec)) lawS2680BNewAgreesCard
end Rows
end Go.Proofs.YbulkbcmcDoor
