/-
  DERIVED. GIVEN WITH THE SEED: THE CARDS: each row of YbulkbcpiDoorRows.lean that lists a variable, with what it lists TIED to the program's text (the seventh form; the later family's looks); each row that meets fmt, with fmt's text TOLD by the authors' own Lean function (tested against real Go, not proved from fmt's source: count such statements apart). THE CARD IS WHAT COUNTS. Prove the row's statement (the work); the ties are given (YbulkbcpiDoorTie.lean); close each card by the builder's one call (the guide's Derived/Test/ToyasCard.lean, 'card_holds'). Laid BY PROGRAM, IN A SANDBOX (cutbox-door.mjs). By AI agents, Wed Nov 11 2026. No macro, syntax, notation, axiom, sorry.
-/
import Derived.Test.YbulkbcpiDoorRows
import GoSem.ClaimSeven
namespace Go.Proofs.YbulkbcpiDoor
namespace Rows

/-- THE TIED CARD OF 'lock.LawS2686CRelease'. -/
def lawS2686CReleaseCard : Claim7 := { stood := { row := lawS2686CReleaseRow, standIns := [], harness := (true, "f0bc06e43d2008db1837fc7a089defa361629e407ff796c241d99620206a6666"), looks := true }, kinds := [], alts := [], laidByText := true, laidKinds := [.sentinel, .sentinel, .sentinel, .sentinel, .sentinel, .sentinel, .sentinel, .sentinel], laidTests := true, laidLooks := .later }
def LawS2686CReleaseCardSaid : Prop := Claim7.holds Ybad.pinned (.plain (OpenSpec.ofChange lawS2686CReleaseSpec)) lawS2686CReleaseCard
end Rows
end Go.Proofs.YbulkbcpiDoor
