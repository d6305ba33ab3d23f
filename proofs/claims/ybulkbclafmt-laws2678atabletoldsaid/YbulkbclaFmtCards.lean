/-
  DERIVED. GIVEN WITH THE SEED: THE CARDS: each row of YbulkbclaFmtRows.lean that lists a variable, with what it lists TIED to the program's text (the seventh form; the later family's looks); each row that meets fmt, with fmt's text TOLD by the authors' own Lean function (tested against real Go, not proved from fmt's source: count such statements apart). THE CARD IS WHAT COUNTS. Prove the row's statement (the work); the ties are given (YbulkbclaFmtTie.lean); close each card by the builder's one call (the guide's Derived/Test/ToyasCard.lean, 'card_holds'). Laid BY PROGRAM, IN A SANDBOX (cutbox-door.mjs). By AI agents, Wed Nov 11 2026. No macro, syntax, notation, axiom, sorry.
-/
import Derived.Test.YbulkbclaFmtRows
import GoSem.ClaimSeven
namespace Go.Proofs.YbulkbclaFmt
namespace Rows

/-- THE TOLD CARD OF 'nascent.LawS2678ATable'. -/
def lawS2678ATableCard : Claim7 := { stood := { row := lawS2678ATableRow, standIns := [], harness := (true, "e4c72cc4bd9043ddd725c7b8ab63f44568e19349b2e0891781d3775a37327bfc"), looks := false }, told := true, goes := false }
def LawS2678ATableToldSaid : Prop := Claim7.holds Ybaf.pinned (.plain (OpenSpec.ofChange lawS2678ATableSpec)) lawS2678ATableCard
/-- ITS FALSE NEIGHBOUR. Refute it at one input. -/
def LawS2678ATableToldWrongFalsely : Prop := Claim7.holds Ybaf.pinned (.plain (OpenSpec.ofChange lawS2678ATableWrong)) lawS2678ATableCard

/-- THE TOLD CARD OF 'nascent.LawS2678BFind'. -/
def lawS2678BFindCard : Claim7 := { stood := { row := lawS2678BFindRow, standIns := [], harness := (true, "e4c72cc4bd9043ddd725c7b8ab63f44568e19349b2e0891781d3775a37327bfc"), looks := false }, told := true, goes := false }
def LawS2678BFindToldSaid : Prop := Claim7.holds Ybaf.pinned (.plain (OpenSpec.ofChange lawS2678BFindSpec)) lawS2678BFindCard
/-- ITS FALSE NEIGHBOUR. Refute it at one input. -/
def LawS2678BFindToldWrongFalsely : Prop := Claim7.holds Ybaf.pinned (.plain (OpenSpec.ofChange lawS2678BFindWrong)) lawS2678BFindCard

/-- THE TOLD CARD OF 'nascent.LawS2678BRoundTrip'. -/
def lawS2678BRoundTripCard : Claim7 := { stood := { row := lawS2678BRoundTripRow, standIns := [], harness := (true, "e4c72cc4bd9043ddd725c7b8ab63f44568e19349b2e0891781d3775a37327bfc"), looks := false }, told := true, goes := false }
def LawS2678BRoundTripToldSaid : Prop := Claim7.holds Ybaf.pinned (.plain (OpenSpec.ofChange lawS2678BRoundTripSpec)) lawS2678BRoundTripCard
/-- ITS FALSE NEIGHBOUR. Refute it at one input. -/
def LawS2678BRoundTripToldWrongFalsely : Prop := Claim7.holds Ybaf.pinned (.plain (OpenSpec.ofChange lawS2678BRoundTripWrong)) lawS2678BRoundTripCard

/-- THE TOLD CARD OF 'nascent.LawS2678CRead'. -/
def lawS2678CReadCard : Claim7 := { stood := { row := lawS2678CReadRow, standIns := [], harness := (true, "e4c72cc4bd9043ddd725c7b8ab63f44568e19349b2e0891781d3775a37327bfc"), looks := false }, told := true, goes := false }
def LawS2678CReadToldSaid : Prop := Claim7.holds Ybaf.pinned (.plain (OpenSpec.ofChange lawS2678CReadSpec)) lawS2678CReadCard
/-- ITS FALSE NEIGHBOUR. Refute it at one input. -/
def LawS2678CReadToldWrongFalsely : Prop := Claim7.holds Ybaf.pinned (.plain (OpenSpec.ofChange lawS2678CReadWrong)) lawS2678CReadCard

/-- THE TOLD CARD OF 'nascent.LawS2678CRoundTrip'. -/
def lawS2678CRoundTripCard : Claim7 := { stood := { row := lawS2678CRoundTripRow, standIns := [], harness := (true, "e4c72cc4bd9043ddd725c7b8ab63f44568e19349b2e0891781d3775a37327bfc"), looks := false }, told := true, goes := false }
def LawS2678CRoundTripToldSaid : Prop := Claim7.holds Ybaf.pinned (.plain (OpenSpec.ofChange lawS2678CRoundTripSpec)) lawS2678CRoundTripCard
/-- ITS FALSE NEIGHBOUR. Refute it at one input. -/
def LawS2678CRoundTripToldWrongFalsely : Prop := Claim7.holds Ybaf.pinned (.plain (OpenSpec.ofChange lawS2678CRoundTripWrong)) lawS2678CRoundTripCard
end Rows
end Go.Proofs.YbulkbclaFmt
