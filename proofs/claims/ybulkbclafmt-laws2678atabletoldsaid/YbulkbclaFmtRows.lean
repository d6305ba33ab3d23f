/-
  No cell of these rows narrows 'for every input' (looked for: loops, veiled, ifaces, maps, wideKeys, modest, calm, conditions, laid).
  DERIVED. THE GIVEN ROWS OF THIS SEAT. 5 by the template 'for every input the law returns true; each argument reads behind the call as it read before'; 0 by the template 'total and deterministic' (their statements: YbulkbclaFmtTotals.lean).
  GIVEN WITH THE SEED: the statements are not yours to turn. If you find one false, say at which input.
  Laid BY PROGRAM, IN A SANDBOX (cutbox-rows.mjs): the forced cells as the released guide's own fill.sh prints them over the translation f25f3a4c8af63600… (all of the seat's roots in one cut). By AI agents, Wed Nov 11 2026. No macro, syntax, notation, axiom, sorry.
-/
import Derived.Test.YbulkbclaFmtChecked
import GoSem.Claim
import GoSem.ClaimJoined
import GoSem.ClaimMapViews
import Derived.JoinedTies
import Derived.KernelRfl
namespace Go.Proofs.YbulkbclaFmt
/- THE CELL 'sum', in the pinned program and in every row, IS THE sha256 OF THE DUMP (.gsa) THAT YbulkbclaFmtProg.lean LOADS. Nothing in Lean hashes anything: it is a label: what it is worth is what the hold of that sum in a sandbox is worth. -/
noncomputable def Ybaf.pinned : Pinned := { name := "ybulkbclafmt", sum := "f25f3a4c8af63600ab97b23020caede1261c64dd62daec0fed28c0e816d931ff", checked := Ybaf.checked }
namespace Rows
def none {H : Type} : Left H := { results := [], args := [] }

/-- 'nascent.LawS2678ATable': WHATEVER THE INPUT: true; the input reads as it did. -/
def lawS2678ATableSpec : ChangeSpec := { name := "lawS2678ATable", fn := fun _ => fun
  | [d1, d2, d3] => { results := [.lit (.bool true)], args := [d1, d2, d3] }
  | _ => none }
def lawS2678ATableRow : OpenClaim := { program := "ybulkbclafmt", sum := "f25f3a4c8af63600ab97b23020caede1261c64dd62daec0fed28c0e816d931ff", func := "example.com/nascent/nascent.LawS2678ATable", spec := "lawS2678ATable", stops := ["fmt.errorf"], inPlace := ["fmt.errorf"], apart := false }
/-- NO THEOREM (fmt's text is open here; it may be false): for the released tool's asking of the row's closed facts alone. THE STATEMENT IS 'LawS2678ATableToldSaid' (YbulkbclaFmtCards.lean). -/
def LawS2678ATableFormAsk : Prop := lawS2678ATableRow.holds Ybaf.pinned (OpenSpec.ofChange lawS2678ATableSpec)

/-- ITS FALSE NEIGHBOUR: 'it returns false'. Refute it at one input. -/
def lawS2678ATableWrong : ChangeSpec := { name := "lawS2678ATable", fn := fun _ => fun
  | [d1, d2, d3] => { results := [.lit (.bool false)], args := [d1, d2, d3] }
  | _ => none }
def LawS2678ATableWrongFormAsk : Prop := lawS2678ATableRow.holds Ybaf.pinned (OpenSpec.ofChange lawS2678ATableWrong)

/-- 'nascent.LawS2678BFind': WHATEVER THE INPUT: true; the input reads as it did. -/
def lawS2678BFindSpec : ChangeSpec := { name := "lawS2678BFind", fn := fun _ => fun
  | [d1, d2, d3] => { results := [.lit (.bool true)], args := [d1, d2, d3] }
  | _ => none }
def lawS2678BFindRow : OpenClaim := { program := "ybulkbclafmt", sum := "f25f3a4c8af63600ab97b23020caede1261c64dd62daec0fed28c0e816d931ff", func := "example.com/nascent/nascent.LawS2678BFind", spec := "lawS2678BFind", stops := ["fmt.errorf"], inPlace := ["internal/abi.NoEscape", "internal/bytealg.MakeNoZero", "fmt.errorf"], apart := false }
/-- NO THEOREM (fmt's text is open here; it may be false): for the released tool's asking of the row's closed facts alone. THE STATEMENT IS 'LawS2678BFindToldSaid' (YbulkbclaFmtCards.lean). -/
def LawS2678BFindFormAsk : Prop := lawS2678BFindRow.holds Ybaf.pinned (OpenSpec.ofChange lawS2678BFindSpec)

/-- ITS FALSE NEIGHBOUR: 'it returns false'. Refute it at one input. -/
def lawS2678BFindWrong : ChangeSpec := { name := "lawS2678BFind", fn := fun _ => fun
  | [d1, d2, d3] => { results := [.lit (.bool false)], args := [d1, d2, d3] }
  | _ => none }
def LawS2678BFindWrongFormAsk : Prop := lawS2678BFindRow.holds Ybaf.pinned (OpenSpec.ofChange lawS2678BFindWrong)

/-- 'nascent.LawS2678BRoundTrip': WHATEVER THE INPUT: true; the input reads as it did. -/
def lawS2678BRoundTripSpec : ChangeSpec := { name := "lawS2678BRoundTrip", fn := fun _ => fun
  | [d1, d2, d3] => { results := [.lit (.bool true)], args := [d1, d2, d3] }
  | _ => none }
def lawS2678BRoundTripRow : OpenClaim := { program := "ybulkbclafmt", sum := "f25f3a4c8af63600ab97b23020caede1261c64dd62daec0fed28c0e816d931ff", func := "example.com/nascent/nascent.LawS2678BRoundTrip", spec := "lawS2678BRoundTrip", stops := ["fmt.errorf"], inPlace := ["internal/abi.NoEscape", "internal/bytealg.MakeNoZero", "fmt.errorf"], apart := false }
/-- NO THEOREM (fmt's text is open here; it may be false): for the released tool's asking of the row's closed facts alone. THE STATEMENT IS 'LawS2678BRoundTripToldSaid' (YbulkbclaFmtCards.lean). -/
def LawS2678BRoundTripFormAsk : Prop := lawS2678BRoundTripRow.holds Ybaf.pinned (OpenSpec.ofChange lawS2678BRoundTripSpec)

/-- ITS FALSE NEIGHBOUR: 'it returns false'. Refute it at one input. -/
def lawS2678BRoundTripWrong : ChangeSpec := { name := "lawS2678BRoundTrip", fn := fun _ => fun
  | [d1, d2, d3] => { results := [.lit (.bool false)], args := [d1, d2, d3] }
  | _ => none }
def LawS2678BRoundTripWrongFormAsk : Prop := lawS2678BRoundTripRow.holds Ybaf.pinned (OpenSpec.ofChange lawS2678BRoundTripWrong)

/-- 'nascent.LawS2678CRead': WHATEVER THE INPUT: true; the input reads as it did. -/
def lawS2678CReadSpec : ChangeSpec := { name := "lawS2678CRead", fn := fun _ => fun
  | [d1, d2, d3] => { results := [.lit (.bool true)], args := [d1, d2, d3] }
  | _ => none }
def lawS2678CReadRow : OpenClaim := { program := "ybulkbclafmt", sum := "f25f3a4c8af63600ab97b23020caede1261c64dd62daec0fed28c0e816d931ff", func := "example.com/nascent/nascent.LawS2678CRead", spec := "lawS2678CRead", stops := ["fmt.errorf"], inPlace := ["fmt.errorf"], apart := false }
/-- NO THEOREM (fmt's text is open here; it may be false): for the released tool's asking of the row's closed facts alone. THE STATEMENT IS 'LawS2678CReadToldSaid' (YbulkbclaFmtCards.lean). -/
def LawS2678CReadFormAsk : Prop := lawS2678CReadRow.holds Ybaf.pinned (OpenSpec.ofChange lawS2678CReadSpec)

/-- ITS FALSE NEIGHBOUR: 'it returns false'. Refute it at one input. -/
def lawS2678CReadWrong : ChangeSpec := { name := "lawS2678CRead", fn := fun _ => fun
  | [d1, d2, d3] => { results := [.lit (.bool false)], args := [d1, d2, d3] }
  | _ => none }
def LawS2678CReadWrongFormAsk : Prop := lawS2678CReadRow.holds Ybaf.pinned (OpenSpec.ofChange lawS2678CReadWrong)

/-- 'nascent.LawS2678CRoundTrip': WHATEVER THE INPUT: true; the input reads as it did. -/
def lawS2678CRoundTripSpec : ChangeSpec := { name := "lawS2678CRoundTrip", fn := fun _ => fun
  | [d1, d2, d3, d4] => { results := [.lit (.bool true)], args := [d1, d2, d3, d4] }
  | _ => none }
def lawS2678CRoundTripRow : OpenClaim := { program := "ybulkbclafmt", sum := "f25f3a4c8af63600ab97b23020caede1261c64dd62daec0fed28c0e816d931ff", func := "example.com/nascent/nascent.LawS2678CRoundTrip", spec := "lawS2678CRoundTrip", stops := ["fmt.errorf"], inPlace := ["fmt.errorf"], apart := false }
/-- NO THEOREM (fmt's text is open here; it may be false): for the released tool's asking of the row's closed facts alone. THE STATEMENT IS 'LawS2678CRoundTripToldSaid' (YbulkbclaFmtCards.lean). -/
def LawS2678CRoundTripFormAsk : Prop := lawS2678CRoundTripRow.holds Ybaf.pinned (OpenSpec.ofChange lawS2678CRoundTripSpec)

/-- ITS FALSE NEIGHBOUR: 'it returns false'. Refute it at one input. -/
def lawS2678CRoundTripWrong : ChangeSpec := { name := "lawS2678CRoundTrip", fn := fun _ => fun
  | [d1, d2, d3, d4] => { results := [.lit (.bool false)], args := [d1, d2, d3, d4] }
  | _ => none }
def LawS2678CRoundTripWrongFormAsk : Prop := lawS2678CRoundTripRow.holds Ybaf.pinned (OpenSpec.ofChange lawS2678CRoundTripWrong)

end Rows
end Go.Proofs.YbulkbclaFmt
