/-
  No cell of these rows narrows 'for every input' (looked for: loops, veiled, ifaces, maps, wideKeys, modest, calm, conditions, laid).
  DERIVED. THE GIVEN ROWS OF THIS SEAT. 2 by the template 'for every input the law returns true; each argument reads behind the call as it read before'; 0 by the template 'total and deterministic' (their statements: YbulkamkgFmtTotals.lean).
  GIVEN WITH THE SEED: the statements are not yours to turn. If you find one false, say at which input.
  Laid BY PROGRAM, IN A SANDBOX (cutbox-rows.mjs): the forced cells as the released guide's own fill.sh prints them over the translation a57d650eef5698d4… (all of the seat's roots in one cut). By AI agents, Wed Nov 11 2026. No macro, syntax, notation, axiom, sorry.
-/
import Derived.Test.YbulkamkgFmtChecked
import GoSem.Claim
import GoSem.ClaimJoined
import GoSem.ClaimMapViews
import Derived.JoinedTies
import Derived.KernelRfl
namespace Go.Proofs.YbulkamkgFmt
/- THE CELL 'sum', in the pinned program and in every row, IS THE sha256 OF THE DUMP (.gsa) THAT YbulkamkgFmtProg.lean LOADS. Nothing in Lean hashes anything: it is a label: what it is worth is what the hold of that sum in a sandbox is worth. -/
noncomputable def Ybaf.pinned : Pinned := { name := "ybulkamkgfmt", sum := "a57d650eef5698d4afcb862605714665e0890c63a8e691349dd11e557cc8b49d", checked := Ybaf.checked }
namespace Rows
def none {H : Type} : Left H := { results := [], args := [] }

/-- 'mortise.LawS1904ATable': WHATEVER THE INPUT: true; the input reads as it did. -/
def lawS1904ATableSpec : ChangeSpec := { name := "lawS1904ATable", fn := fun _ => fun
  | [d] => { results := [.lit (.bool true)], args := [d] }
  | _ => none }
def lawS1904ATableRow : OpenClaim := { program := "ybulkamkgfmt", sum := "a57d650eef5698d4afcb862605714665e0890c63a8e691349dd11e557cc8b49d", func := "example.com/mortise/mortise.LawS1904ATable", spec := "lawS1904ATable", stops := ["fmt.errorf"], inPlace := ["fmt.errorf"], apart := false }
/-- NO THEOREM (fmt's text is open here; it may be false): for the released tool's asking of the row's closed facts alone. THE STATEMENT IS 'LawS1904ATableToldSaid' (YbulkamkgFmtCards.lean). -/
def LawS1904ATableFormAsk : Prop := lawS1904ATableRow.holds Ybaf.pinned (OpenSpec.ofChange lawS1904ATableSpec)

/-- ITS FALSE NEIGHBOUR: 'it returns false'. Refute it at one input. -/
def lawS1904ATableWrong : ChangeSpec := { name := "lawS1904ATable", fn := fun _ => fun
  | [d] => { results := [.lit (.bool false)], args := [d] }
  | _ => none }
def LawS1904ATableWrongFormAsk : Prop := lawS1904ATableRow.holds Ybaf.pinned (OpenSpec.ofChange lawS1904ATableWrong)

/-- 'mortise.LawS1904AUnmarshalRoundTrip': WHATEVER THE INPUT: true; the input reads as it did. -/
def lawS1904AUnmarshalRoundTripSpec : ChangeSpec := { name := "lawS1904AUnmarshalRoundTrip", fn := fun _ => fun
  | [d] => { results := [.lit (.bool true)], args := [d] }
  | _ => none }
def lawS1904AUnmarshalRoundTripRow : OpenClaim := { program := "ybulkamkgfmt", sum := "a57d650eef5698d4afcb862605714665e0890c63a8e691349dd11e557cc8b49d", func := "example.com/mortise/mortise.LawS1904AUnmarshalRoundTrip", spec := "lawS1904AUnmarshalRoundTrip", stops := ["fmt.errorf"], inPlace := ["fmt.errorf"], apart := false }
/-- NO THEOREM (fmt's text is open here; it may be false): for the released tool's asking of the row's closed facts alone. THE STATEMENT IS 'LawS1904AUnmarshalRoundTripToldSaid' (YbulkamkgFmtCards.lean). -/
def LawS1904AUnmarshalRoundTripFormAsk : Prop := lawS1904AUnmarshalRoundTripRow.holds Ybaf.pinned (OpenSpec.ofChange lawS1904AUnmarshalRoundTripSpec)

/-- ITS FALSE NEIGHBOUR: 'it returns false'. Refute it at one input. -/
def lawS1904AUnmarshalRoundTripWrong : ChangeSpec := { name := "lawS1904AUnmarshalRoundTrip", fn := fun _ => fun
  | [d] => { results := [.lit (.bool false)], args := [d] }
  | _ => none }
def LawS1904AUnmarshalRoundTripWrongFormAsk : Prop := lawS1904AUnmarshalRoundTripRow.holds Ybaf.pinned (OpenSpec.ofChange lawS1904AUnmarshalRoundTripWrong)

end Rows
end Go.Proofs.YbulkamkgFmt
