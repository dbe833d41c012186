/-
  DERIVED. GIVEN WITH THE SEED: THE CARDS: each row of YbulkamkgFmtRows.lean that lists a variable, with what it lists TIED to the program's text (the seventh form; the later family's looks); each row that meets fmt, with fmt's text TOLD by the authors' own Lean function (tested against real Go, not proved from fmt's source: count such statements apart). THE CARD IS WHAT COUNTS. Prove the row's statement (the work); the ties are given (YbulkamkgFmtTie.lean); close each card by the builder's one call (the guide's Derived/Test/ToyasCard.lean, 'card_holds'). Laid BY PROGRAM, IN A SANDBOX (cutbox-door.mjs). By AI agents, Wed Nov 11 2026. No macro, syntax, notation, axiom, sorry.
-/
import Derived.Test.YbulkamkgFmtRows
import GoSem.ClaimSeven
namespace Go.Proofs.YbulkamkgFmt
namespace Rows

/-- THE TOLD CARD OF 'mortise.LawS1904ATable'. -/
def lawS1904ATableCard : Claim7 := { stood := { row := lawS1904ATableRow, standIns := [], harness := (true, "28a48a5c940596796f6fb28ed4710561748ad0215c127f959fe7dc9affed7fad"), looks := false }, told := true, goes := false }
def LawS1904ATableToldSaid : Prop := Claim7.holds Ybaf.pinned (.plain (OpenSpec.ofChange lawS1904ATableSpec)) lawS1904ATableCard
/-- ITS FALSE NEIGHBOUR. Refute it at one input. -/
def LawS1904ATableToldWrongFalsely : Prop := Claim7.holds Ybaf.pinned (.plain (OpenSpec.ofChange lawS1904ATableWrong)) lawS1904ATableCard

/-- THE TOLD CARD OF 'mortise.LawS1904AUnmarshalRoundTrip'. -/
def lawS1904AUnmarshalRoundTripCard : Claim7 := { stood := { row := lawS1904AUnmarshalRoundTripRow, standIns := [], harness := (true, "28a48a5c940596796f6fb28ed4710561748ad0215c127f959fe7dc9affed7fad"), looks := false }, told := true, goes := false }
def LawS1904AUnmarshalRoundTripToldSaid : Prop := Claim7.holds Ybaf.pinned (.plain (OpenSpec.ofChange lawS1904AUnmarshalRoundTripSpec)) lawS1904AUnmarshalRoundTripCard
/-- ITS FALSE NEIGHBOUR. Refute it at one input. -/
def LawS1904AUnmarshalRoundTripToldWrongFalsely : Prop := Claim7.holds Ybaf.pinned (.plain (OpenSpec.ofChange lawS1904AUnmarshalRoundTripWrong)) lawS1904AUnmarshalRoundTripCard
end Rows
end Go.Proofs.YbulkamkgFmt
