/-
  No cell of these rows narrows 'for every input' (looked for: loops, veiled, ifaces, maps, wideKeys, modest, calm, conditions, laid).
  DERIVED. THE GIVEN ROWS OF THIS SEAT. 4 by the template 'for every input the law returns true; each argument reads behind the call as it read before'; 0 by the template 'total and deterministic' (their statements: YbulkamhoTotals.lean).
  GIVEN WITH THE SEED: the statements are not yours to turn. If you find one false, say at which input.
  Laid BY PROGRAM, IN A SANDBOX (cutbox-rows.mjs): the forced cells as the released guide's own fill.sh prints them over the translation 4e77b39647892922… (all of the seat's roots in one cut). By AI agents, Wed Nov 11 2026. No macro, syntax, notation, axiom, sorry.
-/
import Derived.Test.YbulkamhoChecked
import GoSem.Claim
import GoSem.ClaimJoined
import GoSem.ClaimMapViews
import Derived.JoinedTies
import Derived.KernelRfl
namespace Go.Proofs.Ybulkamho
/- THE CELL 'sum', in the pinned program and in every row, IS THE sha256 OF THE DUMP (.gsa) THAT YbulkamhoProg.lean LOADS. Nothing in Lean hashes anything: it is a label: what it is worth is what the hold of that sum in a sandbox is worth. -/
noncomputable def Yba.pinned : Pinned := { name := "ybulkamho", sum := "4e77b39647892922f5437d59fbfcbb6b5e0b02cb677c4baa0d26faed4dde99a0", checked := Yba.checked }
namespace Rows
def none {H : Type} : Left H := { results := [], args := [] }

/-- 'quantifier.LawS1899AFilter': WHATEVER THE INPUT: true; the input reads as it did. -/
def lawS1899AFilterSpec : ChangeSpec := { name := "lawS1899AFilter", fn := fun _ => fun
  | [d1, d2, d3, d4, d5, d6] => { results := [.lit (.bool true)], args := [d1, d2, d3, d4, d5, d6] }
  | _ => none }
def lawS1899AFilterRow : OpenClaim := { program := "ybulkamho", sum := "4e77b39647892922f5437d59fbfcbb6b5e0b02cb677c4baa0d26faed4dde99a0", func := "example.com/quantifier/quantifier.LawS1899AFilter", spec := "lawS1899AFilter", plainKeys := false, apart := false }
def LawS1899AFilterSaid : Prop := lawS1899AFilterRow.holds Yba.pinned (OpenSpec.ofChange lawS1899AFilterSpec)

/-- ITS FALSE NEIGHBOUR: 'it returns false'. Refute it at one input. -/
def lawS1899AFilterWrong : ChangeSpec := { name := "lawS1899AFilter", fn := fun _ => fun
  | [d1, d2, d3, d4, d5, d6] => { results := [.lit (.bool false)], args := [d1, d2, d3, d4, d5, d6] }
  | _ => none }
def LawS1899AFilterWrongFalsely : Prop := lawS1899AFilterRow.holds Yba.pinned (OpenSpec.ofChange lawS1899AFilterWrong)

/-- 'quantifier.LawS1899BLayout': WHATEVER THE INPUT: true; the input reads as it did. -/
def lawS1899BLayoutSpec : ChangeSpec := { name := "lawS1899BLayout", fn := fun _ => fun
  | [d1, d2] => { results := [.lit (.bool true)], args := [d1, d2] }
  | _ => none }
def lawS1899BLayoutRow : OpenClaim := { program := "ybulkamho", sum := "4e77b39647892922f5437d59fbfcbb6b5e0b02cb677c4baa0d26faed4dde99a0", func := "example.com/quantifier/quantifier.LawS1899BLayout", spec := "lawS1899BLayout", named := ["encoding/binary.BigEndian"], plainKeys := false, apart := false }
def LawS1899BLayoutSaid : Prop := lawS1899BLayoutRow.holds Yba.pinned (OpenSpec.ofChange lawS1899BLayoutSpec)

/-- ITS FALSE NEIGHBOUR: 'it returns false'. Refute it at one input. -/
def lawS1899BLayoutWrong : ChangeSpec := { name := "lawS1899BLayout", fn := fun _ => fun
  | [d1, d2] => { results := [.lit (.bool false)], args := [d1, d2] }
  | _ => none }
def LawS1899BLayoutWrongFalsely : Prop := lawS1899BLayoutRow.holds Yba.pinned (OpenSpec.ofChange lawS1899BLayoutWrong)

/-- 'quantifier.LawS1899CMatchesModel': WHATEVER THE INPUT: true; the input reads as it did. -/
def lawS1899CMatchesModelSpec : ChangeSpec := { name := "lawS1899CMatchesModel", fn := fun _ => fun
  | [d1, d2, d3] => { results := [.lit (.bool true)], args := [d1, d2, d3] }
  | _ => none }
def lawS1899CMatchesModelRow : OpenClaim := { program := "ybulkamho", sum := "4e77b39647892922f5437d59fbfcbb6b5e0b02cb677c4baa0d26faed4dde99a0", func := "example.com/quantifier/quantifier.LawS1899CMatchesModel", spec := "lawS1899CMatchesModel", plainKeys := false, apart := false }
def LawS1899CMatchesModelSaid : Prop := lawS1899CMatchesModelRow.holds Yba.pinned (OpenSpec.ofChange lawS1899CMatchesModelSpec)

/-- ITS FALSE NEIGHBOUR: 'it returns false'. Refute it at one input. -/
def lawS1899CMatchesModelWrong : ChangeSpec := { name := "lawS1899CMatchesModel", fn := fun _ => fun
  | [d1, d2, d3] => { results := [.lit (.bool false)], args := [d1, d2, d3] }
  | _ => none }
def LawS1899CMatchesModelWrongFalsely : Prop := lawS1899CMatchesModelRow.holds Yba.pinned (OpenSpec.ofChange lawS1899CMatchesModelWrong)

/-- 'quantifier.LawS1899CSelfRemovalKept': WHATEVER THE INPUT: true; the input reads as it did. -/
def lawS1899CSelfRemovalKeptSpec : ChangeSpec := { name := "lawS1899CSelfRemovalKept", fn := fun _ => fun
  | [d1, d2, d3] => { results := [.lit (.bool true)], args := [d1, d2, d3] }
  | _ => none }
def lawS1899CSelfRemovalKeptRow : OpenClaim := { program := "ybulkamho", sum := "4e77b39647892922f5437d59fbfcbb6b5e0b02cb677c4baa0d26faed4dde99a0", func := "example.com/quantifier/quantifier.LawS1899CSelfRemovalKept", spec := "lawS1899CSelfRemovalKept", plainKeys := false, apart := false }
def LawS1899CSelfRemovalKeptSaid : Prop := lawS1899CSelfRemovalKeptRow.holds Yba.pinned (OpenSpec.ofChange lawS1899CSelfRemovalKeptSpec)

/-- ITS FALSE NEIGHBOUR: 'it returns false'. Refute it at one input. -/
def lawS1899CSelfRemovalKeptWrong : ChangeSpec := { name := "lawS1899CSelfRemovalKept", fn := fun _ => fun
  | [d1, d2, d3] => { results := [.lit (.bool false)], args := [d1, d2, d3] }
  | _ => none }
def LawS1899CSelfRemovalKeptWrongFalsely : Prop := lawS1899CSelfRemovalKeptRow.holds Yba.pinned (OpenSpec.ofChange lawS1899CSelfRemovalKeptWrong)

end Rows
end Go.Proofs.Ybulkamho
