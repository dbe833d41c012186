/-
  No cell of these rows narrows 'for every input' (looked for: loops, veiled, ifaces, maps, wideKeys, modest, calm, conditions, laid).
  DERIVED. THE GIVEN ROWS OF THIS SEAT. 4 by the template 'for every input the law returns true; each argument reads behind the call as it read before'; 0 by the template 'total and deterministic' (their statements: YbulkamjeTotals.lean).
  GIVEN WITH THE SEED: the statements are not yours to turn. If you find one false, say at which input.
  Laid BY PROGRAM, IN A SANDBOX (cutbox-rows.mjs): the forced cells as the released guide's own fill.sh prints them over the translation 13e2811b0ceeb9dc… (all of the seat's roots in one cut). By AI agents, Wed Nov 11 2026. No macro, syntax, notation, axiom, sorry.
-/
import Derived.Test.YbulkamjeChecked
import GoSem.Claim
import GoSem.ClaimJoined
import GoSem.ClaimMapViews
import Derived.JoinedTies
import Derived.KernelRfl
namespace Go.Proofs.Ybulkamje
/- THE CELL 'sum', in the pinned program and in every row, IS THE sha256 OF THE DUMP (.gsa) THAT YbulkamjeProg.lean LOADS. Nothing in Lean hashes anything: it is a label: what it is worth is what the hold of that sum in a sandbox is worth. -/
noncomputable def Yba.pinned : Pinned := { name := "ybulkamje", sum := "13e2811b0ceeb9dc4287e043b04964b1727de6d5f184d16d0e1f44ff9849e3e3", checked := Yba.checked }
namespace Rows
def none {H : Type} : Left H := { results := [], args := [] }

/-- 'vectorcast.LawS1902ACounts': WHATEVER THE INPUT: true; the input reads as it did. -/
def lawS1902ACountsSpec : ChangeSpec := { name := "lawS1902ACounts", fn := fun _ => fun
  | [d1, d2, d3, d4] => { results := [.lit (.bool true)], args := [d1, d2, d3, d4] }
  | _ => none }
def lawS1902ACountsRow : OpenClaim := { program := "ybulkamje", sum := "13e2811b0ceeb9dc4287e043b04964b1727de6d5f184d16d0e1f44ff9849e3e3", func := "example.com/vectorcast/vectorcast.LawS1902ACounts", spec := "lawS1902ACounts", inPlace := ["slices.overlaps[string]"], unfollowed := true, recurses := true, plainKeys := false, apart := false }
def LawS1902ACountsSaid : Prop := lawS1902ACountsRow.holds Yba.pinned (OpenSpec.ofChange lawS1902ACountsSpec)

/-- ITS FALSE NEIGHBOUR: 'it returns false'. Refute it at one input. -/
def lawS1902ACountsWrong : ChangeSpec := { name := "lawS1902ACounts", fn := fun _ => fun
  | [d1, d2, d3, d4] => { results := [.lit (.bool false)], args := [d1, d2, d3, d4] }
  | _ => none }
def LawS1902ACountsWrongFalsely : Prop := lawS1902ACountsRow.holds Yba.pinned (OpenSpec.ofChange lawS1902ACountsWrong)

/-- 'vectorcast.LawS1902AAllAcked': WHATEVER THE INPUT: true; the input reads as it did. -/
def lawS1902AAllAckedSpec : ChangeSpec := { name := "lawS1902AAllAcked", fn := fun _ => fun
  | [d1, d2, d3, d4] => { results := [.lit (.bool true)], args := [d1, d2, d3, d4] }
  | _ => none }
def lawS1902AAllAckedRow : OpenClaim := { program := "ybulkamje", sum := "13e2811b0ceeb9dc4287e043b04964b1727de6d5f184d16d0e1f44ff9849e3e3", func := "example.com/vectorcast/vectorcast.LawS1902AAllAcked", spec := "lawS1902AAllAcked", inPlace := ["slices.overlaps[string]"], unfollowed := true, recurses := true, plainKeys := false, apart := false }
def LawS1902AAllAckedSaid : Prop := lawS1902AAllAckedRow.holds Yba.pinned (OpenSpec.ofChange lawS1902AAllAckedSpec)

/-- ITS FALSE NEIGHBOUR: 'it returns false'. Refute it at one input. -/
def lawS1902AAllAckedWrong : ChangeSpec := { name := "lawS1902AAllAcked", fn := fun _ => fun
  | [d1, d2, d3, d4] => { results := [.lit (.bool false)], args := [d1, d2, d3, d4] }
  | _ => none }
def LawS1902AAllAckedWrongFalsely : Prop := lawS1902AAllAckedRow.holds Yba.pinned (OpenSpec.ofChange lawS1902AAllAckedWrong)

/-- 'vectorcast.LawS1902CModel': WHATEVER THE INPUT: true; the input reads as it did. -/
def lawS1902CModelSpec : ChangeSpec := { name := "lawS1902CModel", fn := fun _ => fun
  | [d1, d2, d3, d4, d5, d6, d7, d8] => { results := [.lit (.bool true)], args := [d1, d2, d3, d4, d5, d6, d7, d8] }
  | _ => none }
def lawS1902CModelRow : OpenClaim := { program := "ybulkamje", sum := "13e2811b0ceeb9dc4287e043b04964b1727de6d5f184d16d0e1f44ff9849e3e3", func := "example.com/vectorcast/vectorcast.LawS1902CModel", spec := "lawS1902CModel", inPlace := ["internal/bytealg.abigen_runtime_cmpstring"], plainKeys := false, apart := false }
def LawS1902CModelSaid : Prop := lawS1902CModelRow.holds Yba.pinned (OpenSpec.ofChange lawS1902CModelSpec)

/-- ITS FALSE NEIGHBOUR: 'it returns false'. Refute it at one input. -/
def lawS1902CModelWrong : ChangeSpec := { name := "lawS1902CModel", fn := fun _ => fun
  | [d1, d2, d3, d4, d5, d6, d7, d8] => { results := [.lit (.bool false)], args := [d1, d2, d3, d4, d5, d6, d7, d8] }
  | _ => none }
def LawS1902CModelWrongFalsely : Prop := lawS1902CModelRow.holds Yba.pinned (OpenSpec.ofChange lawS1902CModelWrong)

/-- 'vectorcast.LawS1902CPrefix': WHATEVER THE INPUT: true; the input reads as it did. -/
def lawS1902CPrefixSpec : ChangeSpec := { name := "lawS1902CPrefix", fn := fun _ => fun
  | [d1, d2, d3, d4, d5, d6] => { results := [.lit (.bool true)], args := [d1, d2, d3, d4, d5, d6] }
  | _ => none }
def lawS1902CPrefixRow : OpenClaim := { program := "ybulkamje", sum := "13e2811b0ceeb9dc4287e043b04964b1727de6d5f184d16d0e1f44ff9849e3e3", func := "example.com/vectorcast/vectorcast.LawS1902CPrefix", spec := "lawS1902CPrefix", inPlace := ["internal/bytealg.abigen_runtime_cmpstring"], plainKeys := false, apart := false }
def LawS1902CPrefixSaid : Prop := lawS1902CPrefixRow.holds Yba.pinned (OpenSpec.ofChange lawS1902CPrefixSpec)

/-- ITS FALSE NEIGHBOUR: 'it returns false'. Refute it at one input. -/
def lawS1902CPrefixWrong : ChangeSpec := { name := "lawS1902CPrefix", fn := fun _ => fun
  | [d1, d2, d3, d4, d5, d6] => { results := [.lit (.bool false)], args := [d1, d2, d3, d4, d5, d6] }
  | _ => none }
def LawS1902CPrefixWrongFalsely : Prop := lawS1902CPrefixRow.holds Yba.pinned (OpenSpec.ofChange lawS1902CPrefixWrong)

end Rows
end Go.Proofs.Ybulkamje
