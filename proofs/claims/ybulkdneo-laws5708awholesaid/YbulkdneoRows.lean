/-
  No cell of these rows narrows 'for every input' (looked for: loops, veiled, ifaces, maps, wideKeys, modest, calm, conditions, laid).
  DERIVED. THE GIVEN ROWS OF THIS SEAT. 2 by the template 'for every input the law returns true; each argument reads behind the call as it read before'; 0 by the template 'total and deterministic' (their statements: YbulkdneoTotals.lean).
  GIVEN WITH THE SEED: the statements are not yours to turn. If you find one false, say at which input.
  Laid BY PROGRAM, IN A SANDBOX (cutbox-rows.mjs): the forced cells as the released guide's own fill.sh prints them over the translation 90182b0ba0d2ed80… (all of the seat's roots in one cut). By AI agents, Wed Nov 11 2026. No macro, syntax, notation, axiom, sorry.
-/
import Derived.Test.YbulkdneoChecked
import GoSem.Claim
import GoSem.ClaimJoined
import GoSem.ClaimMapViews
import Derived.JoinedTies
import Derived.KernelRfl
namespace Go.Proofs.Ybulkdneo
/- THE CELL 'sum', in the pinned program and in every row, IS THE sha256 OF THE DUMP (.gsa) THAT YbulkdneoProg.lean LOADS. Nothing in Lean hashes anything: it is a label: what it is worth is what the hold of that sum in a sandbox is worth. -/
noncomputable def Yba.pinned : Pinned := { name := "ybulkdneo", sum := "90182b0ba0d2ed80ddb1f025893eeddaa8cdbfd8ef40a4cf7dbd60e354e8c31e", checked := Yba.checked }
namespace Rows
def none {H : Type} : Left H := { results := [], args := [] }

/-- 'home.LawS5708AWhole': WHATEVER THE INPUT: true; the input reads as it did. -/
def lawS5708AWholeSpec : ChangeSpec := { name := "lawS5708AWhole", fn := fun _ => fun
  | [d1, d2, d3, d4, d5] => { results := [.lit (.bool true)], args := [d1, d2, d3, d4, d5] }
  | _ => none }
def lawS5708AWholeRow : OpenClaim := { program := "ybulkdneo", sum := "90182b0ba0d2ed80ddb1f025893eeddaa8cdbfd8ef40a4cf7dbd60e354e8c31e", func := "example.com/hushgear/hushgear/internal/home.LawS5708AWhole", spec := "lawS5708AWhole", apart := false }
def LawS5708AWholeSaid : Prop := lawS5708AWholeRow.holds Yba.pinned (OpenSpec.ofChange lawS5708AWholeSpec)

/-- ITS FALSE NEIGHBOUR: 'it returns false'. Refute it at one input. -/
def lawS5708AWholeWrong : ChangeSpec := { name := "lawS5708AWhole", fn := fun _ => fun
  | [d1, d2, d3, d4, d5] => { results := [.lit (.bool false)], args := [d1, d2, d3, d4, d5] }
  | _ => none }
def LawS5708AWholeWrongFalsely : Prop := lawS5708AWholeRow.holds Yba.pinned (OpenSpec.ofChange lawS5708AWholeWrong)

/-- 'home.LawS5708CWhole': WHATEVER THE INPUT: true; the input reads as it did. -/
def lawS5708CWholeSpec : ChangeSpec := { name := "lawS5708CWhole", fn := fun _ => fun
  | [d1, d2, d3, d4] => { results := [.lit (.bool true)], args := [d1, d2, d3, d4] }
  | _ => none }
def lawS5708CWholeRow : OpenClaim := { program := "ybulkdneo", sum := "90182b0ba0d2ed80ddb1f025893eeddaa8cdbfd8ef40a4cf7dbd60e354e8c31e", func := "example.com/hushgear/hushgear/internal/home.LawS5708CWhole", spec := "lawS5708CWhole", apart := false }
def LawS5708CWholeSaid : Prop := lawS5708CWholeRow.holds Yba.pinned (OpenSpec.ofChange lawS5708CWholeSpec)

/-- ITS FALSE NEIGHBOUR: 'it returns false'. Refute it at one input. -/
def lawS5708CWholeWrong : ChangeSpec := { name := "lawS5708CWhole", fn := fun _ => fun
  | [d1, d2, d3, d4] => { results := [.lit (.bool false)], args := [d1, d2, d3, d4] }
  | _ => none }
def LawS5708CWholeWrongFalsely : Prop := lawS5708CWholeRow.holds Yba.pinned (OpenSpec.ofChange lawS5708CWholeWrong)

end Rows
end Go.Proofs.Ybulkdneo
