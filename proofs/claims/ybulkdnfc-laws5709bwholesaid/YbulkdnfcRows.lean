/-
  No cell of these rows narrows 'for every input' (looked for: loops, veiled, ifaces, maps, wideKeys, modest, calm, conditions, laid).
  DERIVED. THE GIVEN ROWS OF THIS SEAT. 1 by the template 'for every input the law returns true; each argument reads behind the call as it read before'; 0 by the template 'total and deterministic' (their statements: YbulkdnfcTotals.lean).
  GIVEN WITH THE SEED: the statements are not yours to turn. If you find one false, say at which input.
  Laid BY PROGRAM, IN A SANDBOX (cutbox-rows.mjs): the forced cells as the released guide's own fill.sh prints them over the translation a95975fd360d7112… (all of the seat's roots in one cut). By AI agents, Wed Nov 11 2026. No macro, syntax, notation, axiom, sorry.
-/
import Derived.Test.YbulkdnfcChecked
import GoSem.Claim
import GoSem.ClaimJoined
import GoSem.ClaimMapViews
import Derived.JoinedTies
import Derived.KernelRfl
namespace Go.Proofs.Ybulkdnfc
/- THE CELL 'sum', in the pinned program and in every row, IS THE sha256 OF THE DUMP (.gsa) THAT YbulkdnfcProg.lean LOADS. Nothing in Lean hashes anything: it is a label: what it is worth is what the hold of that sum in a sandbox is worth. -/
noncomputable def Yba.pinned : Pinned := { name := "ybulkdnfc", sum := "a95975fd360d7112e3213d04f70c4a8643ebdd800b6ba011dcd5d1c661a3b5ac", checked := Yba.checked }
namespace Rows
def none {H : Type} : Left H := { results := [], args := [] }

/-- 'horologe.LawS5709BWhole': WHATEVER THE INPUT: true; the input reads as it did. -/
def lawS5709BWholeSpec : ChangeSpec := { name := "lawS5709BWhole", fn := fun _ => fun
  | [d1, d2, d3] => { results := [.lit (.bool true)], args := [d1, d2, d3] }
  | _ => none }
def lawS5709BWholeRow : OpenClaim := { program := "ybulkdnfc", sum := "a95975fd360d7112e3213d04f70c4a8643ebdd800b6ba011dcd5d1c661a3b5ac", func := "example.com/horologe/horologe.LawS5709BWhole", spec := "lawS5709BWhole", unfollowed := true, recurses := true, apart := false }
def LawS5709BWholeSaid : Prop := lawS5709BWholeRow.holds Yba.pinned (OpenSpec.ofChange lawS5709BWholeSpec)

/-- ITS FALSE NEIGHBOUR: 'it returns false'. Refute it at one input. -/
def lawS5709BWholeWrong : ChangeSpec := { name := "lawS5709BWhole", fn := fun _ => fun
  | [d1, d2, d3] => { results := [.lit (.bool false)], args := [d1, d2, d3] }
  | _ => none }
def LawS5709BWholeWrongFalsely : Prop := lawS5709BWholeRow.holds Yba.pinned (OpenSpec.ofChange lawS5709BWholeWrong)

end Rows
end Go.Proofs.Ybulkdnfc
