/-
  No cell of these rows narrows 'for every input' (looked for: loops, veiled, ifaces, maps, wideKeys, modest, calm, conditions, laid).
  DERIVED. THE GIVEN ROWS OF THIS SEAT. 1 by the template 'for every input the law returns true; each argument reads behind the call as it read before'; 0 by the template 'total and deterministic' (their statements: YbulkdngeFmtTotals.lean).
  GIVEN WITH THE SEED: the statements are not yours to turn. If you find one false, say at which input.
  Laid BY PROGRAM, IN A SANDBOX (cutbox-rows.mjs): the forced cells as the released guide's own fill.sh prints them over the translation 95abff9c249a4b9c… (all of the seat's roots in one cut). By AI agents, Wed Nov 11 2026. No macro, syntax, notation, axiom, sorry.
-/
import Derived.Test.YbulkdngeFmtChecked
import GoSem.Claim
import GoSem.ClaimJoined
import GoSem.ClaimMapViews
import Derived.JoinedTies
import Derived.KernelRfl
namespace Go.Proofs.YbulkdngeFmt
/- THE CELL 'sum', in the pinned program and in every row, IS THE sha256 OF THE DUMP (.gsa) THAT YbulkdngeFmtProg.lean LOADS. Nothing in Lean hashes anything: it is a label: what it is worth is what the hold of that sum in a sandbox is worth. -/
noncomputable def Ybaf.pinned : Pinned := { name := "ybulkdngefmt", sum := "95abff9c249a4b9cd72272311adb5a0ca40172ff18d8e9a0f9efe03f95f83700", checked := Ybaf.checked }
namespace Rows
def none {H : Type} : Left H := { results := [], args := [] }

/-- 'sievedex.LawS5711BWhole': WHATEVER THE INPUT: true; the input reads as it did. -/
def lawS5711BWholeSpec : ChangeSpec := { name := "lawS5711BWhole", fn := fun _ => fun
  | [d1, d2, d3, d4, d5] => { results := [.lit (.bool true)], args := [d1, d2, d3, d4, d5] }
  | _ => none }
def lawS5711BWholeRow : OpenClaim := { program := "ybulkdngefmt", sum := "95abff9c249a4b9cd72272311adb5a0ca40172ff18d8e9a0f9efe03f95f83700", func := "example.com/sievedex/sievedex.LawS5711BWhole", spec := "lawS5711BWhole", stops := ["fmt.errorf"], inPlace := ["fmt.errorf", "math.Float64bits", "internal/reflectlite.TypeOf"], unfollowed := true, recurses := true, named := ["encoding/binary.BigEndian"], apart := false }
/-- NO THEOREM (fmt's text is open here; it may be false): for the released tool's asking of the row's closed facts alone. THE STATEMENT IS 'LawS5711BWholeToldSaid' (YbulkdngeFmtCards.lean). -/
def LawS5711BWholeFormAsk : Prop := lawS5711BWholeRow.holds Ybaf.pinned (OpenSpec.ofChange lawS5711BWholeSpec)

/-- ITS FALSE NEIGHBOUR: 'it returns false'. Refute it at one input. -/
def lawS5711BWholeWrong : ChangeSpec := { name := "lawS5711BWhole", fn := fun _ => fun
  | [d1, d2, d3, d4, d5] => { results := [.lit (.bool false)], args := [d1, d2, d3, d4, d5] }
  | _ => none }
def LawS5711BWholeWrongFormAsk : Prop := lawS5711BWholeRow.holds Ybaf.pinned (OpenSpec.ofChange lawS5711BWholeWrong)

end Rows
end Go.Proofs.YbulkdngeFmt
