/-
  No cell of these rows narrows 'for every input' (looked for: loops, veiled, ifaces, maps, wideKeys, modest, calm, conditions, laid).
  DERIVED. THE GIVEN ROWS OF THIS SEAT. 1 by the template 'for every input the law returns true; each argument reads behind the call as it read before'; 0 by the template 'total and deterministic' (their statements: YbulkdnfqTotals.lean).
  GIVEN WITH THE SEED: the statements are not yours to turn. If you find one false, say at which input.
  Laid BY PROGRAM, IN A SANDBOX (cutbox-rows.mjs): the forced cells as the released guide's own fill.sh prints them over the translation 4bedccc3dfa2b095… (all of the seat's roots in one cut). By AI agents, Wed Nov 11 2026. No macro, syntax, notation, axiom, sorry.
-/
import Derived.Test.YbulkdnfqChecked
import GoSem.Claim
import GoSem.ClaimJoined
import GoSem.ClaimMapViews
import Derived.JoinedTies
import Derived.KernelRfl
namespace Go.Proofs.Ybulkdnfq
/- THE CELL 'sum', in the pinned program and in every row, IS THE sha256 OF THE DUMP (.gsa) THAT YbulkdnfqProg.lean LOADS. Nothing in Lean hashes anything: it is a label: what it is worth is what the hold of that sum in a sandbox is worth. -/
noncomputable def Yba.pinned : Pinned := { name := "ybulkdnfq", sum := "4bedccc3dfa2b0955795ff989dcf84a29f069477b314d130e1de7475835400ec", checked := Yba.checked }
namespace Rows
def none {H : Type} : Left H := { results := [], args := [] }

/-- 'shape.LawS5710CWhole': WHATEVER THE INPUT: true; the input reads as it did. -/
def lawS5710CWholeSpec : ChangeSpec := { name := "lawS5710CWhole", fn := fun _ => fun
  | [d1, d2, d3, d4] => { results := [.lit (.bool true)], args := [d1, d2, d3, d4] }
  | _ => none }
def lawS5710CWholeRow : OpenClaim := { program := "ybulkdnfq", sum := "4bedccc3dfa2b0955795ff989dcf84a29f069477b314d130e1de7475835400ec", func := "example.com/wirecall/wirecall/internal/shape.LawS5710CWhole", spec := "lawS5710CWhole", unfollowed := true, recurses := true, apart := false }
def LawS5710CWholeSaid : Prop := lawS5710CWholeRow.holds Yba.pinned (OpenSpec.ofChange lawS5710CWholeSpec)

/-- ITS FALSE NEIGHBOUR: 'it returns false'. Refute it at one input. -/
def lawS5710CWholeWrong : ChangeSpec := { name := "lawS5710CWhole", fn := fun _ => fun
  | [d1, d2, d3, d4] => { results := [.lit (.bool false)], args := [d1, d2, d3, d4] }
  | _ => none }
def LawS5710CWholeWrongFalsely : Prop := lawS5710CWholeRow.holds Yba.pinned (OpenSpec.ofChange lawS5710CWholeWrong)

end Rows
end Go.Proofs.Ybulkdnfq
