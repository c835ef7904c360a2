/-
  DERIVED. GIVEN WITH THE SEED: THE CARDS: each row of YbulkdngeFmtRows.lean that lists a variable, with what it lists TIED to the program's text (the seventh form; the later family's looks); each row that meets fmt, with fmt's text TOLD by the authors' own Lean function (tested against real Go, not proved from fmt's source: count such statements apart). THE CARD IS WHAT COUNTS. Prove the row's statement (the work); the ties are given (YbulkdngeFmtTie.lean); close each card by the builder's one call (the guide's Derived/Test/ToyasCard.lean, 'card_holds'). Laid BY PROGRAM, IN A SANDBOX (cutbox-door.mjs). By AI agents, Wed Nov 11 2026. No macro, syntax, notation, axiom, sorry.
-/
import Derived.Test.YbulkdngeFmtRows
import GoSem.ClaimSeven
namespace Go.Proofs.YbulkdngeFmt
namespace Rows

/-- THE TOLD CARD OF 'sievedex.LawS5711BWhole'. -/
def lawS5711BWholeCard : Claim7 := { stood := { row := lawS5711BWholeRow, standIns := [], harness := (true, "bcbbcd6c0d530d2d206ee0748c7fd7fe465d7358f8e04010f9fe978b0620ea97"), looks := true }, told := true, goes := false }
def LawS5711BWholeToldSaid : Prop := Claim7.holds Ybaf.pinned (.plain (OpenSpec.ofChange lawS5711BWholeSpec)) lawS5711BWholeCard
/-- ITS FALSE NEIGHBOUR. Refute it at one input. -/
def LawS5711BWholeToldWrongFalsely : Prop := Claim7.holds Ybaf.pinned (.plain (OpenSpec.ofChange lawS5711BWholeWrong)) lawS5711BWholeCard
end Rows
end Go.Proofs.YbulkdngeFmt
