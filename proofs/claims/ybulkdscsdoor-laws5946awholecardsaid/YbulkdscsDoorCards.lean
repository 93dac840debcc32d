/-
  DERIVED. GIVEN WITH THE SEED: THE CARDS: each row of YbulkdscsDoorRows.lean that lists a variable, with what it lists TIED to the program's text (the seventh form; the later family's looks); each row that meets fmt, with fmt's text TOLD by the authors' own Lean function (tested against real Go, not proved from fmt's source: count such statements apart). THE CARD IS WHAT COUNTS. Prove the row's statement (the work); the ties are given (YbulkdscsDoorTie.lean); close each card by the builder's one call (the guide's Derived/Test/ToyasCard.lean, 'card_holds'). Laid BY PROGRAM, IN A SANDBOX (cutbox-door.mjs). By AI agents, Wed Nov 11 2026. No macro, syntax, notation, axiom, sorry.
-/
import Derived.Test.YbulkdscsDoorRows
import GoSem.ClaimSeven
namespace Go.Proofs.YbulkdscsDoor
namespace Rows

/-- THE TIED CARD OF 'chord.LawS5946AWhole'. -/
def lawS5946AWholeCard : Claim7 := { stood := { row := lawS5946AWholeRow, standIns := [], harness := (true, "2b9003a4118aeac061d12e3f97846b1cf818e26acd88b2bb2f2f00b979c4cb8f"), looks := true }, kinds := [], alts := [], laidByText := true, laidKinds := [.called], laidTests := true, laidLooks := .later }
def LawS5946AWholeCardSaid : Prop := Claim7.holds Ybad.pinned (.plain (OpenSpec.ofChange lawS5946AWholeSpec)) lawS5946AWholeCard
end Rows
end Go.Proofs.YbulkdscsDoor
