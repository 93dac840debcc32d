/-
  No cell of these rows narrows 'for every input' (looked for: loops, veiled, ifaces, maps, wideKeys, modest, calm, conditions, laid).
  DERIVED. THE GIVEN ROWS OF THIS SEAT. 1 by the template 'for every input the law returns true; each argument reads behind the call as it read before'; 0 by the template 'total and deterministic' (their statements: YbulkdsceTotals.lean).
  GIVEN WITH THE SEED: the statements are not yours to turn. If you find one false, say at which input.
  Laid BY PROGRAM, IN A SANDBOX (cutbox-rows.mjs): the forced cells as the released guide's own fill.sh prints them over the translation de2af0498eaa8d05… (all of the seat's roots in one cut). By AI agents, Wed Nov 11 2026. No macro, syntax, notation, axiom, sorry.
-/
import Derived.Test.YbulkdsceChecked
import GoSem.Claim
import GoSem.ClaimJoined
import GoSem.ClaimMapViews
import Derived.JoinedTies
import Derived.KernelRfl
namespace Go.Proofs.Ybulkdsce
/- THE CELL 'sum', in the pinned program and in every row, IS THE sha256 OF THE DUMP (.gsa) THAT YbulkdsceProg.lean LOADS. Nothing in Lean hashes anything: it is a label: what it is worth is what the hold of that sum in a sandbox is worth. -/
noncomputable def Yba.pinned : Pinned := { name := "ybulkdsce", sum := "de2af0498eaa8d0583d4e7de1583dbbbdf8709378b0f2fdad8e1414dfcd68a38", checked := Yba.checked }
namespace Rows
def none {H : Type} : Left H := { results := [], args := [] }

/-- 'swarmgossip.LawS5945CWhole': WHATEVER THE INPUT: true; the input reads as it did. -/
def lawS5945CWholeSpec : ChangeSpec := { name := "lawS5945CWhole", fn := fun _ => fun
  | [d1, d2, d3, d4] => { results := [.lit (.bool true)], args := [d1, d2, d3, d4] }
  | _ => none }
def lawS5945CWholeRow : OpenClaim := { program := "ybulkdsce", sum := "de2af0498eaa8d0583d4e7de1583dbbbdf8709378b0f2fdad8e1414dfcd68a38", func := "example.com/swarmgossip/swarmgossip.LawS5945CWhole", spec := "lawS5945CWhole", apart := false }
def LawS5945CWholeSaid : Prop := lawS5945CWholeRow.holds Yba.pinned (OpenSpec.ofChange lawS5945CWholeSpec)

/-- ITS FALSE NEIGHBOUR: 'it returns false'. Refute it at one input. -/
def lawS5945CWholeWrong : ChangeSpec := { name := "lawS5945CWhole", fn := fun _ => fun
  | [d1, d2, d3, d4] => { results := [.lit (.bool false)], args := [d1, d2, d3, d4] }
  | _ => none }
def LawS5945CWholeWrongFalsely : Prop := lawS5945CWholeRow.holds Yba.pinned (OpenSpec.ofChange lawS5945CWholeWrong)

end Rows
end Go.Proofs.Ybulkdsce
