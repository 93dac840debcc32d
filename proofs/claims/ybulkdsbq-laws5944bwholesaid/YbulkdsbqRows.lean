/-
  No cell of these rows narrows 'for every input' (looked for: loops, veiled, ifaces, maps, wideKeys, modest, calm, conditions, laid).
  DERIVED. THE GIVEN ROWS OF THIS SEAT. 2 by the template 'for every input the law returns true; each argument reads behind the call as it read before'; 0 by the template 'total and deterministic' (their statements: YbulkdsbqTotals.lean).
  GIVEN WITH THE SEED: the statements are not yours to turn. If you find one false, say at which input.
  Laid BY PROGRAM, IN A SANDBOX (cutbox-rows.mjs): the forced cells as the released guide's own fill.sh prints them over the translation 849cf1e252786674… (all of the seat's roots in one cut). By AI agents, Wed Nov 11 2026. No macro, syntax, notation, axiom, sorry.
-/
import Derived.Test.YbulkdsbqChecked
import GoSem.Claim
import GoSem.ClaimJoined
import GoSem.ClaimMapViews
import Derived.JoinedTies
import Derived.KernelRfl
namespace Go.Proofs.Ybulkdsbq
/- THE CELL 'sum', in the pinned program and in every row, IS THE sha256 OF THE DUMP (.gsa) THAT YbulkdsbqProg.lean LOADS. Nothing in Lean hashes anything: it is a label: what it is worth is what the hold of that sum in a sandbox is worth. -/
noncomputable def Yba.pinned : Pinned := { name := "ybulkdsbq", sum := "849cf1e252786674f746975f109128b2158eec7dd6362b4194d3d533d05094a5", checked := Yba.checked }
namespace Rows
def none {H : Type} : Left H := { results := [], args := [] }

/-- 'cure.LawS5944BWhole': WHATEVER THE INPUT: true; the input reads as it did. -/
def lawS5944BWholeSpec : ChangeSpec := { name := "lawS5944BWhole", fn := fun _ => fun
  | [d] => { results := [.lit (.bool true)], args := [d] }
  | _ => none }
def lawS5944BWholeRow : OpenClaim := { program := "ybulkdsbq", sum := "849cf1e252786674f746975f109128b2158eec7dd6362b4194d3d533d05094a5", func := "example.com/tuoguan/tuoguan/cure.LawS5944BWhole", spec := "lawS5944BWhole", apart := false }
def LawS5944BWholeSaid : Prop := lawS5944BWholeRow.holds Yba.pinned (OpenSpec.ofChange lawS5944BWholeSpec)

/-- ITS FALSE NEIGHBOUR: 'it returns false'. Refute it at one input. -/
def lawS5944BWholeWrong : ChangeSpec := { name := "lawS5944BWhole", fn := fun _ => fun
  | [d] => { results := [.lit (.bool false)], args := [d] }
  | _ => none }
def LawS5944BWholeWrongFalsely : Prop := lawS5944BWholeRow.holds Yba.pinned (OpenSpec.ofChange lawS5944BWholeWrong)

/-- 'reconcile.LawS5944CWhole': WHATEVER THE INPUT: true; the input reads as it did. -/
def lawS5944CWholeSpec : ChangeSpec := { name := "lawS5944CWhole", fn := fun _ => fun
  | [d1, d2] => { results := [.lit (.bool true)], args := [d1, d2] }
  | _ => none }
def lawS5944CWholeRow : OpenClaim := { program := "ybulkdsbq", sum := "849cf1e252786674f746975f109128b2158eec7dd6362b4194d3d533d05094a5", func := "example.com/tuoguan/tuoguan/reconcile.LawS5944CWhole", spec := "lawS5944CWhole", apart := false }
def LawS5944CWholeSaid : Prop := lawS5944CWholeRow.holds Yba.pinned (OpenSpec.ofChange lawS5944CWholeSpec)

/-- ITS FALSE NEIGHBOUR: 'it returns false'. Refute it at one input. -/
def lawS5944CWholeWrong : ChangeSpec := { name := "lawS5944CWhole", fn := fun _ => fun
  | [d1, d2] => { results := [.lit (.bool false)], args := [d1, d2] }
  | _ => none }
def LawS5944CWholeWrongFalsely : Prop := lawS5944CWholeRow.holds Yba.pinned (OpenSpec.ofChange lawS5944CWholeWrong)

end Rows
end Go.Proofs.Ybulkdsbq
