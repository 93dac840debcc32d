/-
  NARROWER THAN 'FOR EVERY INPUT', by the rows' own cells (each row's printed sentence says how): LawS5946AWhole: laid.
  DERIVED. THE GIVEN ROWS OF THIS SEAT. 1 by the template 'for every input the law returns true; each argument reads behind the call as it read before'; 0 by the template 'total and deterministic' (their statements: YbulkdscsDoorTotals.lean).
  GIVEN WITH THE SEED: the statements are not yours to turn. If you find one false, say at which input.
  Laid BY PROGRAM, IN A SANDBOX (cutbox-rows.mjs): the forced cells as the released guide's own fill.sh prints them over the translation 8a501d7d0d8a1efa… (all of the seat's roots in one cut). By AI agents, Wed Nov 11 2026. No macro, syntax, notation, axiom, sorry.
-/
import Derived.Test.YbulkdscsDoorChecked
import GoSem.Claim
import GoSem.ClaimJoined
import GoSem.ClaimMapViews
import Derived.JoinedTies
import Derived.KernelRfl
namespace Go.Proofs.YbulkdscsDoor
/- THE CELL 'sum', in the pinned program and in every row, IS THE sha256 OF THE DUMP (.gsa) THAT YbulkdscsDoorProg.lean LOADS. Nothing in Lean hashes anything: it is a label: what it is worth is what the hold of that sum in a sandbox is worth. -/
noncomputable def Ybad.pinned : Pinned := { name := "ybulkdscsdoor", sum := "8a501d7d0d8a1efa9fa5c4a0897b5e15391b37b5b9e9cf9ba04a848569230116", checked := Ybad.checked }
namespace Rows
def none {H : Type} : Left H := { results := [], args := [] }

/- WHAT THE LISTED PACKAGE-LEVEL VARIABLES READ AS WHEN THE CALL BEGINS. Each datum BY PROGRAM (the guide's laid-datum.mjs) off the statement by which the dump's own 'gosem.cut.vars' lays the variable. In a bare row this is a premise. The card (YbulkdscsDoorCards.lean) ties it to the program's text. -/
def laid_net_netip_z4 {H : Type} : DataW H := .agg [.ptr (.agg [.lit (.bool false), .lit (.string [])])]

/-- 'chord.LawS5946AWhole': WHATEVER THE INPUT: true; the input reads as it did. -/
def lawS5946AWholeSpec : ChangeSpec := { name := "lawS5946AWhole", fn := fun _ => fun
  | [d1, d2, d3, d4, d5, d6, d7, d8, d9, d10, d11, d12] => { results := [.lit (.bool true)], args := [d1, d2, d3, d4, d5, d6, d7, d8, d9, d10, d11, d12] }
  | _ => none }
def lawS5946AWholeRow : OpenClaim := { program := "ybulkdscsdoor", sum := "8a501d7d0d8a1efa9fa5c4a0897b5e15391b37b5b9e9cf9ba04a848569230116", func := "example.com/circlet/circlet/internal/chord.LawS5946AWhole", spec := "lawS5946AWhole", unfollowed := true, recurses := true, named := ["net/netip.z4"], plainKeys := false, apart := false, laid := [("net/netip.z4", laid_net_netip_z4)] }
def LawS5946AWholeSaid : Prop := lawS5946AWholeRow.holds Ybad.pinned (OpenSpec.ofChange lawS5946AWholeSpec)

/-- ITS FALSE NEIGHBOUR: 'it returns false'. Refute it at one input. -/
def lawS5946AWholeWrong : ChangeSpec := { name := "lawS5946AWhole", fn := fun _ => fun
  | [d1, d2, d3, d4, d5, d6, d7, d8, d9, d10, d11, d12] => { results := [.lit (.bool false)], args := [d1, d2, d3, d4, d5, d6, d7, d8, d9, d10, d11, d12] }
  | _ => none }
def LawS5946AWholeWrongFalsely : Prop := lawS5946AWholeRow.holds Ybad.pinned (OpenSpec.ofChange lawS5946AWholeWrong)

end Rows
end Go.Proofs.YbulkdscsDoor
