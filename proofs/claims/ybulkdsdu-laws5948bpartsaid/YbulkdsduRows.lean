/-
  No cell of these rows narrows 'for every input' (looked for: loops, veiled, ifaces, maps, wideKeys, modest, calm, conditions, laid).
  DERIVED. THE GIVEN ROWS OF THIS SEAT. 1 by the template 'for every input the law returns true; each argument reads behind the call as it read before'; 0 by the template 'total and deterministic' (their statements: YbulkdsduTotals.lean).
  GIVEN WITH THE SEED: the statements are not yours to turn. If you find one false, say at which input.
  Laid BY PROGRAM, IN A SANDBOX (cutbox-rows.mjs): the forced cells as the released guide's own fill.sh prints them over the translation 16eda79bdeb01822… (all of the seat's roots in one cut). By AI agents, Wed Nov 11 2026. No macro, syntax, notation, axiom, sorry.
-/
import Derived.Test.YbulkdsduChecked
import GoSem.Claim
import GoSem.ClaimJoined
import GoSem.ClaimMapViews
import Derived.JoinedTies
import Derived.KernelRfl
namespace Go.Proofs.Ybulkdsdu
/- THE CELL 'sum', in the pinned program and in every row, IS THE sha256 OF THE DUMP (.gsa) THAT YbulkdsduProg.lean LOADS. Nothing in Lean hashes anything: it is a label: what it is worth is what the hold of that sum in a sandbox is worth. -/
noncomputable def Yba.pinned : Pinned := { name := "ybulkdsdu", sum := "16eda79bdeb01822076d47db4f75bef5416cc7c9b679a685f377d1ed4e6fe029", checked := Yba.checked }
namespace Rows
def none {H : Type} : Left H := { results := [], args := [] }

/-- 'store.LawS5948BPart': WHATEVER THE INPUT: true; the input reads as it did. -/
def lawS5948BPartSpec : ChangeSpec := { name := "lawS5948BPart", fn := fun _ => fun
  | [] => { results := [.lit (.bool true)], args := [] }
  | _ => none }
def lawS5948BPartRow : OpenClaim := { program := "ybulkdsdu", sum := "16eda79bdeb01822076d47db4f75bef5416cc7c9b679a685f377d1ed4e6fe029", func := "example.com/entrain/entrain/internal/store.LawS5948BPart", spec := "lawS5948BPart", inPlace := ["(*sync.RWMutex).RLock", "internal/race.Read", "internal/race.Disable", "sync/atomic.AddInt32", "sync.runtime_SemacquireRWMutexR", "internal/race.Enable", "internal/race.Acquire", "(*sync.RWMutex).RUnlock", "internal/race.ReleaseMerge", "(*sync.RWMutex).rUnlockSlow", "sync.fatal", "sync.runtime_Semrelease", "(*sync.RWMutex).TryLock", "(*internal/sync.Mutex).TryLock", "sync/atomic.CompareAndSwapInt32", "(*internal/sync.Mutex).Unlock", "(*internal/sync.Mutex).unlockSlow", "internal/sync.fatal", "internal/sync.runtime_Semrelease", "(*sync.RWMutex).Unlock", "internal/race.Release"], unfollowed := true, recurses := true, plainKeys := false, apart := false }
def LawS5948BPartSaid : Prop := lawS5948BPartRow.holds Yba.pinned (OpenSpec.ofChange lawS5948BPartSpec)

/-- ITS FALSE NEIGHBOUR: 'it returns false'. Refute it at one input. -/
def lawS5948BPartWrong : ChangeSpec := { name := "lawS5948BPart", fn := fun _ => fun
  | [] => { results := [.lit (.bool false)], args := [] }
  | _ => none }
def LawS5948BPartWrongFalsely : Prop := lawS5948BPartRow.holds Yba.pinned (OpenSpec.ofChange lawS5948BPartWrong)

end Rows
end Go.Proofs.Ybulkdsdu
