/-
  The tied card, out of the row and the given tie.
-/
import Derived.Test.YbulkdscsDoorLaw
import Derived.Test.YbulkdscsDoorTie
import Derived.Test.YbulkdscsDoorCards
import Derived.SevenTiedAt
namespace Go.Proofs.YbulkdscsDoor
open Go

theorem no_stand_in : ([22, 5, 23, 23, 24, 25, 26, 25, 26, 9, 27, 5].all fun t => !Ybad.prog.wantsStandIn t) = true := by kernel_rfl

theorem lawS5946AWholeCard_proved : Rows.LawS5946AWholeCardSaid :=
  Claim7.holds_tied_plain_at .later [] [.called] true (true, "2b9003a4118aeac061d12e3f97846b1cf818e26acd88b2bb2f2f00b979c4cb8f") true
    over (fun _ h => by cases h) (by kernel_rfl) (fun _ h => by cases h) lawS5946AWhole_row_tie rfl ⟨rfl, rfl⟩ (by kernel_rfl) rfl
    (fun f fn hf hfn => by
      obtain rfl : f = 3 := Option.some.inj ((show Ybad.prog.funcNamed "example.com/circlet/circlet/internal/chord.LawS5946AWhole" = some 3 by kernel_rfl).symm.trans hf) |>.symm
      obtain rfl : fn = Ybad.f3 := (Option.some.inj (Ybad.func3.symm.trans hfn)).symm
      exact ⟨by kernel_rfl, fun j t ht => by
        rw [Ybad.params3] at ht
        have hm : t ∈ [22, 5, 23, 23, 24, 25, 26, 25, 26, 9, 27, 5] := by
          have h1 : [22, 5, 23, 23, 24, 25, 26, 25, 26, 9, 27, 5][j]? = some t := by simpa using ht
          exact List.mem_of_getElem? h1
        have := List.all_eq_true.1 no_stand_in t hm
        exact (show Ybad.prog.wantsStandIn t = false by simpa using this)⟩)
    (by kernel_rfl)
end Go.Proofs.YbulkdscsDoor
