/- The tied card of ledger.LawS4008AExact. -/
import Derived.Test.YbulkcdzeDoorExact
import Derived.Test.YbulkcdzeDoorTie
import Derived.Test.YbulkcdzeDoorCards
import Derived.SevenTiedAt
namespace Go.Proofs.YbulkcdzeDoor
open Go

theorem exact_card : Rows.LawS4008AExactCardSaid :=
  Claim7.holds_tied_plain_at .later [] [.data] true Rows.lawS4008AExactCard.stood.harness false
    exact_holds (fun _ h => by cases h) (by kernel_rfl) (fun _ h => by cases h) lawS4008AExact_row_tie rfl ⟨rfl, rfl⟩ (by kernel_rfl) rfl
    (fun f fn hf hfn => by
      obtain rfl : f = 3 := Option.some.inj ((show Ybad.prog.funcNamed Rows.lawS4008AExactRow.func = some 3 by kernel_rfl).symm.trans hf) |>.symm
      obtain rfl : fn = Ybad.f3 := (Option.some.inj (Ybad.func3.symm.trans hfn)).symm
      exact ⟨by kernel_rfl, fun j t ht => by
        rw [Ybad.params3] at ht
        have hm : t ∈ [5, 9] := by simpa using Array.mem_of_getElem? ht
        have hall : ([5, 9].all fun u => !Ybad.prog.wantsStandIn u) = true := by kernel_rfl
        exact (show Ybad.prog.wantsStandIn t = false by simpa using List.all_eq_true.1 hall t hm)⟩)
    (by kernel_rfl)
#print axioms exact_card
end Go.Proofs.YbulkcdzeDoor
