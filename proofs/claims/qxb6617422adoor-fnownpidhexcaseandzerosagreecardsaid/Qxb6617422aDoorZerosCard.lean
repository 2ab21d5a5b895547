import Derived.Test.Qxb6617422aDoorFrame
import Derived.Test.Qxb6617422aDoorLaw4
import Derived.Test.Qxb6617422aDoorTie
import Derived.Test.Qxb6617422aDoorCards
import Derived.SevenTiedAt
namespace Go.Proofs.Qxb6617422aDoor
open Go
namespace Pd

/-- THE ROW. -/
theorem zeros_row : Rows.FnOwnPIDHexCaseAndZerosAgreeSaid := row4 walk4

/-- THE TIED CARD. -/
theorem zeros_card : Rows.FnOwnPIDHexCaseAndZerosAgreeCardSaid :=
  Claim7.holds_tied_plain_at .later [] [.data, .data, .data, .called, .called] true Rows.fnOwnPIDHexCaseAndZerosAgreeCard.stood.harness true
    zeros_row (fun _ h => by cases h) (by kernel_rfl) (fun _ h => by cases h) fnOwnPIDHexCaseAndZerosAgree_row_tie rfl ⟨rfl, rfl⟩ (by kernel_rfl) rfl
    (fun f fn hf hfn => by
      obtain rfl : f = 4 := Option.some.inj ((show Tryd.prog.funcNamed Rows.fnOwnPIDHexCaseAndZerosAgreeRow.func = some 4 by kernel_rfl).symm.trans hf) |>.symm
      obtain rfl : fn = Tryd.f4 := (Option.some.inj (Tryd.func4.symm.trans hfn)).symm
      exact ⟨by kernel_rfl, fun j t ht => by
        rw [Tryd.params4] at ht
        have hm : t ∈ [9, 25, 3] := by simpa using Array.mem_of_getElem? ht
        have hall : ([9, 25, 3].all fun u => !Tryd.prog.wantsStandIn u) = true := by kernel_rfl
        exact (show Tryd.prog.wantsStandIn t = false by simpa using List.all_eq_true.1 hall t hm)⟩)
    (by kernel_rfl)
#print axioms zeros_card
end Pd
end Go.Proofs.Qxb6617422aDoor
