import Derived.Test.Qxb6617422aDoorFrame
import Derived.Test.Qxb6617422aDoorLaw3
import Derived.Test.Qxb6617422aDoorTie
import Derived.Test.Qxb6617422aDoorCards
import Derived.SevenTiedAt
namespace Go.Proofs.Qxb6617422aDoor
open Go
namespace Pd

/-- THE ROW. -/
theorem reads_row : Rows.FnOwnPIDReadsLastPartHexSaid := row3 walk3

/-- THE TIED CARD. -/
theorem reads_card : Rows.FnOwnPIDReadsLastPartHexCardSaid :=
  Claim7.holds_tied_plain_at .later [] [.data, .data, .data, .called, .called] true Rows.fnOwnPIDReadsLastPartHexCard.stood.harness true
    reads_row (fun _ h => by cases h) (by kernel_rfl) (fun _ h => by cases h) fnOwnPIDReadsLastPartHex_row_tie rfl ⟨rfl, rfl⟩ (by kernel_rfl) rfl
    (fun f fn hf hfn => by
      obtain rfl : f = 3 := Option.some.inj ((show Tryd.prog.funcNamed Rows.fnOwnPIDReadsLastPartHexRow.func = some 3 by kernel_rfl).symm.trans hf) |>.symm
      obtain rfl : fn = Tryd.f3 := (Option.some.inj (Tryd.func3.symm.trans hfn)).symm
      exact ⟨by kernel_rfl, fun j t ht => by
        rw [Tryd.params3] at ht
        have hm : t ∈ [9, 9] := by simpa using Array.mem_of_getElem? ht
        have hall : ([9, 9].all fun u => !Tryd.prog.wantsStandIn u) = true := by kernel_rfl
        exact (show Tryd.prog.wantsStandIn t = false by simpa using List.all_eq_true.1 hall t hm)⟩)
    (by kernel_rfl)
#print axioms reads_card
end Pd
end Go.Proofs.Qxb6617422aDoor
