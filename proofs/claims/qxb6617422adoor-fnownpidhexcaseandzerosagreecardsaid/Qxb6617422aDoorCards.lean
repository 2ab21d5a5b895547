/-
  DERIVED. GIVEN WITH THE SEED: THE CARDS: each row of Qxb6617422aDoorRows.lean that lists a variable, with what it lists TIED to the program's text (the seventh form; the later family's looks); each row that meets fmt, with fmt's text TOLD by the authors' own Lean function (tested against real Go, not proved from fmt's source: count such statements apart). THE CARD IS WHAT COUNTS. Prove the row's statement (the work); the ties are given (Qxb6617422aDoorTie.lean); close each card by the builder's one call (the guide's Derived/Test/ToyasCard.lean, 'card_holds'). Laid BY PROGRAM, IN A SANDBOX (cutbox-door.mjs). By AI agents, Wed Nov 11 2026. No macro, syntax, notation, axiom, sorry.
-/
import Derived.Test.Qxb6617422aDoorRows
import GoSem.ClaimSeven
namespace Go.Proofs.Qxb6617422aDoor
namespace Rows

/-- THE TIED CARD OF 'zzlaws_spantree_b1.FnOwnPIDReadsLastPartHex'. -/
def fnOwnPIDReadsLastPartHexCard : Claim7 := { stood := { row := fnOwnPIDReadsLastPartHexRow, standIns := [], harness := (true, "bd28cf718ba65e98887c438dfa119ce26cc6744f23ec4e6c75a9ed831154f72d"), looks := true }, kinds := [], alts := [], laidByText := true, laidKinds := [.data, .data, .data, .called, .called], laidTests := true, laidLooks := .later }
def FnOwnPIDReadsLastPartHexCardSaid : Prop := Claim7.holds Tryd.pinned (.plain (OpenSpec.ofChange fnOwnPIDReadsLastPartHexSpec)) fnOwnPIDReadsLastPartHexCard

/-- THE TIED CARD OF 'zzlaws_spantree_b1.FnOwnPIDHexCaseAndZerosAgree'. -/
def fnOwnPIDHexCaseAndZerosAgreeCard : Claim7 := { stood := { row := fnOwnPIDHexCaseAndZerosAgreeRow, standIns := [], harness := (true, "bd28cf718ba65e98887c438dfa119ce26cc6744f23ec4e6c75a9ed831154f72d"), looks := true }, kinds := [], alts := [], laidByText := true, laidKinds := [.data, .data, .data, .called, .called], laidTests := true, laidLooks := .later }
def FnOwnPIDHexCaseAndZerosAgreeCardSaid : Prop := Claim7.holds Tryd.pinned (.plain (OpenSpec.ofChange fnOwnPIDHexCaseAndZerosAgreeSpec)) fnOwnPIDHexCaseAndZerosAgreeCard
end Rows
end Go.Proofs.Qxb6617422aDoor
