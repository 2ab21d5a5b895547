/-
  No cell of these rows narrows 'for every input' (looked for: loops, veiled, ifaces, maps, wideKeys, modest, calm, conditions, laid).
  DERIVED. THE GIVEN ROWS OF THIS SEAT. 1 by the template 'for every input the law returns true; each argument reads behind the call as it read before'; 0 by the template 'total and deterministic' (their statements: Qxb6623459aTotals.lean).
  GIVEN WITH THE SEED: the statements are not yours to turn. If you find one false, say at which input.
  Laid BY PROGRAM, IN A SANDBOX (cutbox-rows.mjs): the forced cells as the released guide's own fill.sh prints them over the translation fc345dac2d71bbef… (all of the seat's roots in one cut). By AI agents, Wed Nov 11 2026. No macro, syntax, notation, axiom, sorry.
-/
import Derived.Test.Qxb6623459aChecked
import GoSem.Claim
import GoSem.ClaimJoined
import GoSem.ClaimMapViews
import Derived.JoinedTies
import Derived.KernelRfl
namespace Go.Proofs.Qxb6623459a
/- THE CELL 'sum', in the pinned program and in every row, IS THE sha256 OF THE DUMP (.gsa) THAT Qxb6623459aProg.lean LOADS. Nothing in Lean hashes anything: it is a label: what it is worth is what the hold of that sum in a sandbox is worth. -/
noncomputable def Try.pinned : Pinned := { name := "qxb6623459a", sum := "fc345dac2d71bbef8f6b29fa57643cf730ec13ce46c801e17bdd0ce28721d56d", checked := Try.checked }
namespace Rows
def none {H : Type} : Left H := { results := [], args := [] }

/-- 'zzlaws_root_b1.FnTextAgreesWithSizeAndPeelsLastComponent': WHATEVER THE INPUT: true; the input reads as it did. -/
def fnTextAgreesWithSizeAndPeelsLastComponentSpec : ChangeSpec := { name := "fnTextAgreesWithSizeAndPeelsLastComponent", fn := fun _ => fun
  | [d1, d2, d3, d4, d5, d6, d7, d8, d9, d10] => { results := [.lit (.bool true)], args := [d1, d2, d3, d4, d5, d6, d7, d8, d9, d10] }
  | _ => none }
def fnTextAgreesWithSizeAndPeelsLastComponentRow : OpenClaim := { program := "qxb6623459a", sum := "fc345dac2d71bbef8f6b29fa57643cf730ec13ce46c801e17bdd0ce28721d56d", func := "example.com/pipeline-overrides/pipeline-overrides/zzlaws_root_b1.FnTextAgreesWithSizeAndPeelsLastComponent", spec := "fnTextAgreesWithSizeAndPeelsLastComponent", inPlace := ["internal/abi.NoEscape", "internal/bytealg.MakeNoZero"], apart := false }
def FnTextAgreesWithSizeAndPeelsLastComponentSaid : Prop := fnTextAgreesWithSizeAndPeelsLastComponentRow.holds Try.pinned (OpenSpec.ofChange fnTextAgreesWithSizeAndPeelsLastComponentSpec)

/-- ITS FALSE NEIGHBOUR: 'it returns false'. Refute it at one input. -/
def fnTextAgreesWithSizeAndPeelsLastComponentWrong : ChangeSpec := { name := "fnTextAgreesWithSizeAndPeelsLastComponent", fn := fun _ => fun
  | [d1, d2, d3, d4, d5, d6, d7, d8, d9, d10] => { results := [.lit (.bool false)], args := [d1, d2, d3, d4, d5, d6, d7, d8, d9, d10] }
  | _ => none }
def FnTextAgreesWithSizeAndPeelsLastComponentWrongFalsely : Prop := fnTextAgreesWithSizeAndPeelsLastComponentRow.holds Try.pinned (OpenSpec.ofChange fnTextAgreesWithSizeAndPeelsLastComponentWrong)

end Rows
end Go.Proofs.Qxb6623459a
