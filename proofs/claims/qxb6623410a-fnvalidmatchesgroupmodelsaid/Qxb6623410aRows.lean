/-
  No cell of these rows narrows 'for every input' (looked for: loops, veiled, ifaces, maps, wideKeys, modest, calm, conditions, laid).
  DERIVED. THE GIVEN ROWS OF THIS SEAT. 1 by the template 'for every input the law returns true; each argument reads behind the call as it read before'; 0 by the template 'total and deterministic' (their statements: Qxb6623410aTotals.lean).
  GIVEN WITH THE SEED: the statements are not yours to turn. If you find one false, say at which input.
  Laid BY PROGRAM, IN A SANDBOX (cutbox-rows.mjs): the forced cells as the released guide's own fill.sh prints them over the translation dfa6cb0f863ce19c… (all of the seat's roots in one cut). By AI agents, Wed Nov 11 2026. No macro, syntax, notation, axiom, sorry.
-/
import Derived.Test.Qxb6623410aChecked
import GoSem.Claim
import GoSem.ClaimJoined
import GoSem.ClaimMapViews
import Derived.JoinedTies
import Derived.KernelRfl
namespace Go.Proofs.Qxb6623410a
/- THE CELL 'sum', in the pinned program and in every row, IS THE sha256 OF THE DUMP (.gsa) THAT Qxb6623410aProg.lean LOADS. Nothing in Lean hashes anything: it is a label: what it is worth is what the hold of that sum in a sandbox is worth. -/
noncomputable def Try.pinned : Pinned := { name := "qxb6623410a", sum := "dfa6cb0f863ce19c6bc93e1a4062774313194c224c0a5c91ba74a901cbd41e91", checked := Try.checked }
namespace Rows
def none {H : Type} : Left H := { results := [], args := [] }

/-- 'zzlaws_pkg_uuid_b1.FnValidMatchesGroupModel': WHATEVER THE INPUT: true; the input reads as it did. -/
def fnValidMatchesGroupModelSpec : ChangeSpec := { name := "fnValidMatchesGroupModel", fn := fun _ => fun
  | [d] => { results := [.lit (.bool true)], args := [d] }
  | _ => none }
def fnValidMatchesGroupModelRow : OpenClaim := { program := "qxb6623410a", sum := "dfa6cb0f863ce19c6bc93e1a4062774313194c224c0a5c91ba74a901cbd41e91", func := "example.com/docket/docket/zzlaws_pkg_uuid_b1.FnValidMatchesGroupModel", spec := "fnValidMatchesGroupModel", apart := false }
def FnValidMatchesGroupModelSaid : Prop := fnValidMatchesGroupModelRow.holds Try.pinned (OpenSpec.ofChange fnValidMatchesGroupModelSpec)

/-- ITS FALSE NEIGHBOUR: 'it returns false'. Refute it at one input. -/
def fnValidMatchesGroupModelWrong : ChangeSpec := { name := "fnValidMatchesGroupModel", fn := fun _ => fun
  | [d] => { results := [.lit (.bool false)], args := [d] }
  | _ => none }
def FnValidMatchesGroupModelWrongFalsely : Prop := fnValidMatchesGroupModelRow.holds Try.pinned (OpenSpec.ofChange fnValidMatchesGroupModelWrong)

end Rows
end Go.Proofs.Qxb6623410a
