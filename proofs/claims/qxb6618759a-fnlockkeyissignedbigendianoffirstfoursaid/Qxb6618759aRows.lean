/-
  No cell of these rows narrows 'for every input' (looked for: loops, veiled, ifaces, maps, wideKeys, modest, calm, conditions, laid).
  DERIVED. THE GIVEN ROWS OF THIS SEAT. 4 by the template 'for every input the law returns true; each argument reads behind the call as it read before'; 0 by the template 'total and deterministic' (their statements: Qxb6618759aTotals.lean).
  GIVEN WITH THE SEED: the statements are not yours to turn. If you find one false, say at which input.
  Laid BY PROGRAM, IN A SANDBOX (cutbox-rows.mjs): the forced cells as the released guide's own fill.sh prints them over the translation b4aad25dd2edd8a0… (all of the seat's roots in one cut). By AI agents, Wed Nov 11 2026. No macro, syntax, notation, axiom, sorry.
-/
import Derived.Test.Qxb6618759aChecked
import GoSem.Claim
import GoSem.ClaimJoined
import GoSem.ClaimMapViews
import Derived.JoinedTies
import Derived.KernelRfl
namespace Go.Proofs.Qxb6618759a
/- THE CELL 'sum', in the pinned program and in every row, IS THE sha256 OF THE DUMP (.gsa) THAT Qxb6618759aProg.lean LOADS. Nothing in Lean hashes anything: it is a label: what it is worth is what the hold of that sum in a sandbox is worth. -/
noncomputable def Try.pinned : Pinned := { name := "qxb6618759a", sum := "b4aad25dd2edd8a037e6594facebdbed65245a965881038d5a434e60131a758c", checked := Try.checked }
namespace Rows
def none {H : Type} : Left H := { results := [], args := [] }

/-- 'zzlaws_store_b1.FnLockKeyIsSignedBigEndianOfFirstFour': WHATEVER THE INPUT: true; the input reads as it did. -/
def fnLockKeyIsSignedBigEndianOfFirstFourSpec : ChangeSpec := { name := "fnLockKeyIsSignedBigEndianOfFirstFour", fn := fun _ => fun
  | [d1, d2] => { results := [.lit (.bool true)], args := [d1, d2] }
  | _ => none }
def fnLockKeyIsSignedBigEndianOfFirstFourRow : OpenClaim := { program := "qxb6618759a", sum := "b4aad25dd2edd8a037e6594facebdbed65245a965881038d5a434e60131a758c", func := "example.com/tokenward/tokenward/zzlaws_store_b1.FnLockKeyIsSignedBigEndianOfFirstFour", spec := "fnLockKeyIsSignedBigEndianOfFirstFour", named := ["encoding/binary.BigEndian"], apart := false }
def FnLockKeyIsSignedBigEndianOfFirstFourSaid : Prop := fnLockKeyIsSignedBigEndianOfFirstFourRow.holds Try.pinned (OpenSpec.ofChange fnLockKeyIsSignedBigEndianOfFirstFourSpec)

/-- ITS FALSE NEIGHBOUR: 'it returns false'. Refute it at one input. -/
def fnLockKeyIsSignedBigEndianOfFirstFourWrong : ChangeSpec := { name := "fnLockKeyIsSignedBigEndianOfFirstFour", fn := fun _ => fun
  | [d1, d2] => { results := [.lit (.bool false)], args := [d1, d2] }
  | _ => none }
def FnLockKeyIsSignedBigEndianOfFirstFourWrongFalsely : Prop := fnLockKeyIsSignedBigEndianOfFirstFourRow.holds Try.pinned (OpenSpec.ofChange fnLockKeyIsSignedBigEndianOfFirstFourWrong)

/-- 'zzlaws_store_b1.FnLockKeyOfSecretDigestIsDigestHead': WHATEVER THE INPUT: true; the input reads as it did. -/
def fnLockKeyOfSecretDigestIsDigestHeadSpec : ChangeSpec := { name := "fnLockKeyOfSecretDigestIsDigestHead", fn := fun _ => fun
  | [d] => { results := [.lit (.bool true)], args := [d] }
  | _ => none }
def fnLockKeyOfSecretDigestIsDigestHeadRow : OpenClaim := { program := "qxb6618759a", sum := "b4aad25dd2edd8a037e6594facebdbed65245a965881038d5a434e60131a758c", func := "example.com/tokenward/tokenward/zzlaws_store_b1.FnLockKeyOfSecretDigestIsDigestHead", spec := "fnLockKeyOfSecretDigestIsDigestHead", unfollowed := true, recurses := true, named := ["encoding/binary.BigEndian"], apart := false }
def FnLockKeyOfSecretDigestIsDigestHeadSaid : Prop := fnLockKeyOfSecretDigestIsDigestHeadRow.holds Try.pinned (OpenSpec.ofChange fnLockKeyOfSecretDigestIsDigestHeadSpec)

/-- ITS FALSE NEIGHBOUR: 'it returns false'. Refute it at one input. -/
def fnLockKeyOfSecretDigestIsDigestHeadWrong : ChangeSpec := { name := "fnLockKeyOfSecretDigestIsDigestHead", fn := fun _ => fun
  | [d] => { results := [.lit (.bool false)], args := [d] }
  | _ => none }
def FnLockKeyOfSecretDigestIsDigestHeadWrongFalsely : Prop := fnLockKeyOfSecretDigestIsDigestHeadRow.holds Try.pinned (OpenSpec.ofChange fnLockKeyOfSecretDigestIsDigestHeadWrong)

/-- 'zzlaws_store_b1.FnSecretDigestIsSHA256': WHATEVER THE INPUT: true; the input reads as it did. -/
def fnSecretDigestIsSHA256Spec : ChangeSpec := { name := "fnSecretDigestIsSHA256", fn := fun _ => fun
  | [d] => { results := [.lit (.bool true)], args := [d] }
  | _ => none }
def fnSecretDigestIsSHA256Row : OpenClaim := { program := "qxb6618759a", sum := "b4aad25dd2edd8a037e6594facebdbed65245a965881038d5a434e60131a758c", func := "example.com/tokenward/tokenward/zzlaws_store_b1.FnSecretDigestIsSHA256", spec := "fnSecretDigestIsSHA256", unfollowed := true, recurses := true, apart := false }
def FnSecretDigestIsSHA256Said : Prop := fnSecretDigestIsSHA256Row.holds Try.pinned (OpenSpec.ofChange fnSecretDigestIsSHA256Spec)

/-- ITS FALSE NEIGHBOUR: 'it returns false'. Refute it at one input. -/
def fnSecretDigestIsSHA256Wrong : ChangeSpec := { name := "fnSecretDigestIsSHA256", fn := fun _ => fun
  | [d] => { results := [.lit (.bool false)], args := [d] }
  | _ => none }
def FnSecretDigestIsSHA256WrongFalsely : Prop := fnSecretDigestIsSHA256Row.holds Try.pinned (OpenSpec.ofChange fnSecretDigestIsSHA256Wrong)

/-- 'zzlaws_store_b1.FnSecretDigestFreshPerCall': WHATEVER THE INPUT: true; the input reads as it did. -/
def fnSecretDigestFreshPerCallSpec : ChangeSpec := { name := "fnSecretDigestFreshPerCall", fn := fun _ => fun
  | [d] => { results := [.lit (.bool true)], args := [d] }
  | _ => none }
def fnSecretDigestFreshPerCallRow : OpenClaim := { program := "qxb6618759a", sum := "b4aad25dd2edd8a037e6594facebdbed65245a965881038d5a434e60131a758c", func := "example.com/tokenward/tokenward/zzlaws_store_b1.FnSecretDigestFreshPerCall", spec := "fnSecretDigestFreshPerCall", unfollowed := true, recurses := true, apart := false }
def FnSecretDigestFreshPerCallSaid : Prop := fnSecretDigestFreshPerCallRow.holds Try.pinned (OpenSpec.ofChange fnSecretDigestFreshPerCallSpec)

/-- ITS FALSE NEIGHBOUR: 'it returns false'. Refute it at one input. -/
def fnSecretDigestFreshPerCallWrong : ChangeSpec := { name := "fnSecretDigestFreshPerCall", fn := fun _ => fun
  | [d] => { results := [.lit (.bool false)], args := [d] }
  | _ => none }
def FnSecretDigestFreshPerCallWrongFalsely : Prop := fnSecretDigestFreshPerCallRow.holds Try.pinned (OpenSpec.ofChange fnSecretDigestFreshPerCallWrong)

end Rows
end Go.Proofs.Qxb6618759a
