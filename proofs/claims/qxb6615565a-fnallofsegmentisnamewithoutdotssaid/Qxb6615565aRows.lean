/-
  No cell of these rows narrows 'for every input' (looked for: loops, veiled, ifaces, maps, wideKeys, modest, calm, conditions, laid).
  DERIVED. THE GIVEN ROWS OF THIS SEAT. 4 by the template 'for every input the law returns true; each argument reads behind the call as it read before'; 0 by the template 'total and deterministic' (their statements: Qxb6615565aTotals.lean).
  GIVEN WITH THE SEED: the statements are not yours to turn. If you find one false, say at which input.
  Laid BY PROGRAM, IN A SANDBOX (cutbox-rows.mjs): the forced cells as the released guide's own fill.sh prints them over the translation 3f743865656af626… (all of the seat's roots in one cut). By AI agents, Wed Nov 11 2026. No macro, syntax, notation, axiom, sorry.
-/
import Derived.Test.Qxb6615565aChecked
import GoSem.Claim
import GoSem.ClaimJoined
import GoSem.ClaimMapViews
import Derived.JoinedTies
import Derived.KernelRfl
namespace Go.Proofs.Qxb6615565a
/- THE CELL 'sum', in the pinned program and in every row, IS THE sha256 OF THE DUMP (.gsa) THAT Qxb6615565aProg.lean LOADS. Nothing in Lean hashes anything: it is a label: what it is worth is what the hold of that sum in a sandbox is worth. -/
noncomputable def Try.pinned : Pinned := { name := "qxb6615565a", sum := "3f743865656af6263991e93e87049e42ab0ebdf08f3726f602d299d2241f435c", checked := Try.checked }
namespace Rows
def none {H : Type} : Left H := { results := [], args := [] }

/-- 'zzlaws_userstring_b1.FnAllOfNameCharAtAnyCut': WHATEVER THE INPUT: true; the input reads as it did. -/
def fnAllOfNameCharAtAnyCutSpec : ChangeSpec := { name := "fnAllOfNameCharAtAnyCut", fn := fun _ => fun
  | [d1, d2] => { results := [.lit (.bool true)], args := [d1, d2] }
  | _ => none }
def fnAllOfNameCharAtAnyCutRow : OpenClaim := { program := "qxb6615565a", sum := "3f743865656af6263991e93e87049e42ab0ebdf08f3726f602d299d2241f435c", func := "example.com/moorage/moorage/zzlaws_userstring_b1.FnAllOfNameCharAtAnyCut", spec := "fnAllOfNameCharAtAnyCut", unfollowed := true, recurses := true, apart := false }
def FnAllOfNameCharAtAnyCutSaid : Prop := fnAllOfNameCharAtAnyCutRow.holds Try.pinned (OpenSpec.ofChange fnAllOfNameCharAtAnyCutSpec)

/-- ITS FALSE NEIGHBOUR: 'it returns false'. Refute it at one input. -/
def fnAllOfNameCharAtAnyCutWrong : ChangeSpec := { name := "fnAllOfNameCharAtAnyCut", fn := fun _ => fun
  | [d1, d2] => { results := [.lit (.bool false)], args := [d1, d2] }
  | _ => none }
def FnAllOfNameCharAtAnyCutWrongFalsely : Prop := fnAllOfNameCharAtAnyCutRow.holds Try.pinned (OpenSpec.ofChange fnAllOfNameCharAtAnyCutWrong)

/-- 'zzlaws_userstring_b1.FnAllOfSegmentIsNameWithoutDots': WHATEVER THE INPUT: true; the input reads as it did. -/
def fnAllOfSegmentIsNameWithoutDotsSpec : ChangeSpec := { name := "fnAllOfSegmentIsNameWithoutDots", fn := fun _ => fun
  | [d] => { results := [.lit (.bool true)], args := [d] }
  | _ => none }
def fnAllOfSegmentIsNameWithoutDotsRow : OpenClaim := { program := "qxb6615565a", sum := "3f743865656af6263991e93e87049e42ab0ebdf08f3726f602d299d2241f435c", func := "example.com/moorage/moorage/zzlaws_userstring_b1.FnAllOfSegmentIsNameWithoutDots", spec := "fnAllOfSegmentIsNameWithoutDots", unfollowed := true, recurses := true, apart := false }
def FnAllOfSegmentIsNameWithoutDotsSaid : Prop := fnAllOfSegmentIsNameWithoutDotsRow.holds Try.pinned (OpenSpec.ofChange fnAllOfSegmentIsNameWithoutDotsSpec)

/-- ITS FALSE NEIGHBOUR: 'it returns false'. Refute it at one input. -/
def fnAllOfSegmentIsNameWithoutDotsWrong : ChangeSpec := { name := "fnAllOfSegmentIsNameWithoutDots", fn := fun _ => fun
  | [d] => { results := [.lit (.bool false)], args := [d] }
  | _ => none }
def FnAllOfSegmentIsNameWithoutDotsWrongFalsely : Prop := fnAllOfSegmentIsNameWithoutDotsRow.holds Try.pinned (OpenSpec.ofChange fnAllOfSegmentIsNameWithoutDotsWrong)

/-- 'zzlaws_userstring_b1.FnWriteToPrintsPresentFieldsInOrder': WHATEVER THE INPUT: true; the input reads as it did. -/
def fnWriteToPrintsPresentFieldsInOrderSpec : ChangeSpec := { name := "fnWriteToPrintsPresentFieldsInOrder", fn := fun _ => fun
  | [d1, d2, d3, d4, d5, d6, d7, d8, d9, d10, d11] => { results := [.lit (.bool true)], args := [d1, d2, d3, d4, d5, d6, d7, d8, d9, d10, d11] }
  | _ => none }
def fnWriteToPrintsPresentFieldsInOrderRow : OpenClaim := { program := "qxb6615565a", sum := "3f743865656af6263991e93e87049e42ab0ebdf08f3726f602d299d2241f435c", func := "example.com/moorage/moorage/zzlaws_userstring_b1.FnWriteToPrintsPresentFieldsInOrder", spec := "fnWriteToPrintsPresentFieldsInOrder", inPlace := ["internal/abi.NoEscape"], unfollowed := true, recurses := true, apart := false }
def FnWriteToPrintsPresentFieldsInOrderSaid : Prop := fnWriteToPrintsPresentFieldsInOrderRow.holds Try.pinned (OpenSpec.ofChange fnWriteToPrintsPresentFieldsInOrderSpec)

/-- ITS FALSE NEIGHBOUR: 'it returns false'. Refute it at one input. -/
def fnWriteToPrintsPresentFieldsInOrderWrong : ChangeSpec := { name := "fnWriteToPrintsPresentFieldsInOrder", fn := fun _ => fun
  | [d1, d2, d3, d4, d5, d6, d7, d8, d9, d10, d11] => { results := [.lit (.bool false)], args := [d1, d2, d3, d4, d5, d6, d7, d8, d9, d10, d11] }
  | _ => none }
def FnWriteToPrintsPresentFieldsInOrderWrongFalsely : Prop := fnWriteToPrintsPresentFieldsInOrderRow.holds Try.pinned (OpenSpec.ofChange fnWriteToPrintsPresentFieldsInOrderWrong)

/-- 'zzlaws_userstring_b1.FnWriteToSwapOfPodAndUserKeepsIdentity': WHATEVER THE INPUT: true; the input reads as it did. -/
def fnWriteToSwapOfPodAndUserKeepsIdentitySpec : ChangeSpec := { name := "fnWriteToSwapOfPodAndUserKeepsIdentity", fn := fun _ => fun
  | [d1, d2, d3, d4, d5, d6, d7, d8, d9, d10, d11] => { results := [.lit (.bool true)], args := [d1, d2, d3, d4, d5, d6, d7, d8, d9, d10, d11] }
  | _ => none }
def fnWriteToSwapOfPodAndUserKeepsIdentityRow : OpenClaim := { program := "qxb6615565a", sum := "3f743865656af6263991e93e87049e42ab0ebdf08f3726f602d299d2241f435c", func := "example.com/moorage/moorage/zzlaws_userstring_b1.FnWriteToSwapOfPodAndUserKeepsIdentity", spec := "fnWriteToSwapOfPodAndUserKeepsIdentity", inPlace := ["internal/abi.NoEscape"], unfollowed := true, recurses := true, apart := false }
def FnWriteToSwapOfPodAndUserKeepsIdentitySaid : Prop := fnWriteToSwapOfPodAndUserKeepsIdentityRow.holds Try.pinned (OpenSpec.ofChange fnWriteToSwapOfPodAndUserKeepsIdentitySpec)

/-- ITS FALSE NEIGHBOUR: 'it returns false'. Refute it at one input. -/
def fnWriteToSwapOfPodAndUserKeepsIdentityWrong : ChangeSpec := { name := "fnWriteToSwapOfPodAndUserKeepsIdentity", fn := fun _ => fun
  | [d1, d2, d3, d4, d5, d6, d7, d8, d9, d10, d11] => { results := [.lit (.bool false)], args := [d1, d2, d3, d4, d5, d6, d7, d8, d9, d10, d11] }
  | _ => none }
def FnWriteToSwapOfPodAndUserKeepsIdentityWrongFalsely : Prop := fnWriteToSwapOfPodAndUserKeepsIdentityRow.holds Try.pinned (OpenSpec.ofChange fnWriteToSwapOfPodAndUserKeepsIdentityWrong)

end Rows
end Go.Proofs.Qxb6615565a
