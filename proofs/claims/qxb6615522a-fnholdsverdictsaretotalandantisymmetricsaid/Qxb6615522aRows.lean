/-
  No cell of these rows narrows 'for every input' (looked for: loops, veiled, ifaces, maps, wideKeys, modest, calm, conditions, laid).
  DERIVED. THE GIVEN ROWS OF THIS SEAT. 1 by the template 'for every input the law returns true; each argument reads behind the call as it read before'; 0 by the template 'total and deterministic' (their statements: Qxb6615522aTotals.lean).
  GIVEN WITH THE SEED: the statements are not yours to turn. If you find one false, say at which input.
  Laid BY PROGRAM, IN A SANDBOX (cutbox-rows.mjs): the forced cells as the released guide's own fill.sh prints them over the translation 53ae8a94d23a0e86… (all of the seat's roots in one cut). By AI agents, Wed Nov 11 2026. No macro, syntax, notation, axiom, sorry.
-/
import Derived.Test.Qxb6615522aChecked
import GoSem.Claim
import GoSem.ClaimJoined
import GoSem.ClaimMapViews
import Derived.JoinedTies
import Derived.KernelRfl
namespace Go.Proofs.Qxb6615522a
/- THE CELL 'sum', in the pinned program and in every row, IS THE sha256 OF THE DUMP (.gsa) THAT Qxb6615522aProg.lean LOADS. Nothing in Lean hashes anything: it is a label: what it is worth is what the hold of that sum in a sandbox is worth. -/
noncomputable def Try.pinned : Pinned := { name := "qxb6615522a", sum := "53ae8a94d23a0e864c8c4b0b085e4518608b77594dba8468b7c4b5c4b5b0cc57", checked := Try.checked }
namespace Rows
def none {H : Type} : Left H := { results := [], args := [] }

/-- 'zzlaws_root_b1.FnHoldsVerdictsAreTotalAndAntisymmetric': WHATEVER THE INPUT: true; the input reads as it did. -/
def fnHoldsVerdictsAreTotalAndAntisymmetricSpec : ChangeSpec := { name := "fnHoldsVerdictsAreTotalAndAntisymmetric", fn := fun _ => fun
  | [d1, d2] => { results := [.lit (.bool true)], args := [d1, d2] }
  | _ => none }
def fnHoldsVerdictsAreTotalAndAntisymmetricRow : OpenClaim := { program := "qxb6615522a", sum := "53ae8a94d23a0e864c8c4b0b085e4518608b77594dba8468b7c4b5c4b5b0cc57", func := "example.com/vestline/vestline/zzlaws_root_b1.FnHoldsVerdictsAreTotalAndAntisymmetric", spec := "fnHoldsVerdictsAreTotalAndAntisymmetric", apart := false }
def FnHoldsVerdictsAreTotalAndAntisymmetricSaid : Prop := fnHoldsVerdictsAreTotalAndAntisymmetricRow.holds Try.pinned (OpenSpec.ofChange fnHoldsVerdictsAreTotalAndAntisymmetricSpec)

/-- ITS FALSE NEIGHBOUR: 'it returns false'. Refute it at one input. -/
def fnHoldsVerdictsAreTotalAndAntisymmetricWrong : ChangeSpec := { name := "fnHoldsVerdictsAreTotalAndAntisymmetric", fn := fun _ => fun
  | [d1, d2] => { results := [.lit (.bool false)], args := [d1, d2] }
  | _ => none }
def FnHoldsVerdictsAreTotalAndAntisymmetricWrongFalsely : Prop := fnHoldsVerdictsAreTotalAndAntisymmetricRow.holds Try.pinned (OpenSpec.ofChange fnHoldsVerdictsAreTotalAndAntisymmetricWrong)

end Rows
end Go.Proofs.Qxb6615522a
