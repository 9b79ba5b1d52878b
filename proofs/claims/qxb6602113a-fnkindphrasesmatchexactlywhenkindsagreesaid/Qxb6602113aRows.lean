/-
  No cell of these rows narrows 'for every input' (looked for: loops, veiled, ifaces, maps, wideKeys, modest, calm, conditions, laid).
  DERIVED. THE GIVEN ROWS OF THIS SEAT. 1 by the template 'for every input the law returns true; each argument reads behind the call as it read before'; 0 by the template 'total and deterministic' (their statements: Qxb6602113aTotals.lean).
  GIVEN WITH THE SEED: the statements are not yours to turn. If you find one false, say at which input.
  Laid BY PROGRAM, IN A SANDBOX (cutbox-rows.mjs): the forced cells as the released guide's own fill.sh prints them over the translation 9952e64f38768923… (all of the seat's roots in one cut). By AI agents, Wed Nov 11 2026. No macro, syntax, notation, axiom, sorry.
-/
import Derived.Test.Qxb6602113aChecked
import GoSem.Claim
import GoSem.ClaimJoined
import GoSem.ClaimMapViews
import Derived.JoinedTies
import Derived.KernelRfl
namespace Go.Proofs.Qxb6602113a
/- THE CELL 'sum', in the pinned program and in every row, IS THE sha256 OF THE DUMP (.gsa) THAT Qxb6602113aProg.lean LOADS. Nothing in Lean hashes anything: it is a label: what it is worth is what the hold of that sum in a sandbox is worth. -/
noncomputable def Try.pinned : Pinned := { name := "qxb6602113a", sum := "9952e64f3876892312135a4d4c3d8f8f05accb2e26f1336db6193e84f1f28510", checked := Try.checked }
namespace Rows
def none {H : Type} : Left H := { results := [], args := [] }

/-- 'zzlaws_pkg_plan_b1.FnKindPhrasesMatchExactlyWhenKindsAgree': WHATEVER THE INPUT: true; the input reads as it did. -/
def fnKindPhrasesMatchExactlyWhenKindsAgreeSpec : ChangeSpec := { name := "fnKindPhrasesMatchExactlyWhenKindsAgree", fn := fun _ => fun
  | [d1, d2, d3] => { results := [.lit (.bool true)], args := [d1, d2, d3] }
  | _ => none }
def fnKindPhrasesMatchExactlyWhenKindsAgreeRow : OpenClaim := { program := "qxb6602113a", sum := "9952e64f3876892312135a4d4c3d8f8f05accb2e26f1336db6193e84f1f28510", func := "example.com/vestline/vestline/zzlaws_pkg_plan_b1.FnKindPhrasesMatchExactlyWhenKindsAgree", spec := "fnKindPhrasesMatchExactlyWhenKindsAgree", apart := false }
def FnKindPhrasesMatchExactlyWhenKindsAgreeSaid : Prop := fnKindPhrasesMatchExactlyWhenKindsAgreeRow.holds Try.pinned (OpenSpec.ofChange fnKindPhrasesMatchExactlyWhenKindsAgreeSpec)

/-- ITS FALSE NEIGHBOUR: 'it returns false'. Refute it at one input. -/
def fnKindPhrasesMatchExactlyWhenKindsAgreeWrong : ChangeSpec := { name := "fnKindPhrasesMatchExactlyWhenKindsAgree", fn := fun _ => fun
  | [d1, d2, d3] => { results := [.lit (.bool false)], args := [d1, d2, d3] }
  | _ => none }
def FnKindPhrasesMatchExactlyWhenKindsAgreeWrongFalsely : Prop := fnKindPhrasesMatchExactlyWhenKindsAgreeRow.holds Try.pinned (OpenSpec.ofChange fnKindPhrasesMatchExactlyWhenKindsAgreeWrong)

end Rows
end Go.Proofs.Qxb6602113a
