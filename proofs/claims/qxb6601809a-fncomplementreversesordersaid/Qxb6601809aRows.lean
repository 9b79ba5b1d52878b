/-
  No cell of these rows narrows 'for every input' (looked for: loops, veiled, ifaces, maps, wideKeys, modest, calm, conditions, laid).
  DERIVED. THE GIVEN ROWS OF THIS SEAT. 3 by the template 'for every input the law returns true; each argument reads behind the call as it read before'; 0 by the template 'total and deterministic' (their statements: Qxb6601809aTotals.lean).
  GIVEN WITH THE SEED: the statements are not yours to turn. If you find one false, say at which input.
  Laid BY PROGRAM, IN A SANDBOX (cutbox-rows.mjs): the forced cells as the released guide's own fill.sh prints them over the translation d5122fcf594685c6… (all of the seat's roots in one cut). By AI agents, Wed Nov 11 2026. No macro, syntax, notation, axiom, sorry.
-/
import Derived.Test.Qxb6601809aChecked
import GoSem.Claim
import GoSem.ClaimJoined
import GoSem.ClaimMapViews
import Derived.JoinedTies
import Derived.KernelRfl
namespace Go.Proofs.Qxb6601809a
/- THE CELL 'sum', in the pinned program and in every row, IS THE sha256 OF THE DUMP (.gsa) THAT Qxb6601809aProg.lean LOADS. Nothing in Lean hashes anything: it is a label: what it is worth is what the hold of that sum in a sandbox is worth. -/
noncomputable def Try.pinned : Pinned := { name := "qxb6601809a", sum := "d5122fcf594685c66e894180bfebfee1c9230d7588dde844cd8e16e64d598655", checked := Try.checked }
namespace Rows
def none {H : Type} : Left H := { results := [], args := [] }

/-- 'zzlaws_money_b1.FnComplementFillsTheWhole': WHATEVER THE INPUT: true; the input reads as it did. -/
def fnComplementFillsTheWholeSpec : ChangeSpec := { name := "fnComplementFillsTheWhole", fn := fun _ => fun
  | [d1, d2] => { results := [.lit (.bool true)], args := [d1, d2] }
  | _ => none }
def fnComplementFillsTheWholeRow : OpenClaim := { program := "qxb6601809a", sum := "d5122fcf594685c66e894180bfebfee1c9230d7588dde844cd8e16e64d598655", func := "example.com/unearned/unearned/zzlaws_money_b1.FnComplementFillsTheWhole", spec := "fnComplementFillsTheWhole", apart := false }
def FnComplementFillsTheWholeSaid : Prop := fnComplementFillsTheWholeRow.holds Try.pinned (OpenSpec.ofChange fnComplementFillsTheWholeSpec)

/-- ITS FALSE NEIGHBOUR: 'it returns false'. Refute it at one input. -/
def fnComplementFillsTheWholeWrong : ChangeSpec := { name := "fnComplementFillsTheWhole", fn := fun _ => fun
  | [d1, d2] => { results := [.lit (.bool false)], args := [d1, d2] }
  | _ => none }
def FnComplementFillsTheWholeWrongFalsely : Prop := fnComplementFillsTheWholeRow.holds Try.pinned (OpenSpec.ofChange fnComplementFillsTheWholeWrong)

/-- 'zzlaws_money_b1.FnComplementTwiceRestores': WHATEVER THE INPUT: true; the input reads as it did. -/
def fnComplementTwiceRestoresSpec : ChangeSpec := { name := "fnComplementTwiceRestores", fn := fun _ => fun
  | [d1, d2] => { results := [.lit (.bool true)], args := [d1, d2] }
  | _ => none }
def fnComplementTwiceRestoresRow : OpenClaim := { program := "qxb6601809a", sum := "d5122fcf594685c66e894180bfebfee1c9230d7588dde844cd8e16e64d598655", func := "example.com/unearned/unearned/zzlaws_money_b1.FnComplementTwiceRestores", spec := "fnComplementTwiceRestores", apart := false }
def FnComplementTwiceRestoresSaid : Prop := fnComplementTwiceRestoresRow.holds Try.pinned (OpenSpec.ofChange fnComplementTwiceRestoresSpec)

/-- ITS FALSE NEIGHBOUR: 'it returns false'. Refute it at one input. -/
def fnComplementTwiceRestoresWrong : ChangeSpec := { name := "fnComplementTwiceRestores", fn := fun _ => fun
  | [d1, d2] => { results := [.lit (.bool false)], args := [d1, d2] }
  | _ => none }
def FnComplementTwiceRestoresWrongFalsely : Prop := fnComplementTwiceRestoresRow.holds Try.pinned (OpenSpec.ofChange fnComplementTwiceRestoresWrong)

/-- 'zzlaws_money_b1.FnComplementReversesOrder': WHATEVER THE INPUT: true; the input reads as it did. -/
def fnComplementReversesOrderSpec : ChangeSpec := { name := "fnComplementReversesOrder", fn := fun _ => fun
  | [d1, d2, d3] => { results := [.lit (.bool true)], args := [d1, d2, d3] }
  | _ => none }
def fnComplementReversesOrderRow : OpenClaim := { program := "qxb6601809a", sum := "d5122fcf594685c66e894180bfebfee1c9230d7588dde844cd8e16e64d598655", func := "example.com/unearned/unearned/zzlaws_money_b1.FnComplementReversesOrder", spec := "fnComplementReversesOrder", apart := false }
def FnComplementReversesOrderSaid : Prop := fnComplementReversesOrderRow.holds Try.pinned (OpenSpec.ofChange fnComplementReversesOrderSpec)

/-- ITS FALSE NEIGHBOUR: 'it returns false'. Refute it at one input. -/
def fnComplementReversesOrderWrong : ChangeSpec := { name := "fnComplementReversesOrder", fn := fun _ => fun
  | [d1, d2, d3] => { results := [.lit (.bool false)], args := [d1, d2, d3] }
  | _ => none }
def FnComplementReversesOrderWrongFalsely : Prop := fnComplementReversesOrderRow.holds Try.pinned (OpenSpec.ofChange fnComplementReversesOrderWrong)

end Rows
end Go.Proofs.Qxb6601809a
