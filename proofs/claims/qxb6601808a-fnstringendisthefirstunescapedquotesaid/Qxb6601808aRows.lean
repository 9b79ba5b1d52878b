/-
  No cell of these rows narrows 'for every input' (looked for: loops, veiled, ifaces, maps, wideKeys, modest, calm, conditions, laid).
  DERIVED. THE GIVEN ROWS OF THIS SEAT. 5 by the template 'for every input the law returns true; each argument reads behind the call as it read before'; 0 by the template 'total and deterministic' (their statements: Qxb6601808aTotals.lean).
  GIVEN WITH THE SEED: the statements are not yours to turn. If you find one false, say at which input.
  Laid BY PROGRAM, IN A SANDBOX (cutbox-rows.mjs): the forced cells as the released guide's own fill.sh prints them over the translation 58638eae08900980… (all of the seat's roots in one cut). By AI agents, Wed Nov 11 2026. No macro, syntax, notation, axiom, sorry.
-/
import Derived.Test.Qxb6601808aChecked
import GoSem.Claim
import GoSem.ClaimJoined
import GoSem.ClaimMapViews
import Derived.JoinedTies
import Derived.KernelRfl
namespace Go.Proofs.Qxb6601808a
/- THE CELL 'sum', in the pinned program and in every row, IS THE sha256 OF THE DUMP (.gsa) THAT Qxb6601808aProg.lean LOADS. Nothing in Lean hashes anything: it is a label: what it is worth is what the hold of that sum in a sandbox is worth. -/
noncomputable def Try.pinned : Pinned := { name := "qxb6601808a", sum := "58638eae08900980fbaa697527b90d4c0626b23c653246ed814cb29d4c9acffb", checked := Try.checked }
namespace Rows
def none {H : Type} : Left H := { results := [], args := [] }

/-- 'zzlaws_internal_openai_b1.FnSkipSpaceExact': WHATEVER THE INPUT: true; the input reads as it did. -/
def fnSkipSpaceExactSpec : ChangeSpec := { name := "fnSkipSpaceExact", fn := fun _ => fun
  | [d1, d2] => { results := [.lit (.bool true)], args := [d1, d2] }
  | _ => none }
def fnSkipSpaceExactRow : OpenClaim := { program := "qxb6601808a", sum := "58638eae08900980fbaa697527b90d4c0626b23c653246ed814cb29d4c9acffb", func := "example.com/corral/corral/zzlaws_internal_openai_b1.FnSkipSpaceExact", spec := "fnSkipSpaceExact", apart := false }
def FnSkipSpaceExactSaid : Prop := fnSkipSpaceExactRow.holds Try.pinned (OpenSpec.ofChange fnSkipSpaceExactSpec)

/-- ITS FALSE NEIGHBOUR: 'it returns false'. Refute it at one input. -/
def fnSkipSpaceExactWrong : ChangeSpec := { name := "fnSkipSpaceExact", fn := fun _ => fun
  | [d1, d2] => { results := [.lit (.bool false)], args := [d1, d2] }
  | _ => none }
def FnSkipSpaceExactWrongFalsely : Prop := fnSkipSpaceExactRow.holds Try.pinned (OpenSpec.ofChange fnSkipSpaceExactWrong)

/-- 'zzlaws_internal_openai_b1.FnSkipSpaceIdempotent': WHATEVER THE INPUT: true; the input reads as it did. -/
def fnSkipSpaceIdempotentSpec : ChangeSpec := { name := "fnSkipSpaceIdempotent", fn := fun _ => fun
  | [d1, d2] => { results := [.lit (.bool true)], args := [d1, d2] }
  | _ => none }
def fnSkipSpaceIdempotentRow : OpenClaim := { program := "qxb6601808a", sum := "58638eae08900980fbaa697527b90d4c0626b23c653246ed814cb29d4c9acffb", func := "example.com/corral/corral/zzlaws_internal_openai_b1.FnSkipSpaceIdempotent", spec := "fnSkipSpaceIdempotent", apart := false }
def FnSkipSpaceIdempotentSaid : Prop := fnSkipSpaceIdempotentRow.holds Try.pinned (OpenSpec.ofChange fnSkipSpaceIdempotentSpec)

/-- ITS FALSE NEIGHBOUR: 'it returns false'. Refute it at one input. -/
def fnSkipSpaceIdempotentWrong : ChangeSpec := { name := "fnSkipSpaceIdempotent", fn := fun _ => fun
  | [d1, d2] => { results := [.lit (.bool false)], args := [d1, d2] }
  | _ => none }
def FnSkipSpaceIdempotentWrongFalsely : Prop := fnSkipSpaceIdempotentRow.holds Try.pinned (OpenSpec.ofChange fnSkipSpaceIdempotentWrong)

/-- 'zzlaws_internal_openai_b1.FnSkipSpaceMonotone': WHATEVER THE INPUT: true; the input reads as it did. -/
def fnSkipSpaceMonotoneSpec : ChangeSpec := { name := "fnSkipSpaceMonotone", fn := fun _ => fun
  | [d1, d2, d3] => { results := [.lit (.bool true)], args := [d1, d2, d3] }
  | _ => none }
def fnSkipSpaceMonotoneRow : OpenClaim := { program := "qxb6601808a", sum := "58638eae08900980fbaa697527b90d4c0626b23c653246ed814cb29d4c9acffb", func := "example.com/corral/corral/zzlaws_internal_openai_b1.FnSkipSpaceMonotone", spec := "fnSkipSpaceMonotone", apart := false }
def FnSkipSpaceMonotoneSaid : Prop := fnSkipSpaceMonotoneRow.holds Try.pinned (OpenSpec.ofChange fnSkipSpaceMonotoneSpec)

/-- ITS FALSE NEIGHBOUR: 'it returns false'. Refute it at one input. -/
def fnSkipSpaceMonotoneWrong : ChangeSpec := { name := "fnSkipSpaceMonotone", fn := fun _ => fun
  | [d1, d2, d3] => { results := [.lit (.bool false)], args := [d1, d2, d3] }
  | _ => none }
def FnSkipSpaceMonotoneWrongFalsely : Prop := fnSkipSpaceMonotoneRow.holds Try.pinned (OpenSpec.ofChange fnSkipSpaceMonotoneWrong)

/-- 'zzlaws_internal_openai_b1.FnStringEndIsTheFirstUnescapedQuote': WHATEVER THE INPUT: true; the input reads as it did. -/
def fnStringEndIsTheFirstUnescapedQuoteSpec : ChangeSpec := { name := "fnStringEndIsTheFirstUnescapedQuote", fn := fun _ => fun
  | [d1, d2] => { results := [.lit (.bool true)], args := [d1, d2] }
  | _ => none }
def fnStringEndIsTheFirstUnescapedQuoteRow : OpenClaim := { program := "qxb6601808a", sum := "58638eae08900980fbaa697527b90d4c0626b23c653246ed814cb29d4c9acffb", func := "example.com/corral/corral/zzlaws_internal_openai_b1.FnStringEndIsTheFirstUnescapedQuote", spec := "fnStringEndIsTheFirstUnescapedQuote", apart := false }
def FnStringEndIsTheFirstUnescapedQuoteSaid : Prop := fnStringEndIsTheFirstUnescapedQuoteRow.holds Try.pinned (OpenSpec.ofChange fnStringEndIsTheFirstUnescapedQuoteSpec)

/-- ITS FALSE NEIGHBOUR: 'it returns false'. Refute it at one input. -/
def fnStringEndIsTheFirstUnescapedQuoteWrong : ChangeSpec := { name := "fnStringEndIsTheFirstUnescapedQuote", fn := fun _ => fun
  | [d1, d2] => { results := [.lit (.bool false)], args := [d1, d2] }
  | _ => none }
def FnStringEndIsTheFirstUnescapedQuoteWrongFalsely : Prop := fnStringEndIsTheFirstUnescapedQuoteRow.holds Try.pinned (OpenSpec.ofChange fnStringEndIsTheFirstUnescapedQuoteWrong)

/-- 'zzlaws_internal_openai_b1.FnValueEndMatchesAJSONParser': WHATEVER THE INPUT: true; the input reads as it did. -/
def fnValueEndMatchesAJSONParserSpec : ChangeSpec := { name := "fnValueEndMatchesAJSONParser", fn := fun _ => fun
  | [d1, d2] => { results := [.lit (.bool true)], args := [d1, d2] }
  | _ => none }
def fnValueEndMatchesAJSONParserRow : OpenClaim := { program := "qxb6601808a", sum := "58638eae08900980fbaa697527b90d4c0626b23c653246ed814cb29d4c9acffb", func := "example.com/corral/corral/zzlaws_internal_openai_b1.FnValueEndMatchesAJSONParser", spec := "fnValueEndMatchesAJSONParser", inPlace := ["internal/bytealg.IndexByteString"], apart := false }
def FnValueEndMatchesAJSONParserSaid : Prop := fnValueEndMatchesAJSONParserRow.holds Try.pinned (OpenSpec.ofChange fnValueEndMatchesAJSONParserSpec)

/-- ITS FALSE NEIGHBOUR: 'it returns false'. Refute it at one input. -/
def fnValueEndMatchesAJSONParserWrong : ChangeSpec := { name := "fnValueEndMatchesAJSONParser", fn := fun _ => fun
  | [d1, d2] => { results := [.lit (.bool false)], args := [d1, d2] }
  | _ => none }
def FnValueEndMatchesAJSONParserWrongFalsely : Prop := fnValueEndMatchesAJSONParserRow.holds Try.pinned (OpenSpec.ofChange fnValueEndMatchesAJSONParserWrong)

end Rows
end Go.Proofs.Qxb6601808a
