/-
  No cell of these rows narrows 'for every input' (looked for: loops, veiled, ifaces, maps, wideKeys, modest, calm, conditions, laid).
  DERIVED. THE GIVEN ROWS OF THIS SEAT. 7 by the template 'for every input the law returns true; each argument reads behind the call as it read before'; 0 by the template 'total and deterministic' (their statements: Qxb6602650aTotals.lean).
  GIVEN WITH THE SEED: the statements are not yours to turn. If you find one false, say at which input.
  Laid BY PROGRAM, IN A SANDBOX (cutbox-rows.mjs): the forced cells as the released guide's own fill.sh prints them over the translation 423eeefed76f042e… (all of the seat's roots in one cut). By AI agents, Wed Nov 11 2026. No macro, syntax, notation, axiom, sorry.
-/
import Derived.Test.Qxb6602650aChecked
import GoSem.Claim
import GoSem.ClaimJoined
import GoSem.ClaimMapViews
import Derived.JoinedTies
import Derived.KernelRfl
namespace Go.Proofs.Qxb6602650a
/- THE CELL 'sum', in the pinned program and in every row, IS THE sha256 OF THE DUMP (.gsa) THAT Qxb6602650aProg.lean LOADS. Nothing in Lean hashes anything: it is a label: what it is worth is what the hold of that sum in a sandbox is worth. -/
noncomputable def Try.pinned : Pinned := { name := "qxb6602650a", sum := "423eeefed76f042eaca519da45724831650d07b67e7b61dbdb67ada74fb04380", checked := Try.checked }
namespace Rows
def none {H : Type} : Left H := { results := [], args := [] }

/-- 'zzlaws_internal_strictjson_b1.FnKindOfNumberAgreesWithHexDigit': WHATEVER THE INPUT: true; the input reads as it did. -/
def fnKindOfNumberAgreesWithHexDigitSpec : ChangeSpec := { name := "fnKindOfNumberAgreesWithHexDigit", fn := fun _ => fun
  | [d] => { results := [.lit (.bool true)], args := [d] }
  | _ => none }
def fnKindOfNumberAgreesWithHexDigitRow : OpenClaim := { program := "qxb6602650a", sum := "423eeefed76f042eaca519da45724831650d07b67e7b61dbdb67ada74fb04380", func := "example.com/evenkeel/evenkeel/zzlaws_internal_strictjson_b1.FnKindOfNumberAgreesWithHexDigit", spec := "fnKindOfNumberAgreesWithHexDigit", apart := false }
def FnKindOfNumberAgreesWithHexDigitSaid : Prop := fnKindOfNumberAgreesWithHexDigitRow.holds Try.pinned (OpenSpec.ofChange fnKindOfNumberAgreesWithHexDigitSpec)

/-- ITS FALSE NEIGHBOUR: 'it returns false'. Refute it at one input. -/
def fnKindOfNumberAgreesWithHexDigitWrong : ChangeSpec := { name := "fnKindOfNumberAgreesWithHexDigit", fn := fun _ => fun
  | [d] => { results := [.lit (.bool false)], args := [d] }
  | _ => none }
def FnKindOfNumberAgreesWithHexDigitWrongFalsely : Prop := fnKindOfNumberAgreesWithHexDigitRow.holds Try.pinned (OpenSpec.ofChange fnKindOfNumberAgreesWithHexDigitWrong)

/-- 'zzlaws_internal_strictjson_b1.FnHexDigitExact': WHATEVER THE INPUT: true; the input reads as it did. -/
def fnHexDigitExactSpec : ChangeSpec := { name := "fnHexDigitExact", fn := fun _ => fun
  | [d] => { results := [.lit (.bool true)], args := [d] }
  | _ => none }
def fnHexDigitExactRow : OpenClaim := { program := "qxb6602650a", sum := "423eeefed76f042eaca519da45724831650d07b67e7b61dbdb67ada74fb04380", func := "example.com/evenkeel/evenkeel/zzlaws_internal_strictjson_b1.FnHexDigitExact", spec := "fnHexDigitExact", apart := false }
def FnHexDigitExactSaid : Prop := fnHexDigitExactRow.holds Try.pinned (OpenSpec.ofChange fnHexDigitExactSpec)

/-- ITS FALSE NEIGHBOUR: 'it returns false'. Refute it at one input. -/
def fnHexDigitExactWrong : ChangeSpec := { name := "fnHexDigitExact", fn := fun _ => fun
  | [d] => { results := [.lit (.bool false)], args := [d] }
  | _ => none }
def FnHexDigitExactWrongFalsely : Prop := fnHexDigitExactRow.holds Try.pinned (OpenSpec.ofChange fnHexDigitExactWrong)

/-- 'zzlaws_internal_strictjson_b1.FnHexDigitCaseBlind': WHATEVER THE INPUT: true; the input reads as it did. -/
def fnHexDigitCaseBlindSpec : ChangeSpec := { name := "fnHexDigitCaseBlind", fn := fun _ => fun
  | [d] => { results := [.lit (.bool true)], args := [d] }
  | _ => none }
def fnHexDigitCaseBlindRow : OpenClaim := { program := "qxb6602650a", sum := "423eeefed76f042eaca519da45724831650d07b67e7b61dbdb67ada74fb04380", func := "example.com/evenkeel/evenkeel/zzlaws_internal_strictjson_b1.FnHexDigitCaseBlind", spec := "fnHexDigitCaseBlind", apart := false }
def FnHexDigitCaseBlindSaid : Prop := fnHexDigitCaseBlindRow.holds Try.pinned (OpenSpec.ofChange fnHexDigitCaseBlindSpec)

/-- ITS FALSE NEIGHBOUR: 'it returns false'. Refute it at one input. -/
def fnHexDigitCaseBlindWrong : ChangeSpec := { name := "fnHexDigitCaseBlind", fn := fun _ => fun
  | [d] => { results := [.lit (.bool false)], args := [d] }
  | _ => none }
def FnHexDigitCaseBlindWrongFalsely : Prop := fnHexDigitCaseBlindRow.holds Try.pinned (OpenSpec.ofChange fnHexDigitCaseBlindWrong)

/-- 'zzlaws_internal_strictjson_b1.FnHexDigitRoundTrip': WHATEVER THE INPUT: true; the input reads as it did. -/
def fnHexDigitRoundTripSpec : ChangeSpec := { name := "fnHexDigitRoundTrip", fn := fun _ => fun
  | [d] => { results := [.lit (.bool true)], args := [d] }
  | _ => none }
def fnHexDigitRoundTripRow : OpenClaim := { program := "qxb6602650a", sum := "423eeefed76f042eaca519da45724831650d07b67e7b61dbdb67ada74fb04380", func := "example.com/evenkeel/evenkeel/zzlaws_internal_strictjson_b1.FnHexDigitRoundTrip", spec := "fnHexDigitRoundTrip", apart := false }
def FnHexDigitRoundTripSaid : Prop := fnHexDigitRoundTripRow.holds Try.pinned (OpenSpec.ofChange fnHexDigitRoundTripSpec)

/-- ITS FALSE NEIGHBOUR: 'it returns false'. Refute it at one input. -/
def fnHexDigitRoundTripWrong : ChangeSpec := { name := "fnHexDigitRoundTrip", fn := fun _ => fun
  | [d] => { results := [.lit (.bool false)], args := [d] }
  | _ => none }
def FnHexDigitRoundTripWrongFalsely : Prop := fnHexDigitRoundTripRow.holds Try.pinned (OpenSpec.ofChange fnHexDigitRoundTripWrong)

/-- 'zzlaws_internal_strictjson_b1.FnSkipSpaceExact': WHATEVER THE INPUT: true; the input reads as it did. -/
def fnSkipSpaceExactSpec : ChangeSpec := { name := "fnSkipSpaceExact", fn := fun _ => fun
  | [d1, d2] => { results := [.lit (.bool true)], args := [d1, d2] }
  | _ => none }
def fnSkipSpaceExactRow : OpenClaim := { program := "qxb6602650a", sum := "423eeefed76f042eaca519da45724831650d07b67e7b61dbdb67ada74fb04380", func := "example.com/evenkeel/evenkeel/zzlaws_internal_strictjson_b1.FnSkipSpaceExact", spec := "fnSkipSpaceExact", apart := false }
def FnSkipSpaceExactSaid : Prop := fnSkipSpaceExactRow.holds Try.pinned (OpenSpec.ofChange fnSkipSpaceExactSpec)

/-- ITS FALSE NEIGHBOUR: 'it returns false'. Refute it at one input. -/
def fnSkipSpaceExactWrong : ChangeSpec := { name := "fnSkipSpaceExact", fn := fun _ => fun
  | [d1, d2] => { results := [.lit (.bool false)], args := [d1, d2] }
  | _ => none }
def FnSkipSpaceExactWrongFalsely : Prop := fnSkipSpaceExactRow.holds Try.pinned (OpenSpec.ofChange fnSkipSpaceExactWrong)

/-- 'zzlaws_internal_strictjson_b1.FnSkipSpaceIdempotent': WHATEVER THE INPUT: true; the input reads as it did. -/
def fnSkipSpaceIdempotentSpec : ChangeSpec := { name := "fnSkipSpaceIdempotent", fn := fun _ => fun
  | [d1, d2] => { results := [.lit (.bool true)], args := [d1, d2] }
  | _ => none }
def fnSkipSpaceIdempotentRow : OpenClaim := { program := "qxb6602650a", sum := "423eeefed76f042eaca519da45724831650d07b67e7b61dbdb67ada74fb04380", func := "example.com/evenkeel/evenkeel/zzlaws_internal_strictjson_b1.FnSkipSpaceIdempotent", spec := "fnSkipSpaceIdempotent", apart := false }
def FnSkipSpaceIdempotentSaid : Prop := fnSkipSpaceIdempotentRow.holds Try.pinned (OpenSpec.ofChange fnSkipSpaceIdempotentSpec)

/-- ITS FALSE NEIGHBOUR: 'it returns false'. Refute it at one input. -/
def fnSkipSpaceIdempotentWrong : ChangeSpec := { name := "fnSkipSpaceIdempotent", fn := fun _ => fun
  | [d1, d2] => { results := [.lit (.bool false)], args := [d1, d2] }
  | _ => none }
def FnSkipSpaceIdempotentWrongFalsely : Prop := fnSkipSpaceIdempotentRow.holds Try.pinned (OpenSpec.ofChange fnSkipSpaceIdempotentWrong)

/-- 'zzlaws_internal_strictjson_b1.FnSkipSpaceSkipsNoValueStart': WHATEVER THE INPUT: true; the input reads as it did. -/
def fnSkipSpaceSkipsNoValueStartSpec : ChangeSpec := { name := "fnSkipSpaceSkipsNoValueStart", fn := fun _ => fun
  | [d1, d2] => { results := [.lit (.bool true)], args := [d1, d2] }
  | _ => none }
def fnSkipSpaceSkipsNoValueStartRow : OpenClaim := { program := "qxb6602650a", sum := "423eeefed76f042eaca519da45724831650d07b67e7b61dbdb67ada74fb04380", func := "example.com/evenkeel/evenkeel/zzlaws_internal_strictjson_b1.FnSkipSpaceSkipsNoValueStart", spec := "fnSkipSpaceSkipsNoValueStart", apart := false }
def FnSkipSpaceSkipsNoValueStartSaid : Prop := fnSkipSpaceSkipsNoValueStartRow.holds Try.pinned (OpenSpec.ofChange fnSkipSpaceSkipsNoValueStartSpec)

/-- ITS FALSE NEIGHBOUR: 'it returns false'. Refute it at one input. -/
def fnSkipSpaceSkipsNoValueStartWrong : ChangeSpec := { name := "fnSkipSpaceSkipsNoValueStart", fn := fun _ => fun
  | [d1, d2] => { results := [.lit (.bool false)], args := [d1, d2] }
  | _ => none }
def FnSkipSpaceSkipsNoValueStartWrongFalsely : Prop := fnSkipSpaceSkipsNoValueStartRow.holds Try.pinned (OpenSpec.ofChange fnSkipSpaceSkipsNoValueStartWrong)

end Rows
end Go.Proofs.Qxb6602650a
