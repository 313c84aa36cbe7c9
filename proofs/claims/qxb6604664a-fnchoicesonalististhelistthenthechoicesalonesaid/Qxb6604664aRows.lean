/-
  No cell of these rows narrows 'for every input' (looked for: loops, veiled, ifaces, maps, wideKeys, modest, calm, conditions, laid).
  DERIVED. THE GIVEN ROWS OF THIS SEAT. 2 by the template 'for every input the law returns true; each argument reads behind the call as it read before'; 0 by the template 'total and deterministic' (their statements: Qxb6604664aTotals.lean).
  GIVEN WITH THE SEED: the statements are not yours to turn. If you find one false, say at which input.
  Laid BY PROGRAM, IN A SANDBOX (cutbox-rows.mjs): the forced cells as the released guide's own fill.sh prints them over the translation 3dc17e08c6145f3c… (all of the seat's roots in one cut). By AI agents, Wed Nov 11 2026. No macro, syntax, notation, axiom, sorry.
-/
import Derived.Test.Qxb6604664aChecked
import GoSem.Claim
import GoSem.ClaimJoined
import GoSem.ClaimMapViews
import Derived.JoinedTies
import Derived.KernelRfl
namespace Go.Proofs.Qxb6604664a
/- THE CELL 'sum', in the pinned program and in every row, IS THE sha256 OF THE DUMP (.gsa) THAT Qxb6604664aProg.lean LOADS. Nothing in Lean hashes anything: it is a label: what it is worth is what the hold of that sum in a sandbox is worth. -/
noncomputable def Try.pinned : Pinned := { name := "qxb6604664a", sum := "3dc17e08c6145f3c8eb6cf6aad99d812b0645565b199a24024e37b44bae30fcf", checked := Try.checked }
namespace Rows
def none {H : Type} : Left H := { results := [], args := [] }

/-- 'zzlaws_internal_values_b1.FnChoicesAppendsTheProductOfTheGivenValues': WHATEVER THE INPUT: true; the input reads as it did. -/
def fnChoicesAppendsTheProductOfTheGivenValuesSpec : ChangeSpec := { name := "fnChoicesAppendsTheProductOfTheGivenValues", fn := fun _ => fun
  | [d1, d2, d3, d4, d5] => { results := [.lit (.bool true)], args := [d1, d2, d3, d4, d5] }
  | _ => none }
def fnChoicesAppendsTheProductOfTheGivenValuesRow : OpenClaim := { program := "qxb6604664a", sum := "3dc17e08c6145f3c8eb6cf6aad99d812b0645565b199a24024e37b44bae30fcf", func := "example.com/ownerbasis/ownerbasis/zzlaws_internal_values_b1.FnChoicesAppendsTheProductOfTheGivenValues", spec := "fnChoicesAppendsTheProductOfTheGivenValues", plainKeys := false, apart := false }
def FnChoicesAppendsTheProductOfTheGivenValuesSaid : Prop := fnChoicesAppendsTheProductOfTheGivenValuesRow.holds Try.pinned (OpenSpec.ofChange fnChoicesAppendsTheProductOfTheGivenValuesSpec)

/-- ITS FALSE NEIGHBOUR: 'it returns false'. Refute it at one input. -/
def fnChoicesAppendsTheProductOfTheGivenValuesWrong : ChangeSpec := { name := "fnChoicesAppendsTheProductOfTheGivenValues", fn := fun _ => fun
  | [d1, d2, d3, d4, d5] => { results := [.lit (.bool false)], args := [d1, d2, d3, d4, d5] }
  | _ => none }
def FnChoicesAppendsTheProductOfTheGivenValuesWrongFalsely : Prop := fnChoicesAppendsTheProductOfTheGivenValuesRow.holds Try.pinned (OpenSpec.ofChange fnChoicesAppendsTheProductOfTheGivenValuesWrong)

/-- 'zzlaws_internal_values_b1.FnChoicesOnAListIsTheListThenTheChoicesAlone': WHATEVER THE INPUT: true; the input reads as it did. -/
def fnChoicesOnAListIsTheListThenTheChoicesAloneSpec : ChangeSpec := { name := "fnChoicesOnAListIsTheListThenTheChoicesAlone", fn := fun _ => fun
  | [d1, d2, d3, d4, d5] => { results := [.lit (.bool true)], args := [d1, d2, d3, d4, d5] }
  | _ => none }
def fnChoicesOnAListIsTheListThenTheChoicesAloneRow : OpenClaim := { program := "qxb6604664a", sum := "3dc17e08c6145f3c8eb6cf6aad99d812b0645565b199a24024e37b44bae30fcf", func := "example.com/ownerbasis/ownerbasis/zzlaws_internal_values_b1.FnChoicesOnAListIsTheListThenTheChoicesAlone", spec := "fnChoicesOnAListIsTheListThenTheChoicesAlone", plainKeys := false, apart := false }
def FnChoicesOnAListIsTheListThenTheChoicesAloneSaid : Prop := fnChoicesOnAListIsTheListThenTheChoicesAloneRow.holds Try.pinned (OpenSpec.ofChange fnChoicesOnAListIsTheListThenTheChoicesAloneSpec)

/-- ITS FALSE NEIGHBOUR: 'it returns false'. Refute it at one input. -/
def fnChoicesOnAListIsTheListThenTheChoicesAloneWrong : ChangeSpec := { name := "fnChoicesOnAListIsTheListThenTheChoicesAlone", fn := fun _ => fun
  | [d1, d2, d3, d4, d5] => { results := [.lit (.bool false)], args := [d1, d2, d3, d4, d5] }
  | _ => none }
def FnChoicesOnAListIsTheListThenTheChoicesAloneWrongFalsely : Prop := fnChoicesOnAListIsTheListThenTheChoicesAloneRow.holds Try.pinned (OpenSpec.ofChange fnChoicesOnAListIsTheListThenTheChoicesAloneWrong)

end Rows
end Go.Proofs.Qxb6604664a
