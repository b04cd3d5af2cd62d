/-
  No cell of these rows narrows 'for every input' (looked for: loops, veiled, ifaces, maps, wideKeys, modest, calm, conditions, laid).
  DERIVED. THE GIVEN ROWS OF THIS SEAT. 7 by the template 'for every input the law returns true; each argument reads behind the call as it read before'; 0 by the template 'total and deterministic' (their statements: Qxb6600925aTotals.lean).
  GIVEN WITH THE SEED: the statements are not yours to turn. If you find one false, say at which input.
  Laid BY PROGRAM, IN A SANDBOX (cutbox-rows.mjs): the forced cells as the released guide's own fill.sh prints them over the translation a30a967a3cd3ac87… (all of the seat's roots in one cut). By AI agents, Wed Nov 11 2026. No macro, syntax, notation, axiom, sorry.
-/
import Derived.Test.Qxb6600925aChecked
import GoSem.Claim
import GoSem.ClaimJoined
import GoSem.ClaimMapViews
import Derived.JoinedTies
import Derived.KernelRfl
namespace Go.Proofs.Qxb6600925a
/- THE CELL 'sum', in the pinned program and in every row, IS THE sha256 OF THE DUMP (.gsa) THAT Qxb6600925aProg.lean LOADS. Nothing in Lean hashes anything: it is a label: what it is worth is what the hold of that sum in a sandbox is worth. -/
noncomputable def Try.pinned : Pinned := { name := "qxb6600925a", sum := "a30a967a3cd3ac875c9d939e487a4fb220e61892f99349010cb5dff8f48af8cf", checked := Try.checked }
namespace Rows
def none {H : Type} : Left H := { results := [], args := [] }

/-- 'zzlaws_root_b1.FnPercentEncodeCanonicalRoundTrip': WHATEVER THE INPUT: true; the input reads as it did. -/
def fnPercentEncodeCanonicalRoundTripSpec : ChangeSpec := { name := "fnPercentEncodeCanonicalRoundTrip", fn := fun _ => fun
  | [d] => { results := [.lit (.bool true)], args := [d] }
  | _ => none }
def fnPercentEncodeCanonicalRoundTripRow : OpenClaim := { program := "qxb6600925a", sum := "a30a967a3cd3ac875c9d939e487a4fb220e61892f99349010cb5dff8f48af8cf", func := "example.com/signlect/signlect/zzlaws_root_b1.FnPercentEncodeCanonicalRoundTrip", spec := "fnPercentEncodeCanonicalRoundTrip", inPlace := ["internal/abi.NoEscape"], apart := false }
def FnPercentEncodeCanonicalRoundTripSaid : Prop := fnPercentEncodeCanonicalRoundTripRow.holds Try.pinned (OpenSpec.ofChange fnPercentEncodeCanonicalRoundTripSpec)

/-- ITS FALSE NEIGHBOUR: 'it returns false'. Refute it at one input. -/
def fnPercentEncodeCanonicalRoundTripWrong : ChangeSpec := { name := "fnPercentEncodeCanonicalRoundTrip", fn := fun _ => fun
  | [d] => { results := [.lit (.bool false)], args := [d] }
  | _ => none }
def FnPercentEncodeCanonicalRoundTripWrongFalsely : Prop := fnPercentEncodeCanonicalRoundTripRow.holds Try.pinned (OpenSpec.ofChange fnPercentEncodeCanonicalRoundTripWrong)

/-- 'zzlaws_root_b1.FnPercentEncodeConcat': WHATEVER THE INPUT: true; the input reads as it did. -/
def fnPercentEncodeConcatSpec : ChangeSpec := { name := "fnPercentEncodeConcat", fn := fun _ => fun
  | [d1, d2] => { results := [.lit (.bool true)], args := [d1, d2] }
  | _ => none }
def fnPercentEncodeConcatRow : OpenClaim := { program := "qxb6600925a", sum := "a30a967a3cd3ac875c9d939e487a4fb220e61892f99349010cb5dff8f48af8cf", func := "example.com/signlect/signlect/zzlaws_root_b1.FnPercentEncodeConcat", spec := "fnPercentEncodeConcat", inPlace := ["internal/abi.NoEscape"], apart := false }
def FnPercentEncodeConcatSaid : Prop := fnPercentEncodeConcatRow.holds Try.pinned (OpenSpec.ofChange fnPercentEncodeConcatSpec)

/-- ITS FALSE NEIGHBOUR: 'it returns false'. Refute it at one input. -/
def fnPercentEncodeConcatWrong : ChangeSpec := { name := "fnPercentEncodeConcat", fn := fun _ => fun
  | [d1, d2] => { results := [.lit (.bool false)], args := [d1, d2] }
  | _ => none }
def FnPercentEncodeConcatWrongFalsely : Prop := fnPercentEncodeConcatRow.holds Try.pinned (OpenSpec.ofChange fnPercentEncodeConcatWrong)

/-- 'zzlaws_root_b1.FnPercentEncodeTwiceEscapesOnlyPercent': WHATEVER THE INPUT: true; the input reads as it did. -/
def fnPercentEncodeTwiceEscapesOnlyPercentSpec : ChangeSpec := { name := "fnPercentEncodeTwiceEscapesOnlyPercent", fn := fun _ => fun
  | [d] => { results := [.lit (.bool true)], args := [d] }
  | _ => none }
def fnPercentEncodeTwiceEscapesOnlyPercentRow : OpenClaim := { program := "qxb6600925a", sum := "a30a967a3cd3ac875c9d939e487a4fb220e61892f99349010cb5dff8f48af8cf", func := "example.com/signlect/signlect/zzlaws_root_b1.FnPercentEncodeTwiceEscapesOnlyPercent", spec := "fnPercentEncodeTwiceEscapesOnlyPercent", inPlace := ["internal/abi.NoEscape"], apart := false }
def FnPercentEncodeTwiceEscapesOnlyPercentSaid : Prop := fnPercentEncodeTwiceEscapesOnlyPercentRow.holds Try.pinned (OpenSpec.ofChange fnPercentEncodeTwiceEscapesOnlyPercentSpec)

/-- ITS FALSE NEIGHBOUR: 'it returns false'. Refute it at one input. -/
def fnPercentEncodeTwiceEscapesOnlyPercentWrong : ChangeSpec := { name := "fnPercentEncodeTwiceEscapesOnlyPercent", fn := fun _ => fun
  | [d] => { results := [.lit (.bool false)], args := [d] }
  | _ => none }
def FnPercentEncodeTwiceEscapesOnlyPercentWrongFalsely : Prop := fnPercentEncodeTwiceEscapesOnlyPercentRow.holds Try.pinned (OpenSpec.ofChange fnPercentEncodeTwiceEscapesOnlyPercentWrong)

/-- 'zzlaws_root_b1.FnHoldsFieldOfJoinIsOr': WHATEVER THE INPUT: true; the input reads as it did. -/
def fnHoldsFieldOfJoinIsOrSpec : ChangeSpec := { name := "fnHoldsFieldOfJoinIsOr", fn := fun _ => fun
  | [d1, d2, d3, d4, d5] => { results := [.lit (.bool true)], args := [d1, d2, d3, d4, d5] }
  | _ => none }
def fnHoldsFieldOfJoinIsOrRow : OpenClaim := { program := "qxb6600925a", sum := "a30a967a3cd3ac875c9d939e487a4fb220e61892f99349010cb5dff8f48af8cf", func := "example.com/signlect/signlect/zzlaws_root_b1.FnHoldsFieldOfJoinIsOr", spec := "fnHoldsFieldOfJoinIsOr", apart := false }
def FnHoldsFieldOfJoinIsOrSaid : Prop := fnHoldsFieldOfJoinIsOrRow.holds Try.pinned (OpenSpec.ofChange fnHoldsFieldOfJoinIsOrSpec)

/-- ITS FALSE NEIGHBOUR: 'it returns false'. Refute it at one input. -/
def fnHoldsFieldOfJoinIsOrWrong : ChangeSpec := { name := "fnHoldsFieldOfJoinIsOr", fn := fun _ => fun
  | [d1, d2, d3, d4, d5] => { results := [.lit (.bool false)], args := [d1, d2, d3, d4, d5] }
  | _ => none }
def FnHoldsFieldOfJoinIsOrWrongFalsely : Prop := fnHoldsFieldOfJoinIsOrRow.holds Try.pinned (OpenSpec.ofChange fnHoldsFieldOfJoinIsOrWrong)

/-- 'zzlaws_root_b1.FnHoldsFieldRangeInvisible': WHATEVER THE INPUT: true; the input reads as it did. -/
def fnHoldsFieldRangeInvisibleSpec : ChangeSpec := { name := "fnHoldsFieldRangeInvisible", fn := fun _ => fun
  | [d1, d2, d3] => { results := [.lit (.bool true)], args := [d1, d2, d3] }
  | _ => none }
def fnHoldsFieldRangeInvisibleRow : OpenClaim := { program := "qxb6600925a", sum := "a30a967a3cd3ac875c9d939e487a4fb220e61892f99349010cb5dff8f48af8cf", func := "example.com/signlect/signlect/zzlaws_root_b1.FnHoldsFieldRangeInvisible", spec := "fnHoldsFieldRangeInvisible", apart := false }
def FnHoldsFieldRangeInvisibleSaid : Prop := fnHoldsFieldRangeInvisibleRow.holds Try.pinned (OpenSpec.ofChange fnHoldsFieldRangeInvisibleSpec)

/-- ITS FALSE NEIGHBOUR: 'it returns false'. Refute it at one input. -/
def fnHoldsFieldRangeInvisibleWrong : ChangeSpec := { name := "fnHoldsFieldRangeInvisible", fn := fun _ => fun
  | [d1, d2, d3] => { results := [.lit (.bool false)], args := [d1, d2, d3] }
  | _ => none }
def FnHoldsFieldRangeInvisibleWrongFalsely : Prop := fnHoldsFieldRangeInvisibleRow.holds Try.pinned (OpenSpec.ofChange fnHoldsFieldRangeInvisibleWrong)

/-- 'zzlaws_root_b1.FnConditionHoldsExtension': WHATEVER THE INPUT: true; the input reads as it did. -/
def fnConditionHoldsExtensionSpec : ChangeSpec := { name := "fnConditionHoldsExtension", fn := fun _ => fun
  | [d1, d2, d3] => { results := [.lit (.bool true)], args := [d1, d2, d3] }
  | _ => none }
def fnConditionHoldsExtensionRow : OpenClaim := { program := "qxb6600925a", sum := "a30a967a3cd3ac875c9d939e487a4fb220e61892f99349010cb5dff8f48af8cf", func := "example.com/signlect/signlect/zzlaws_root_b1.FnConditionHoldsExtension", spec := "fnConditionHoldsExtension", apart := false }
def FnConditionHoldsExtensionSaid : Prop := fnConditionHoldsExtensionRow.holds Try.pinned (OpenSpec.ofChange fnConditionHoldsExtensionSpec)

/-- ITS FALSE NEIGHBOUR: 'it returns false'. Refute it at one input. -/
def fnConditionHoldsExtensionWrong : ChangeSpec := { name := "fnConditionHoldsExtension", fn := fun _ => fun
  | [d1, d2, d3] => { results := [.lit (.bool false)], args := [d1, d2, d3] }
  | _ => none }
def FnConditionHoldsExtensionWrongFalsely : Prop := fnConditionHoldsExtensionRow.holds Try.pinned (OpenSpec.ofChange fnConditionHoldsExtensionWrong)

/-- 'zzlaws_root_b1.FnConditionStartsWithWeakerThanEq': WHATEVER THE INPUT: true; the input reads as it did. -/
def fnConditionStartsWithWeakerThanEqSpec : ChangeSpec := { name := "fnConditionStartsWithWeakerThanEq", fn := fun _ => fun
  | [d1, d2, d3, d4] => { results := [.lit (.bool true)], args := [d1, d2, d3, d4] }
  | _ => none }
def fnConditionStartsWithWeakerThanEqRow : OpenClaim := { program := "qxb6600925a", sum := "a30a967a3cd3ac875c9d939e487a4fb220e61892f99349010cb5dff8f48af8cf", func := "example.com/signlect/signlect/zzlaws_root_b1.FnConditionStartsWithWeakerThanEq", spec := "fnConditionStartsWithWeakerThanEq", apart := false }
def FnConditionStartsWithWeakerThanEqSaid : Prop := fnConditionStartsWithWeakerThanEqRow.holds Try.pinned (OpenSpec.ofChange fnConditionStartsWithWeakerThanEqSpec)

/-- ITS FALSE NEIGHBOUR: 'it returns false'. Refute it at one input. -/
def fnConditionStartsWithWeakerThanEqWrong : ChangeSpec := { name := "fnConditionStartsWithWeakerThanEq", fn := fun _ => fun
  | [d1, d2, d3, d4] => { results := [.lit (.bool false)], args := [d1, d2, d3, d4] }
  | _ => none }
def FnConditionStartsWithWeakerThanEqWrongFalsely : Prop := fnConditionStartsWithWeakerThanEqRow.holds Try.pinned (OpenSpec.ofChange fnConditionStartsWithWeakerThanEqWrong)

end Rows
end Go.Proofs.Qxb6600925a
