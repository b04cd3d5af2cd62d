/-
  No cell of these rows narrows 'for every input' (looked for: loops, veiled, ifaces, maps, wideKeys, modest, calm, conditions, laid).
  DERIVED. THE GIVEN ROWS OF THIS SEAT. 7 by the template 'for every input the law returns true; each argument reads behind the call as it read before'; 0 by the template 'total and deterministic' (their statements: Qxb6602967aTotals.lean).
  GIVEN WITH THE SEED: the statements are not yours to turn. If you find one false, say at which input.
  Laid BY PROGRAM, IN A SANDBOX (cutbox-rows.mjs): the forced cells as the released guide's own fill.sh prints them over the translation 6822c17e270f056a… (all of the seat's roots in one cut). By AI agents, Wed Nov 11 2026. No macro, syntax, notation, axiom, sorry.
-/
import Derived.Test.Qxb6602967aChecked
import GoSem.Claim
import GoSem.ClaimJoined
import GoSem.ClaimMapViews
import Derived.JoinedTies
import Derived.KernelRfl
namespace Go.Proofs.Qxb6602967a
/- THE CELL 'sum', in the pinned program and in every row, IS THE sha256 OF THE DUMP (.gsa) THAT Qxb6602967aProg.lean LOADS. Nothing in Lean hashes anything: it is a label: what it is worth is what the hold of that sum in a sandbox is worth. -/
noncomputable def Try.pinned : Pinned := { name := "qxb6602967a", sum := "6822c17e270f056ae48435559f9f752c848783c50a7b843a2746e77880ce8895", checked := Try.checked }
namespace Rows
def none {H : Type} : Left H := { results := [], args := [] }

/-- 'zzlaws_internal_spf_b1.FnIsTopLabelMatchesRFC7208ABNF': WHATEVER THE INPUT: true; the input reads as it did. -/
def fnIsTopLabelMatchesRFC7208ABNFSpec : ChangeSpec := { name := "fnIsTopLabelMatchesRFC7208ABNF", fn := fun _ => fun
  | [d] => { results := [.lit (.bool true)], args := [d] }
  | _ => none }
def fnIsTopLabelMatchesRFC7208ABNFRow : OpenClaim := { program := "qxb6602967a", sum := "6822c17e270f056ae48435559f9f752c848783c50a7b843a2746e77880ce8895", func := "example.com/zonebridge/zonebridge/zzlaws_internal_spf_b1.FnIsTopLabelMatchesRFC7208ABNF", spec := "fnIsTopLabelMatchesRFC7208ABNF", apart := false }
def FnIsTopLabelMatchesRFC7208ABNFSaid : Prop := fnIsTopLabelMatchesRFC7208ABNFRow.holds Try.pinned (OpenSpec.ofChange fnIsTopLabelMatchesRFC7208ABNFSpec)

/-- ITS FALSE NEIGHBOUR: 'it returns false'. Refute it at one input. -/
def fnIsTopLabelMatchesRFC7208ABNFWrong : ChangeSpec := { name := "fnIsTopLabelMatchesRFC7208ABNF", fn := fun _ => fun
  | [d] => { results := [.lit (.bool false)], args := [d] }
  | _ => none }
def FnIsTopLabelMatchesRFC7208ABNFWrongFalsely : Prop := fnIsTopLabelMatchesRFC7208ABNFRow.holds Try.pinned (OpenSpec.ofChange fnIsTopLabelMatchesRFC7208ABNFWrong)

/-- 'zzlaws_internal_spf_b1.FnIsTopLabelSameReversed': WHATEVER THE INPUT: true; the input reads as it did. -/
def fnIsTopLabelSameReversedSpec : ChangeSpec := { name := "fnIsTopLabelSameReversed", fn := fun _ => fun
  | [d] => { results := [.lit (.bool true)], args := [d] }
  | _ => none }
def fnIsTopLabelSameReversedRow : OpenClaim := { program := "qxb6602967a", sum := "6822c17e270f056ae48435559f9f752c848783c50a7b843a2746e77880ce8895", func := "example.com/zonebridge/zonebridge/zzlaws_internal_spf_b1.FnIsTopLabelSameReversed", spec := "fnIsTopLabelSameReversed", apart := false }
def FnIsTopLabelSameReversedSaid : Prop := fnIsTopLabelSameReversedRow.holds Try.pinned (OpenSpec.ofChange fnIsTopLabelSameReversedSpec)

/-- ITS FALSE NEIGHBOUR: 'it returns false'. Refute it at one input. -/
def fnIsTopLabelSameReversedWrong : ChangeSpec := { name := "fnIsTopLabelSameReversed", fn := fun _ => fun
  | [d] => { results := [.lit (.bool false)], args := [d] }
  | _ => none }
def FnIsTopLabelSameReversedWrongFalsely : Prop := fnIsTopLabelSameReversedRow.holds Try.pinned (OpenSpec.ofChange fnIsTopLabelSameReversedWrong)

/-- 'zzlaws_internal_spf_b1.FnIsTopLabelIgnoresLetterCase': WHATEVER THE INPUT: true; the input reads as it did. -/
def fnIsTopLabelIgnoresLetterCaseSpec : ChangeSpec := { name := "fnIsTopLabelIgnoresLetterCase", fn := fun _ => fun
  | [d] => { results := [.lit (.bool true)], args := [d] }
  | _ => none }
def fnIsTopLabelIgnoresLetterCaseRow : OpenClaim := { program := "qxb6602967a", sum := "6822c17e270f056ae48435559f9f752c848783c50a7b843a2746e77880ce8895", func := "example.com/zonebridge/zonebridge/zzlaws_internal_spf_b1.FnIsTopLabelIgnoresLetterCase", spec := "fnIsTopLabelIgnoresLetterCase", apart := false }
def FnIsTopLabelIgnoresLetterCaseSaid : Prop := fnIsTopLabelIgnoresLetterCaseRow.holds Try.pinned (OpenSpec.ofChange fnIsTopLabelIgnoresLetterCaseSpec)

/-- ITS FALSE NEIGHBOUR: 'it returns false'. Refute it at one input. -/
def fnIsTopLabelIgnoresLetterCaseWrong : ChangeSpec := { name := "fnIsTopLabelIgnoresLetterCase", fn := fun _ => fun
  | [d] => { results := [.lit (.bool false)], args := [d] }
  | _ => none }
def FnIsTopLabelIgnoresLetterCaseWrongFalsely : Prop := fnIsTopLabelIgnoresLetterCaseRow.holds Try.pinned (OpenSpec.ofChange fnIsTopLabelIgnoresLetterCaseWrong)

/-- 'zzlaws_internal_spf_b1.FnTermKeyMatchesMacroParityModel': WHATEVER THE INPUT: true; the input reads as it did. -/
def fnTermKeyMatchesMacroParityModelSpec : ChangeSpec := { name := "fnTermKeyMatchesMacroParityModel", fn := fun _ => fun
  | [d1, d2, d3, d4, d5] => { results := [.lit (.bool true)], args := [d1, d2, d3, d4, d5] }
  | _ => none }
def fnTermKeyMatchesMacroParityModelRow : OpenClaim := { program := "qxb6602967a", sum := "6822c17e270f056ae48435559f9f752c848783c50a7b843a2746e77880ce8895", func := "example.com/zonebridge/zonebridge/zzlaws_internal_spf_b1.FnTermKeyMatchesMacroParityModel", spec := "fnTermKeyMatchesMacroParityModel", inPlace := ["internal/abi.NoEscape", "internal/bytealg.MakeNoZero"], apart := false }
def FnTermKeyMatchesMacroParityModelSaid : Prop := fnTermKeyMatchesMacroParityModelRow.holds Try.pinned (OpenSpec.ofChange fnTermKeyMatchesMacroParityModelSpec)

/-- ITS FALSE NEIGHBOUR: 'it returns false'. Refute it at one input. -/
def fnTermKeyMatchesMacroParityModelWrong : ChangeSpec := { name := "fnTermKeyMatchesMacroParityModel", fn := fun _ => fun
  | [d1, d2, d3, d4, d5] => { results := [.lit (.bool false)], args := [d1, d2, d3, d4, d5] }
  | _ => none }
def FnTermKeyMatchesMacroParityModelWrongFalsely : Prop := fnTermKeyMatchesMacroParityModelRow.holds Try.pinned (OpenSpec.ofChange fnTermKeyMatchesMacroParityModelWrong)

/-- 'zzlaws_internal_spf_b1.FnTermKeyIdempotent': WHATEVER THE INPUT: true; the input reads as it did. -/
def fnTermKeyIdempotentSpec : ChangeSpec := { name := "fnTermKeyIdempotent", fn := fun _ => fun
  | [d1, d2, d3, d4, d5] => { results := [.lit (.bool true)], args := [d1, d2, d3, d4, d5] }
  | _ => none }
def fnTermKeyIdempotentRow : OpenClaim := { program := "qxb6602967a", sum := "6822c17e270f056ae48435559f9f752c848783c50a7b843a2746e77880ce8895", func := "example.com/zonebridge/zonebridge/zzlaws_internal_spf_b1.FnTermKeyIdempotent", spec := "fnTermKeyIdempotent", inPlace := ["internal/abi.NoEscape", "internal/bytealg.MakeNoZero"], apart := false }
def FnTermKeyIdempotentSaid : Prop := fnTermKeyIdempotentRow.holds Try.pinned (OpenSpec.ofChange fnTermKeyIdempotentSpec)

/-- ITS FALSE NEIGHBOUR: 'it returns false'. Refute it at one input. -/
def fnTermKeyIdempotentWrong : ChangeSpec := { name := "fnTermKeyIdempotent", fn := fun _ => fun
  | [d1, d2, d3, d4, d5] => { results := [.lit (.bool false)], args := [d1, d2, d3, d4, d5] }
  | _ => none }
def FnTermKeyIdempotentWrongFalsely : Prop := fnTermKeyIdempotentRow.holds Try.pinned (OpenSpec.ofChange fnTermKeyIdempotentWrong)

/-- 'zzlaws_internal_spf_b1.FnTermKeyIgnoresQualifierAndArg': WHATEVER THE INPUT: true; the input reads as it did. -/
def fnTermKeyIgnoresQualifierAndArgSpec : ChangeSpec := { name := "fnTermKeyIgnoresQualifierAndArg", fn := fun _ => fun
  | [d1, d2, d3, d4, d5, d6, d7, d8] => { results := [.lit (.bool true)], args := [d1, d2, d3, d4, d5, d6, d7, d8] }
  | _ => none }
def fnTermKeyIgnoresQualifierAndArgRow : OpenClaim := { program := "qxb6602967a", sum := "6822c17e270f056ae48435559f9f752c848783c50a7b843a2746e77880ce8895", func := "example.com/zonebridge/zonebridge/zzlaws_internal_spf_b1.FnTermKeyIgnoresQualifierAndArg", spec := "fnTermKeyIgnoresQualifierAndArg", inPlace := ["internal/abi.NoEscape", "internal/bytealg.MakeNoZero"], apart := false }
def FnTermKeyIgnoresQualifierAndArgSaid : Prop := fnTermKeyIgnoresQualifierAndArgRow.holds Try.pinned (OpenSpec.ofChange fnTermKeyIgnoresQualifierAndArgSpec)

/-- ITS FALSE NEIGHBOUR: 'it returns false'. Refute it at one input. -/
def fnTermKeyIgnoresQualifierAndArgWrong : ChangeSpec := { name := "fnTermKeyIgnoresQualifierAndArg", fn := fun _ => fun
  | [d1, d2, d3, d4, d5, d6, d7, d8] => { results := [.lit (.bool false)], args := [d1, d2, d3, d4, d5, d6, d7, d8] }
  | _ => none }
def FnTermKeyIgnoresQualifierAndArgWrongFalsely : Prop := fnTermKeyIgnoresQualifierAndArgRow.holds Try.pinned (OpenSpec.ofChange fnTermKeyIgnoresQualifierAndArgWrong)

/-- 'zzlaws_internal_spf_b1.FnRecordStringSplitsAtAnyTerm': WHATEVER THE INPUT: true; the input reads as it did. -/
def fnRecordStringSplitsAtAnyTermSpec : ChangeSpec := { name := "fnRecordStringSplitsAtAnyTerm", fn := fun _ => fun
  | [d1, d2, d3, d4, d5, d6, d7, d8, d9, d10, d11, d12] => { results := [.lit (.bool true)], args := [d1, d2, d3, d4, d5, d6, d7, d8, d9, d10, d11, d12] }
  | _ => none }
def fnRecordStringSplitsAtAnyTermRow : OpenClaim := { program := "qxb6602967a", sum := "6822c17e270f056ae48435559f9f752c848783c50a7b843a2746e77880ce8895", func := "example.com/zonebridge/zonebridge/zzlaws_internal_spf_b1.FnRecordStringSplitsAtAnyTerm", spec := "fnRecordStringSplitsAtAnyTerm", inPlace := ["internal/abi.NoEscape"], apart := false }
def FnRecordStringSplitsAtAnyTermSaid : Prop := fnRecordStringSplitsAtAnyTermRow.holds Try.pinned (OpenSpec.ofChange fnRecordStringSplitsAtAnyTermSpec)

/-- ITS FALSE NEIGHBOUR: 'it returns false'. Refute it at one input. -/
def fnRecordStringSplitsAtAnyTermWrong : ChangeSpec := { name := "fnRecordStringSplitsAtAnyTerm", fn := fun _ => fun
  | [d1, d2, d3, d4, d5, d6, d7, d8, d9, d10, d11, d12] => { results := [.lit (.bool false)], args := [d1, d2, d3, d4, d5, d6, d7, d8, d9, d10, d11, d12] }
  | _ => none }
def FnRecordStringSplitsAtAnyTermWrongFalsely : Prop := fnRecordStringSplitsAtAnyTermRow.holds Try.pinned (OpenSpec.ofChange fnRecordStringSplitsAtAnyTermWrong)

end Rows
end Go.Proofs.Qxb6602967a
