/-
  No cell of these rows narrows 'for every input' (looked for: loops, veiled, ifaces, maps, wideKeys, modest, calm, conditions, laid).
  DERIVED. THE GIVEN ROWS OF THIS SEAT. 5 by the template 'for every input the law returns true; each argument reads behind the call as it read before'; 0 by the template 'total and deterministic' (their statements: Qxb6617093aTotals.lean).
  GIVEN WITH THE SEED: the statements are not yours to turn. If you find one false, say at which input.
  Laid BY PROGRAM, IN A SANDBOX (cutbox-rows.mjs): the forced cells as the released guide's own fill.sh prints them over the translation fa22bd5badd31fed… (all of the seat's roots in one cut). By AI agents, Wed Nov 11 2026. No macro, syntax, notation, axiom, sorry.
-/
import Derived.Test.Qxb6617093aChecked
import GoSem.Claim
import GoSem.ClaimJoined
import GoSem.ClaimMapViews
import Derived.JoinedTies
import Derived.KernelRfl
namespace Go.Proofs.Qxb6617093a
/- THE CELL 'sum', in the pinned program and in every row, IS THE sha256 OF THE DUMP (.gsa) THAT Qxb6617093aProg.lean LOADS. Nothing in Lean hashes anything: it is a label: what it is worth is what the hold of that sum in a sandbox is worth. -/
noncomputable def Try.pinned : Pinned := { name := "qxb6617093a", sum := "fa22bd5badd31fed0696aeb1c2ad4ae4e9c48890cd039b8e273452b15315aed3", checked := Try.checked }
namespace Rows
def none {H : Type} : Left H := { results := [], args := [] }

/-- 'zzlaws_internal_percent_b1.FnEncodeIsCanonicalWrittenForm': WHATEVER THE INPUT: true; the input reads as it did. -/
def fnEncodeIsCanonicalWrittenFormSpec : ChangeSpec := { name := "fnEncodeIsCanonicalWrittenForm", fn := fun _ => fun
  | [d] => { results := [.lit (.bool true)], args := [d] }
  | _ => none }
def fnEncodeIsCanonicalWrittenFormRow : OpenClaim := { program := "qxb6617093a", sum := "fa22bd5badd31fed0696aeb1c2ad4ae4e9c48890cd039b8e273452b15315aed3", func := "example.com/stratalock/stratalock/zzlaws_internal_percent_b1.FnEncodeIsCanonicalWrittenForm", spec := "fnEncodeIsCanonicalWrittenForm", inPlace := ["internal/abi.NoEscape", "internal/bytealg.MakeNoZero"], apart := false }
def FnEncodeIsCanonicalWrittenFormSaid : Prop := fnEncodeIsCanonicalWrittenFormRow.holds Try.pinned (OpenSpec.ofChange fnEncodeIsCanonicalWrittenFormSpec)

/-- ITS FALSE NEIGHBOUR: 'it returns false'. Refute it at one input. -/
def fnEncodeIsCanonicalWrittenFormWrong : ChangeSpec := { name := "fnEncodeIsCanonicalWrittenForm", fn := fun _ => fun
  | [d] => { results := [.lit (.bool false)], args := [d] }
  | _ => none }
def FnEncodeIsCanonicalWrittenFormWrongFalsely : Prop := fnEncodeIsCanonicalWrittenFormRow.holds Try.pinned (OpenSpec.ofChange fnEncodeIsCanonicalWrittenFormWrong)

/-- 'zzlaws_internal_percent_b1.FnEncodeSplitsAtAnyCut': WHATEVER THE INPUT: true; the input reads as it did. -/
def fnEncodeSplitsAtAnyCutSpec : ChangeSpec := { name := "fnEncodeSplitsAtAnyCut", fn := fun _ => fun
  | [d1, d2] => { results := [.lit (.bool true)], args := [d1, d2] }
  | _ => none }
def fnEncodeSplitsAtAnyCutRow : OpenClaim := { program := "qxb6617093a", sum := "fa22bd5badd31fed0696aeb1c2ad4ae4e9c48890cd039b8e273452b15315aed3", func := "example.com/stratalock/stratalock/zzlaws_internal_percent_b1.FnEncodeSplitsAtAnyCut", spec := "fnEncodeSplitsAtAnyCut", inPlace := ["internal/abi.NoEscape", "internal/bytealg.MakeNoZero"], apart := false }
def FnEncodeSplitsAtAnyCutSaid : Prop := fnEncodeSplitsAtAnyCutRow.holds Try.pinned (OpenSpec.ofChange fnEncodeSplitsAtAnyCutSpec)

/-- ITS FALSE NEIGHBOUR: 'it returns false'. Refute it at one input. -/
def fnEncodeSplitsAtAnyCutWrong : ChangeSpec := { name := "fnEncodeSplitsAtAnyCut", fn := fun _ => fun
  | [d1, d2] => { results := [.lit (.bool false)], args := [d1, d2] }
  | _ => none }
def FnEncodeSplitsAtAnyCutWrongFalsely : Prop := fnEncodeSplitsAtAnyCutRow.holds Try.pinned (OpenSpec.ofChange fnEncodeSplitsAtAnyCutWrong)

/-- 'zzlaws_internal_percent_b1.FnEncodeTwiceEscapesOnlyPercent': WHATEVER THE INPUT: true; the input reads as it did. -/
def fnEncodeTwiceEscapesOnlyPercentSpec : ChangeSpec := { name := "fnEncodeTwiceEscapesOnlyPercent", fn := fun _ => fun
  | [d] => { results := [.lit (.bool true)], args := [d] }
  | _ => none }
def fnEncodeTwiceEscapesOnlyPercentRow : OpenClaim := { program := "qxb6617093a", sum := "fa22bd5badd31fed0696aeb1c2ad4ae4e9c48890cd039b8e273452b15315aed3", func := "example.com/stratalock/stratalock/zzlaws_internal_percent_b1.FnEncodeTwiceEscapesOnlyPercent", spec := "fnEncodeTwiceEscapesOnlyPercent", inPlace := ["internal/abi.NoEscape", "internal/bytealg.MakeNoZero"], apart := false }
def FnEncodeTwiceEscapesOnlyPercentSaid : Prop := fnEncodeTwiceEscapesOnlyPercentRow.holds Try.pinned (OpenSpec.ofChange fnEncodeTwiceEscapesOnlyPercentSpec)

/-- ITS FALSE NEIGHBOUR: 'it returns false'. Refute it at one input. -/
def fnEncodeTwiceEscapesOnlyPercentWrong : ChangeSpec := { name := "fnEncodeTwiceEscapesOnlyPercent", fn := fun _ => fun
  | [d] => { results := [.lit (.bool false)], args := [d] }
  | _ => none }
def FnEncodeTwiceEscapesOnlyPercentWrongFalsely : Prop := fnEncodeTwiceEscapesOnlyPercentRow.holds Try.pinned (OpenSpec.ofChange fnEncodeTwiceEscapesOnlyPercentWrong)

/-- 'zzlaws_internal_percent_b1.FnDigitReadsBackEncodesDigitsInEitherCase': WHATEVER THE INPUT: true; the input reads as it did. -/
def fnDigitReadsBackEncodesDigitsInEitherCaseSpec : ChangeSpec := { name := "fnDigitReadsBackEncodesDigitsInEitherCase", fn := fun _ => fun
  | [d] => { results := [.lit (.bool true)], args := [d] }
  | _ => none }
def fnDigitReadsBackEncodesDigitsInEitherCaseRow : OpenClaim := { program := "qxb6617093a", sum := "fa22bd5badd31fed0696aeb1c2ad4ae4e9c48890cd039b8e273452b15315aed3", func := "example.com/stratalock/stratalock/zzlaws_internal_percent_b1.FnDigitReadsBackEncodesDigitsInEitherCase", spec := "fnDigitReadsBackEncodesDigitsInEitherCase", inPlace := ["internal/abi.NoEscape", "internal/bytealg.MakeNoZero"], apart := false }
def FnDigitReadsBackEncodesDigitsInEitherCaseSaid : Prop := fnDigitReadsBackEncodesDigitsInEitherCaseRow.holds Try.pinned (OpenSpec.ofChange fnDigitReadsBackEncodesDigitsInEitherCaseSpec)

/-- ITS FALSE NEIGHBOUR: 'it returns false'. Refute it at one input. -/
def fnDigitReadsBackEncodesDigitsInEitherCaseWrong : ChangeSpec := { name := "fnDigitReadsBackEncodesDigitsInEitherCase", fn := fun _ => fun
  | [d] => { results := [.lit (.bool false)], args := [d] }
  | _ => none }
def FnDigitReadsBackEncodesDigitsInEitherCaseWrongFalsely : Prop := fnDigitReadsBackEncodesDigitsInEitherCaseRow.holds Try.pinned (OpenSpec.ofChange fnDigitReadsBackEncodesDigitsInEitherCaseWrong)

/-- 'zzlaws_internal_percent_b1.FnDigitDecodesEveryByteEncodeWrites': WHATEVER THE INPUT: true; the input reads as it did. -/
def fnDigitDecodesEveryByteEncodeWritesSpec : ChangeSpec := { name := "fnDigitDecodesEveryByteEncodeWrites", fn := fun _ => fun
  | [d] => { results := [.lit (.bool true)], args := [d] }
  | _ => none }
def fnDigitDecodesEveryByteEncodeWritesRow : OpenClaim := { program := "qxb6617093a", sum := "fa22bd5badd31fed0696aeb1c2ad4ae4e9c48890cd039b8e273452b15315aed3", func := "example.com/stratalock/stratalock/zzlaws_internal_percent_b1.FnDigitDecodesEveryByteEncodeWrites", spec := "fnDigitDecodesEveryByteEncodeWrites", inPlace := ["internal/abi.NoEscape", "internal/bytealg.MakeNoZero"], apart := false }
def FnDigitDecodesEveryByteEncodeWritesSaid : Prop := fnDigitDecodesEveryByteEncodeWritesRow.holds Try.pinned (OpenSpec.ofChange fnDigitDecodesEveryByteEncodeWritesSpec)

/-- ITS FALSE NEIGHBOUR: 'it returns false'. Refute it at one input. -/
def fnDigitDecodesEveryByteEncodeWritesWrong : ChangeSpec := { name := "fnDigitDecodesEveryByteEncodeWrites", fn := fun _ => fun
  | [d] => { results := [.lit (.bool false)], args := [d] }
  | _ => none }
def FnDigitDecodesEveryByteEncodeWritesWrongFalsely : Prop := fnDigitDecodesEveryByteEncodeWritesRow.holds Try.pinned (OpenSpec.ofChange fnDigitDecodesEveryByteEncodeWritesWrong)

end Rows
end Go.Proofs.Qxb6617093a
