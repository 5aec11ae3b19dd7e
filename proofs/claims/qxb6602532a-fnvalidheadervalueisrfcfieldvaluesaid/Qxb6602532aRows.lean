/-
  No cell of these rows narrows 'for every input' (looked for: loops, veiled, ifaces, maps, wideKeys, modest, calm, conditions, laid).
  DERIVED. THE GIVEN ROWS OF THIS SEAT. 8 by the template 'for every input the law returns true; each argument reads behind the call as it read before'; 0 by the template 'total and deterministic' (their statements: Qxb6602532aTotals.lean).
  GIVEN WITH THE SEED: the statements are not yours to turn. If you find one false, say at which input.
  Laid BY PROGRAM, IN A SANDBOX (cutbox-rows.mjs): the forced cells as the released guide's own fill.sh prints them over the translation cfb7d11f28e4f91c… (all of the seat's roots in one cut). By AI agents, Wed Nov 11 2026. No macro, syntax, notation, axiom, sorry.
-/
import Derived.Test.Qxb6602532aChecked
import GoSem.Claim
import GoSem.ClaimJoined
import GoSem.ClaimMapViews
import Derived.JoinedTies
import Derived.KernelRfl
namespace Go.Proofs.Qxb6602532a
/- THE CELL 'sum', in the pinned program and in every row, IS THE sha256 OF THE DUMP (.gsa) THAT Qxb6602532aProg.lean LOADS. Nothing in Lean hashes anything: it is a label: what it is worth is what the hold of that sum in a sandbox is worth. -/
noncomputable def Try.pinned : Pinned := { name := "qxb6602532a", sum := "cfb7d11f28e4f91c681421fa768829fd62d4f66cecd59854b5ce0fb4ecfdb664", checked := Try.checked }
namespace Rows
def none {H : Type} : Left H := { results := [], args := [] }

/-- 'zzlaws_internal_protocol_b1.FnValidHeaderNameIsRFCToken': WHATEVER THE INPUT: true; the input reads as it did. -/
def fnValidHeaderNameIsRFCTokenSpec : ChangeSpec := { name := "fnValidHeaderNameIsRFCToken", fn := fun _ => fun
  | [d] => { results := [.lit (.bool true)], args := [d] }
  | _ => none }
def fnValidHeaderNameIsRFCTokenRow : OpenClaim := { program := "qxb6602532a", sum := "cfb7d11f28e4f91c681421fa768829fd62d4f66cecd59854b5ce0fb4ecfdb664", func := "example.com/twostroke/twostroke/zzlaws_internal_protocol_b1.FnValidHeaderNameIsRFCToken", spec := "fnValidHeaderNameIsRFCToken", apart := false }
def FnValidHeaderNameIsRFCTokenSaid : Prop := fnValidHeaderNameIsRFCTokenRow.holds Try.pinned (OpenSpec.ofChange fnValidHeaderNameIsRFCTokenSpec)

/-- ITS FALSE NEIGHBOUR: 'it returns false'. Refute it at one input. -/
def fnValidHeaderNameIsRFCTokenWrong : ChangeSpec := { name := "fnValidHeaderNameIsRFCToken", fn := fun _ => fun
  | [d] => { results := [.lit (.bool false)], args := [d] }
  | _ => none }
def FnValidHeaderNameIsRFCTokenWrongFalsely : Prop := fnValidHeaderNameIsRFCTokenRow.holds Try.pinned (OpenSpec.ofChange fnValidHeaderNameIsRFCTokenWrong)

/-- 'zzlaws_internal_protocol_b1.FnValidHeaderNameConcat': WHATEVER THE INPUT: true; the input reads as it did. -/
def fnValidHeaderNameConcatSpec : ChangeSpec := { name := "fnValidHeaderNameConcat", fn := fun _ => fun
  | [d1, d2] => { results := [.lit (.bool true)], args := [d1, d2] }
  | _ => none }
def fnValidHeaderNameConcatRow : OpenClaim := { program := "qxb6602532a", sum := "cfb7d11f28e4f91c681421fa768829fd62d4f66cecd59854b5ce0fb4ecfdb664", func := "example.com/twostroke/twostroke/zzlaws_internal_protocol_b1.FnValidHeaderNameConcat", spec := "fnValidHeaderNameConcat", apart := false }
def FnValidHeaderNameConcatSaid : Prop := fnValidHeaderNameConcatRow.holds Try.pinned (OpenSpec.ofChange fnValidHeaderNameConcatSpec)

/-- ITS FALSE NEIGHBOUR: 'it returns false'. Refute it at one input. -/
def fnValidHeaderNameConcatWrong : ChangeSpec := { name := "fnValidHeaderNameConcat", fn := fun _ => fun
  | [d1, d2] => { results := [.lit (.bool false)], args := [d1, d2] }
  | _ => none }
def FnValidHeaderNameConcatWrongFalsely : Prop := fnValidHeaderNameConcatRow.holds Try.pinned (OpenSpec.ofChange fnValidHeaderNameConcatWrong)

/-- 'zzlaws_internal_protocol_b1.FnValidHeaderNameIsValidHeaderValue': WHATEVER THE INPUT: true; the input reads as it did. -/
def fnValidHeaderNameIsValidHeaderValueSpec : ChangeSpec := { name := "fnValidHeaderNameIsValidHeaderValue", fn := fun _ => fun
  | [d] => { results := [.lit (.bool true)], args := [d] }
  | _ => none }
def fnValidHeaderNameIsValidHeaderValueRow : OpenClaim := { program := "qxb6602532a", sum := "cfb7d11f28e4f91c681421fa768829fd62d4f66cecd59854b5ce0fb4ecfdb664", func := "example.com/twostroke/twostroke/zzlaws_internal_protocol_b1.FnValidHeaderNameIsValidHeaderValue", spec := "fnValidHeaderNameIsValidHeaderValue", apart := false }
def FnValidHeaderNameIsValidHeaderValueSaid : Prop := fnValidHeaderNameIsValidHeaderValueRow.holds Try.pinned (OpenSpec.ofChange fnValidHeaderNameIsValidHeaderValueSpec)

/-- ITS FALSE NEIGHBOUR: 'it returns false'. Refute it at one input. -/
def fnValidHeaderNameIsValidHeaderValueWrong : ChangeSpec := { name := "fnValidHeaderNameIsValidHeaderValue", fn := fun _ => fun
  | [d] => { results := [.lit (.bool false)], args := [d] }
  | _ => none }
def FnValidHeaderNameIsValidHeaderValueWrongFalsely : Prop := fnValidHeaderNameIsValidHeaderValueRow.holds Try.pinned (OpenSpec.ofChange fnValidHeaderNameIsValidHeaderValueWrong)

/-- 'zzlaws_internal_protocol_b1.FnValidHeaderValueIsRFCFieldValue': WHATEVER THE INPUT: true; the input reads as it did. -/
def fnValidHeaderValueIsRFCFieldValueSpec : ChangeSpec := { name := "fnValidHeaderValueIsRFCFieldValue", fn := fun _ => fun
  | [d] => { results := [.lit (.bool true)], args := [d] }
  | _ => none }
def fnValidHeaderValueIsRFCFieldValueRow : OpenClaim := { program := "qxb6602532a", sum := "cfb7d11f28e4f91c681421fa768829fd62d4f66cecd59854b5ce0fb4ecfdb664", func := "example.com/twostroke/twostroke/zzlaws_internal_protocol_b1.FnValidHeaderValueIsRFCFieldValue", spec := "fnValidHeaderValueIsRFCFieldValue", apart := false }
def FnValidHeaderValueIsRFCFieldValueSaid : Prop := fnValidHeaderValueIsRFCFieldValueRow.holds Try.pinned (OpenSpec.ofChange fnValidHeaderValueIsRFCFieldValueSpec)

/-- ITS FALSE NEIGHBOUR: 'it returns false'. Refute it at one input. -/
def fnValidHeaderValueIsRFCFieldValueWrong : ChangeSpec := { name := "fnValidHeaderValueIsRFCFieldValue", fn := fun _ => fun
  | [d] => { results := [.lit (.bool false)], args := [d] }
  | _ => none }
def FnValidHeaderValueIsRFCFieldValueWrongFalsely : Prop := fnValidHeaderValueIsRFCFieldValueRow.holds Try.pinned (OpenSpec.ofChange fnValidHeaderValueIsRFCFieldValueWrong)

/-- 'zzlaws_internal_protocol_b1.FnValidHeaderValueConcat': WHATEVER THE INPUT: true; the input reads as it did. -/
def fnValidHeaderValueConcatSpec : ChangeSpec := { name := "fnValidHeaderValueConcat", fn := fun _ => fun
  | [d1, d2] => { results := [.lit (.bool true)], args := [d1, d2] }
  | _ => none }
def fnValidHeaderValueConcatRow : OpenClaim := { program := "qxb6602532a", sum := "cfb7d11f28e4f91c681421fa768829fd62d4f66cecd59854b5ce0fb4ecfdb664", func := "example.com/twostroke/twostroke/zzlaws_internal_protocol_b1.FnValidHeaderValueConcat", spec := "fnValidHeaderValueConcat", apart := false }
def FnValidHeaderValueConcatSaid : Prop := fnValidHeaderValueConcatRow.holds Try.pinned (OpenSpec.ofChange fnValidHeaderValueConcatSpec)

/-- ITS FALSE NEIGHBOUR: 'it returns false'. Refute it at one input. -/
def fnValidHeaderValueConcatWrong : ChangeSpec := { name := "fnValidHeaderValueConcat", fn := fun _ => fun
  | [d1, d2] => { results := [.lit (.bool false)], args := [d1, d2] }
  | _ => none }
def FnValidHeaderValueConcatWrongFalsely : Prop := fnValidHeaderValueConcatRow.holds Try.pinned (OpenSpec.ofChange fnValidHeaderValueConcatWrong)

/-- 'zzlaws_internal_protocol_b1.FnValidNameExact': WHATEVER THE INPUT: true; the input reads as it did. -/
def fnValidNameExactSpec : ChangeSpec := { name := "fnValidNameExact", fn := fun _ => fun
  | [d1, d2] => { results := [.lit (.bool true)], args := [d1, d2] }
  | _ => none }
def fnValidNameExactRow : OpenClaim := { program := "qxb6602532a", sum := "cfb7d11f28e4f91c681421fa768829fd62d4f66cecd59854b5ce0fb4ecfdb664", func := "example.com/twostroke/twostroke/zzlaws_internal_protocol_b1.FnValidNameExact", spec := "fnValidNameExact", apart := false }
def FnValidNameExactSaid : Prop := fnValidNameExactRow.holds Try.pinned (OpenSpec.ofChange fnValidNameExactSpec)

/-- ITS FALSE NEIGHBOUR: 'it returns false'. Refute it at one input. -/
def fnValidNameExactWrong : ChangeSpec := { name := "fnValidNameExact", fn := fun _ => fun
  | [d1, d2] => { results := [.lit (.bool false)], args := [d1, d2] }
  | _ => none }
def FnValidNameExactWrongFalsely : Prop := fnValidNameExactRow.holds Try.pinned (OpenSpec.ofChange fnValidNameExactWrong)

/-- 'zzlaws_internal_protocol_b1.FnValidNameLengthThreshold': WHATEVER THE INPUT: true; the input reads as it did. -/
def fnValidNameLengthThresholdSpec : ChangeSpec := { name := "fnValidNameLengthThreshold", fn := fun _ => fun
  | [d1, d2] => { results := [.lit (.bool true)], args := [d1, d2] }
  | _ => none }
def fnValidNameLengthThresholdRow : OpenClaim := { program := "qxb6602532a", sum := "cfb7d11f28e4f91c681421fa768829fd62d4f66cecd59854b5ce0fb4ecfdb664", func := "example.com/twostroke/twostroke/zzlaws_internal_protocol_b1.FnValidNameLengthThreshold", spec := "fnValidNameLengthThreshold", apart := false }
def FnValidNameLengthThresholdSaid : Prop := fnValidNameLengthThresholdRow.holds Try.pinned (OpenSpec.ofChange fnValidNameLengthThresholdSpec)

/-- ITS FALSE NEIGHBOUR: 'it returns false'. Refute it at one input. -/
def fnValidNameLengthThresholdWrong : ChangeSpec := { name := "fnValidNameLengthThreshold", fn := fun _ => fun
  | [d1, d2] => { results := [.lit (.bool false)], args := [d1, d2] }
  | _ => none }
def FnValidNameLengthThresholdWrongFalsely : Prop := fnValidNameLengthThresholdRow.holds Try.pinned (OpenSpec.ofChange fnValidNameLengthThresholdWrong)

/-- 'zzlaws_internal_protocol_b1.FnValidNameIsHeaderSafe': WHATEVER THE INPUT: true; the input reads as it did. -/
def fnValidNameIsHeaderSafeSpec : ChangeSpec := { name := "fnValidNameIsHeaderSafe", fn := fun _ => fun
  | [d1, d2] => { results := [.lit (.bool true)], args := [d1, d2] }
  | _ => none }
def fnValidNameIsHeaderSafeRow : OpenClaim := { program := "qxb6602532a", sum := "cfb7d11f28e4f91c681421fa768829fd62d4f66cecd59854b5ce0fb4ecfdb664", func := "example.com/twostroke/twostroke/zzlaws_internal_protocol_b1.FnValidNameIsHeaderSafe", spec := "fnValidNameIsHeaderSafe", apart := false }
def FnValidNameIsHeaderSafeSaid : Prop := fnValidNameIsHeaderSafeRow.holds Try.pinned (OpenSpec.ofChange fnValidNameIsHeaderSafeSpec)

/-- ITS FALSE NEIGHBOUR: 'it returns false'. Refute it at one input. -/
def fnValidNameIsHeaderSafeWrong : ChangeSpec := { name := "fnValidNameIsHeaderSafe", fn := fun _ => fun
  | [d1, d2] => { results := [.lit (.bool false)], args := [d1, d2] }
  | _ => none }
def FnValidNameIsHeaderSafeWrongFalsely : Prop := fnValidNameIsHeaderSafeRow.holds Try.pinned (OpenSpec.ofChange fnValidNameIsHeaderSafeWrong)

end Rows
end Go.Proofs.Qxb6602532a
