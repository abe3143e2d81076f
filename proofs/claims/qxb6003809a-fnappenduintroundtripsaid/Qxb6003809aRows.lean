/-
  No cell of these rows narrows 'for every input' (looked for: loops, veiled, ifaces, maps, wideKeys, modest, calm, conditions, laid).
  DERIVED. THE GIVEN ROWS OF THIS SEAT. 4 by the template 'for every input the law returns true; each argument reads behind the call as it read before'; 0 by the template 'total and deterministic' (their statements: Qxb6003809aTotals.lean).
  GIVEN WITH THE SEED: the statements are not yours to turn. If you find one false, say at which input.
  Laid BY PROGRAM, IN A SANDBOX (cutbox-rows.mjs): the forced cells as the released guide's own fill.sh prints them over the translation c49f7ff95bbca749… (all of the seat's roots in one cut). By AI agents, Wed Nov 11 2026. No macro, syntax, notation, axiom, sorry.
-/
import Derived.Test.Qxb6003809aChecked
import GoSem.Claim
import GoSem.ClaimJoined
import GoSem.ClaimMapViews
import Derived.JoinedTies
import Derived.KernelRfl
namespace Go.Proofs.Qxb6003809a
/- THE CELL 'sum', in the pinned program and in every row, IS THE sha256 OF THE DUMP (.gsa) THAT Qxb6003809aProg.lean LOADS. Nothing in Lean hashes anything: it is a label: what it is worth is what the hold of that sum in a sandbox is worth. -/
noncomputable def Try.pinned : Pinned := { name := "qxb6003809a", sum := "c49f7ff95bbca749a0a6ac00817c6528f6214ebc78785b3ef4c542b6b1c6b312", checked := Try.checked }
namespace Rows
def none {H : Type} : Left H := { results := [], args := [] }

/-- 'zzlaws_envelope_g1.FnIsASCIIByteSpecAndConcat': WHATEVER THE INPUT: true; the input reads as it did. -/
def fnIsASCIIByteSpecAndConcatSpec : ChangeSpec := { name := "fnIsASCIIByteSpecAndConcat", fn := fun _ => fun
  | [d1, d2] => { results := [.lit (.bool true)], args := [d1, d2] }
  | _ => none }
def fnIsASCIIByteSpecAndConcatRow : OpenClaim := { program := "qxb6003809a", sum := "c49f7ff95bbca749a0a6ac00817c6528f6214ebc78785b3ef4c542b6b1c6b312", func := "example.com/byteloom/byteloom/zzlaws_envelope_g1.FnIsASCIIByteSpecAndConcat", spec := "fnIsASCIIByteSpecAndConcat", apart := false }
def FnIsASCIIByteSpecAndConcatSaid : Prop := fnIsASCIIByteSpecAndConcatRow.holds Try.pinned (OpenSpec.ofChange fnIsASCIIByteSpecAndConcatSpec)

/-- ITS FALSE NEIGHBOUR: 'it returns false'. Refute it at one input. -/
def fnIsASCIIByteSpecAndConcatWrong : ChangeSpec := { name := "fnIsASCIIByteSpecAndConcat", fn := fun _ => fun
  | [d1, d2] => { results := [.lit (.bool false)], args := [d1, d2] }
  | _ => none }
def FnIsASCIIByteSpecAndConcatWrongFalsely : Prop := fnIsASCIIByteSpecAndConcatRow.holds Try.pinned (OpenSpec.ofChange fnIsASCIIByteSpecAndConcatWrong)

/-- 'zzlaws_internal_jsonview_g1.FnHexDigitAcceptsExactlyHexDigits': WHATEVER THE INPUT: true; the input reads as it did. -/
def fnHexDigitAcceptsExactlyHexDigitsSpec : ChangeSpec := { name := "fnHexDigitAcceptsExactlyHexDigits", fn := fun _ => fun
  | [d] => { results := [.lit (.bool true)], args := [d] }
  | _ => none }
def fnHexDigitAcceptsExactlyHexDigitsRow : OpenClaim := { program := "qxb6003809a", sum := "c49f7ff95bbca749a0a6ac00817c6528f6214ebc78785b3ef4c542b6b1c6b312", func := "example.com/byteloom/byteloom/zzlaws_internal_jsonview_g1.FnHexDigitAcceptsExactlyHexDigits", spec := "fnHexDigitAcceptsExactlyHexDigits", apart := false }
def FnHexDigitAcceptsExactlyHexDigitsSaid : Prop := fnHexDigitAcceptsExactlyHexDigitsRow.holds Try.pinned (OpenSpec.ofChange fnHexDigitAcceptsExactlyHexDigitsSpec)

/-- ITS FALSE NEIGHBOUR: 'it returns false'. Refute it at one input. -/
def fnHexDigitAcceptsExactlyHexDigitsWrong : ChangeSpec := { name := "fnHexDigitAcceptsExactlyHexDigits", fn := fun _ => fun
  | [d] => { results := [.lit (.bool false)], args := [d] }
  | _ => none }
def FnHexDigitAcceptsExactlyHexDigitsWrongFalsely : Prop := fnHexDigitAcceptsExactlyHexDigitsRow.holds Try.pinned (OpenSpec.ofChange fnHexDigitAcceptsExactlyHexDigitsWrong)

/-- 'zzlaws_internal_msgpack_g1.FnAppendIntRoundTrip': WHATEVER THE INPUT: true; the input reads as it did. -/
def fnAppendIntRoundTripSpec : ChangeSpec := { name := "fnAppendIntRoundTrip", fn := fun _ => fun
  | [d1, d2] => { results := [.lit (.bool true)], args := [d1, d2] }
  | _ => none }
def fnAppendIntRoundTripRow : OpenClaim := { program := "qxb6003809a", sum := "c49f7ff95bbca749a0a6ac00817c6528f6214ebc78785b3ef4c542b6b1c6b312", func := "example.com/byteloom/byteloom/zzlaws_internal_msgpack_g1.FnAppendIntRoundTrip", spec := "fnAppendIntRoundTrip", apart := false }
def FnAppendIntRoundTripSaid : Prop := fnAppendIntRoundTripRow.holds Try.pinned (OpenSpec.ofChange fnAppendIntRoundTripSpec)

/-- ITS FALSE NEIGHBOUR: 'it returns false'. Refute it at one input. -/
def fnAppendIntRoundTripWrong : ChangeSpec := { name := "fnAppendIntRoundTrip", fn := fun _ => fun
  | [d1, d2] => { results := [.lit (.bool false)], args := [d1, d2] }
  | _ => none }
def FnAppendIntRoundTripWrongFalsely : Prop := fnAppendIntRoundTripRow.holds Try.pinned (OpenSpec.ofChange fnAppendIntRoundTripWrong)

/-- 'zzlaws_internal_msgpack_g1.FnAppendUintRoundTrip': WHATEVER THE INPUT: true; the input reads as it did. -/
def fnAppendUintRoundTripSpec : ChangeSpec := { name := "fnAppendUintRoundTrip", fn := fun _ => fun
  | [d1, d2] => { results := [.lit (.bool true)], args := [d1, d2] }
  | _ => none }
def fnAppendUintRoundTripRow : OpenClaim := { program := "qxb6003809a", sum := "c49f7ff95bbca749a0a6ac00817c6528f6214ebc78785b3ef4c542b6b1c6b312", func := "example.com/byteloom/byteloom/zzlaws_internal_msgpack_g1.FnAppendUintRoundTrip", spec := "fnAppendUintRoundTrip", apart := false }
def FnAppendUintRoundTripSaid : Prop := fnAppendUintRoundTripRow.holds Try.pinned (OpenSpec.ofChange fnAppendUintRoundTripSpec)

/-- ITS FALSE NEIGHBOUR: 'it returns false'. Refute it at one input. -/
def fnAppendUintRoundTripWrong : ChangeSpec := { name := "fnAppendUintRoundTrip", fn := fun _ => fun
  | [d1, d2] => { results := [.lit (.bool false)], args := [d1, d2] }
  | _ => none }
def FnAppendUintRoundTripWrongFalsely : Prop := fnAppendUintRoundTripRow.holds Try.pinned (OpenSpec.ofChange fnAppendUintRoundTripWrong)

end Rows
end Go.Proofs.Qxb6003809a
