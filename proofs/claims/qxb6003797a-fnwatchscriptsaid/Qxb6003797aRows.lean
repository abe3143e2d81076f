/-
  No cell of these rows narrows 'for every input' (looked for: loops, veiled, ifaces, maps, wideKeys, modest, calm, conditions, laid).
  DERIVED. THE GIVEN ROWS OF THIS SEAT. 4 by the template 'for every input the law returns true; each argument reads behind the call as it read before'; 0 by the template 'total and deterministic' (their statements: Qxb6003797aTotals.lean).
  GIVEN WITH THE SEED: the statements are not yours to turn. If you find one false, say at which input.
  Laid BY PROGRAM, IN A SANDBOX (cutbox-rows.mjs): the forced cells as the released guide's own fill.sh prints them over the translation 1dde5e7e355ecd2d… (all of the seat's roots in one cut). By AI agents, Wed Nov 11 2026. No macro, syntax, notation, axiom, sorry.
-/
import Derived.Test.Qxb6003797aChecked
import GoSem.Claim
import GoSem.ClaimJoined
import GoSem.ClaimMapViews
import Derived.JoinedTies
import Derived.KernelRfl
namespace Go.Proofs.Qxb6003797a
/- THE CELL 'sum', in the pinned program and in every row, IS THE sha256 OF THE DUMP (.gsa) THAT Qxb6003797aProg.lean LOADS. Nothing in Lean hashes anything: it is a label: what it is worth is what the hold of that sum in a sandbox is worth. -/
noncomputable def Try.pinned : Pinned := { name := "qxb6003797a", sum := "1dde5e7e355ecd2da30591060bc22cc3fd4f4343a702dca5add4b3475c1a25cc", checked := Try.checked }
namespace Rows
def none {H : Type} : Left H := { results := [], args := [] }

/-- 'zzlaws_root_g2.FnReachGraphNodeNumbersInFirstSeenOrder': WHATEVER THE INPUT: true; the input reads as it did. -/
def fnReachGraphNodeNumbersInFirstSeenOrderSpec : ChangeSpec := { name := "fnReachGraphNodeNumbersInFirstSeenOrder", fn := fun _ => fun
  | [d] => { results := [.lit (.bool true)], args := [d] }
  | _ => none }
def fnReachGraphNodeNumbersInFirstSeenOrderRow : OpenClaim := { program := "qxb6003797a", sum := "1dde5e7e355ecd2da30591060bc22cc3fd4f4343a702dca5add4b3475c1a25cc", func := "example.com/riftwatch/riftwatch/zzlaws_root_g2.FnReachGraphNodeNumbersInFirstSeenOrder", spec := "fnReachGraphNodeNumbersInFirstSeenOrder", plainKeys := false, apart := false }
def FnReachGraphNodeNumbersInFirstSeenOrderSaid : Prop := fnReachGraphNodeNumbersInFirstSeenOrderRow.holds Try.pinned (OpenSpec.ofChange fnReachGraphNodeNumbersInFirstSeenOrderSpec)

/-- ITS FALSE NEIGHBOUR: 'it returns false'. Refute it at one input. -/
def fnReachGraphNodeNumbersInFirstSeenOrderWrong : ChangeSpec := { name := "fnReachGraphNodeNumbersInFirstSeenOrder", fn := fun _ => fun
  | [d] => { results := [.lit (.bool false)], args := [d] }
  | _ => none }
def FnReachGraphNodeNumbersInFirstSeenOrderWrongFalsely : Prop := fnReachGraphNodeNumbersInFirstSeenOrderRow.holds Try.pinned (OpenSpec.ofChange fnReachGraphNodeNumbersInFirstSeenOrderWrong)

/-- 'zzlaws_root_g2.FnWaitForNeverShrinks': WHATEVER THE INPUT: true; the input reads as it did. -/
def fnWaitForNeverShrinksSpec : ChangeSpec := { name := "fnWaitForNeverShrinks", fn := fun _ => fun
  | [d1, d2, d3, d4, d5] => { results := [.lit (.bool true)], args := [d1, d2, d3, d4, d5] }
  | _ => none }
def fnWaitForNeverShrinksRow : OpenClaim := { program := "qxb6003797a", sum := "1dde5e7e355ecd2da30591060bc22cc3fd4f4343a702dca5add4b3475c1a25cc", func := "example.com/riftwatch/riftwatch/zzlaws_root_g2.FnWaitForNeverShrinks", spec := "fnWaitForNeverShrinks", plainKeys := false, apart := false }
def FnWaitForNeverShrinksSaid : Prop := fnWaitForNeverShrinksRow.holds Try.pinned (OpenSpec.ofChange fnWaitForNeverShrinksSpec)

/-- ITS FALSE NEIGHBOUR: 'it returns false'. Refute it at one input. -/
def fnWaitForNeverShrinksWrong : ChangeSpec := { name := "fnWaitForNeverShrinks", fn := fun _ => fun
  | [d1, d2, d3, d4, d5] => { results := [.lit (.bool false)], args := [d1, d2, d3, d4, d5] }
  | _ => none }
def FnWaitForNeverShrinksWrongFalsely : Prop := fnWaitForNeverShrinksRow.holds Try.pinned (OpenSpec.ofChange fnWaitForNeverShrinksWrong)

/-- 'zzlaws_root_g2.FnWatchScript': WHATEVER THE INPUT: true; the input reads as it did. -/
def fnWatchScriptSpec : ChangeSpec := { name := "fnWatchScript", fn := fun _ => fun
  | [d1, d2, d3, d4] => { results := [.lit (.bool true)], args := [d1, d2, d3, d4] }
  | _ => none }
def fnWatchScriptRow : OpenClaim := { program := "qxb6003797a", sum := "1dde5e7e355ecd2da30591060bc22cc3fd4f4343a702dca5add4b3475c1a25cc", func := "example.com/riftwatch/riftwatch/zzlaws_root_g2.FnWatchScript", spec := "fnWatchScript", plainKeys := false, apart := false }
def FnWatchScriptSaid : Prop := fnWatchScriptRow.holds Try.pinned (OpenSpec.ofChange fnWatchScriptSpec)

/-- ITS FALSE NEIGHBOUR: 'it returns false'. Refute it at one input. -/
def fnWatchScriptWrong : ChangeSpec := { name := "fnWatchScript", fn := fun _ => fun
  | [d1, d2, d3, d4] => { results := [.lit (.bool false)], args := [d1, d2, d3, d4] }
  | _ => none }
def FnWatchScriptWrongFalsely : Prop := fnWatchScriptRow.holds Try.pinned (OpenSpec.ofChange fnWatchScriptWrong)

/-- 'zzlaws_root_g2.FnHoldKeepsShedRecord': WHATEVER THE INPUT: true; the input reads as it did. -/
def fnHoldKeepsShedRecordSpec : ChangeSpec := { name := "fnHoldKeepsShedRecord", fn := fun _ => fun
  | [d1, d2, d3, d4, d5, d6, d7] => { results := [.lit (.bool true)], args := [d1, d2, d3, d4, d5, d6, d7] }
  | _ => none }
def fnHoldKeepsShedRecordRow : OpenClaim := { program := "qxb6003797a", sum := "1dde5e7e355ecd2da30591060bc22cc3fd4f4343a702dca5add4b3475c1a25cc", func := "example.com/riftwatch/riftwatch/zzlaws_root_g2.FnHoldKeepsShedRecord", spec := "fnHoldKeepsShedRecord", plainKeys := false, apart := false }
def FnHoldKeepsShedRecordSaid : Prop := fnHoldKeepsShedRecordRow.holds Try.pinned (OpenSpec.ofChange fnHoldKeepsShedRecordSpec)

/-- ITS FALSE NEIGHBOUR: 'it returns false'. Refute it at one input. -/
def fnHoldKeepsShedRecordWrong : ChangeSpec := { name := "fnHoldKeepsShedRecord", fn := fun _ => fun
  | [d1, d2, d3, d4, d5, d6, d7] => { results := [.lit (.bool false)], args := [d1, d2, d3, d4, d5, d6, d7] }
  | _ => none }
def FnHoldKeepsShedRecordWrongFalsely : Prop := fnHoldKeepsShedRecordRow.holds Try.pinned (OpenSpec.ofChange fnHoldKeepsShedRecordWrong)

end Rows
end Go.Proofs.Qxb6003797a
