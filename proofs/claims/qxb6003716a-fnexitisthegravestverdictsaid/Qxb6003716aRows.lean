/-
  No cell of these rows narrows 'for every input' (looked for: loops, veiled, ifaces, maps, wideKeys, modest, calm, conditions, laid).
  DERIVED. THE GIVEN ROWS OF THIS SEAT. 4 by the template 'for every input the law returns true; each argument reads behind the call as it read before'; 0 by the template 'total and deterministic' (their statements: Qxb6003716aTotals.lean).
  GIVEN WITH THE SEED: the statements are not yours to turn. If you find one false, say at which input.
  Laid BY PROGRAM, IN A SANDBOX (cutbox-rows.mjs): the forced cells as the released guide's own fill.sh prints them over the translation 87e235c89825e815… (all of the seat's roots in one cut). By AI agents, Wed Nov 11 2026. No macro, syntax, notation, axiom, sorry.
-/
import Derived.Test.Qxb6003716aChecked
import GoSem.Claim
import GoSem.ClaimJoined
import GoSem.ClaimMapViews
import Derived.JoinedTies
import Derived.KernelRfl
namespace Go.Proofs.Qxb6003716a
/- THE CELL 'sum', in the pinned program and in every row, IS THE sha256 OF THE DUMP (.gsa) THAT Qxb6003716aProg.lean LOADS. Nothing in Lean hashes anything: it is a label: what it is worth is what the hold of that sum in a sandbox is worth. -/
noncomputable def Try.pinned : Pinned := { name := "qxb6003716a", sum := "87e235c89825e8154aa46021b900b0d497003b4f32ef65e784fead74c3633d1d", checked := Try.checked }
namespace Rows
def none {H : Type} : Left H := { results := [], args := [] }

/-- 'zzlaws_report_g1.FnExitIsTheGravestVerdict': WHATEVER THE INPUT: true; the input reads as it did. -/
def fnExitIsTheGravestVerdictSpec : ChangeSpec := { name := "fnExitIsTheGravestVerdict", fn := fun _ => fun
  | [d1, d2] => { results := [.lit (.bool true)], args := [d1, d2] }
  | _ => none }
def fnExitIsTheGravestVerdictRow : OpenClaim := { program := "qxb6003716a", sum := "87e235c89825e8154aa46021b900b0d497003b4f32ef65e784fead74c3633d1d", func := "example.com/zoneglass/zoneglass/zzlaws_report_g1.FnExitIsTheGravestVerdict", spec := "fnExitIsTheGravestVerdict", apart := false }
def FnExitIsTheGravestVerdictSaid : Prop := fnExitIsTheGravestVerdictRow.holds Try.pinned (OpenSpec.ofChange fnExitIsTheGravestVerdictSpec)

/-- ITS FALSE NEIGHBOUR: 'it returns false'. Refute it at one input. -/
def fnExitIsTheGravestVerdictWrong : ChangeSpec := { name := "fnExitIsTheGravestVerdict", fn := fun _ => fun
  | [d1, d2] => { results := [.lit (.bool false)], args := [d1, d2] }
  | _ => none }
def FnExitIsTheGravestVerdictWrongFalsely : Prop := fnExitIsTheGravestVerdictRow.holds Try.pinned (OpenSpec.ofChange fnExitIsTheGravestVerdictWrong)

/-- 'zzlaws_report_g1.FnExitNeverEasesWhenAVerdictIsAdded': WHATEVER THE INPUT: true; the input reads as it did. -/
def fnExitNeverEasesWhenAVerdictIsAddedSpec : ChangeSpec := { name := "fnExitNeverEasesWhenAVerdictIsAdded", fn := fun _ => fun
  | [d1, d2, d3, d4] => { results := [.lit (.bool true)], args := [d1, d2, d3, d4] }
  | _ => none }
def fnExitNeverEasesWhenAVerdictIsAddedRow : OpenClaim := { program := "qxb6003716a", sum := "87e235c89825e8154aa46021b900b0d497003b4f32ef65e784fead74c3633d1d", func := "example.com/zoneglass/zoneglass/zzlaws_report_g1.FnExitNeverEasesWhenAVerdictIsAdded", spec := "fnExitNeverEasesWhenAVerdictIsAdded", apart := false }
def FnExitNeverEasesWhenAVerdictIsAddedSaid : Prop := fnExitNeverEasesWhenAVerdictIsAddedRow.holds Try.pinned (OpenSpec.ofChange fnExitNeverEasesWhenAVerdictIsAddedSpec)

/-- ITS FALSE NEIGHBOUR: 'it returns false'. Refute it at one input. -/
def fnExitNeverEasesWhenAVerdictIsAddedWrong : ChangeSpec := { name := "fnExitNeverEasesWhenAVerdictIsAdded", fn := fun _ => fun
  | [d1, d2, d3, d4] => { results := [.lit (.bool false)], args := [d1, d2, d3, d4] }
  | _ => none }
def FnExitNeverEasesWhenAVerdictIsAddedWrongFalsely : Prop := fnExitNeverEasesWhenAVerdictIsAddedRow.holds Try.pinned (OpenSpec.ofChange fnExitNeverEasesWhenAVerdictIsAddedWrong)

/-- 'zzlaws_report_g1.FnUnitIsTheLargestExactUnit': WHATEVER THE INPUT: true; the input reads as it did. -/
def fnUnitIsTheLargestExactUnitSpec : ChangeSpec := { name := "fnUnitIsTheLargestExactUnit", fn := fun _ => fun
  | [d] => { results := [.lit (.bool true)], args := [d] }
  | _ => none }
def fnUnitIsTheLargestExactUnitRow : OpenClaim := { program := "qxb6003716a", sum := "87e235c89825e8154aa46021b900b0d497003b4f32ef65e784fead74c3633d1d", func := "example.com/zoneglass/zoneglass/zzlaws_report_g1.FnUnitIsTheLargestExactUnit", spec := "fnUnitIsTheLargestExactUnit", apart := false }
def FnUnitIsTheLargestExactUnitSaid : Prop := fnUnitIsTheLargestExactUnitRow.holds Try.pinned (OpenSpec.ofChange fnUnitIsTheLargestExactUnitSpec)

/-- ITS FALSE NEIGHBOUR: 'it returns false'. Refute it at one input. -/
def fnUnitIsTheLargestExactUnitWrong : ChangeSpec := { name := "fnUnitIsTheLargestExactUnit", fn := fun _ => fun
  | [d] => { results := [.lit (.bool false)], args := [d] }
  | _ => none }
def FnUnitIsTheLargestExactUnitWrongFalsely : Prop := fnUnitIsTheLargestExactUnitRow.holds Try.pinned (OpenSpec.ofChange fnUnitIsTheLargestExactUnitWrong)

/-- 'zzlaws_report_g1.FnSummarizeAddsOverConcatenationAndIgnoresOrder': WHATEVER THE INPUT: true; the input reads as it did. -/
def fnSummarizeAddsOverConcatenationAndIgnoresOrderSpec : ChangeSpec := { name := "fnSummarizeAddsOverConcatenationAndIgnoresOrder", fn := fun _ => fun
  | [d1, d2] => { results := [.lit (.bool true)], args := [d1, d2] }
  | _ => none }
def fnSummarizeAddsOverConcatenationAndIgnoresOrderRow : OpenClaim := { program := "qxb6003716a", sum := "87e235c89825e8154aa46021b900b0d497003b4f32ef65e784fead74c3633d1d", func := "example.com/zoneglass/zoneglass/zzlaws_report_g1.FnSummarizeAddsOverConcatenationAndIgnoresOrder", spec := "fnSummarizeAddsOverConcatenationAndIgnoresOrder", apart := false }
def FnSummarizeAddsOverConcatenationAndIgnoresOrderSaid : Prop := fnSummarizeAddsOverConcatenationAndIgnoresOrderRow.holds Try.pinned (OpenSpec.ofChange fnSummarizeAddsOverConcatenationAndIgnoresOrderSpec)

/-- ITS FALSE NEIGHBOUR: 'it returns false'. Refute it at one input. -/
def fnSummarizeAddsOverConcatenationAndIgnoresOrderWrong : ChangeSpec := { name := "fnSummarizeAddsOverConcatenationAndIgnoresOrder", fn := fun _ => fun
  | [d1, d2] => { results := [.lit (.bool false)], args := [d1, d2] }
  | _ => none }
def FnSummarizeAddsOverConcatenationAndIgnoresOrderWrongFalsely : Prop := fnSummarizeAddsOverConcatenationAndIgnoresOrderRow.holds Try.pinned (OpenSpec.ofChange fnSummarizeAddsOverConcatenationAndIgnoresOrderWrong)

end Rows
end Go.Proofs.Qxb6003716a
