/-
  No cell of these rows narrows 'for every input' (looked for: loops, veiled, ifaces, maps, wideKeys, modest, calm, conditions, laid).
  DERIVED. THE GIVEN ROWS OF THIS SEAT. 1 by the template 'for every input the law returns true; each argument reads behind the call as it read before'; 0 by the template 'total and deterministic' (their statements: Qxb6605512aTotals.lean).
  GIVEN WITH THE SEED: the statements are not yours to turn. If you find one false, say at which input.
  Laid BY PROGRAM, IN A SANDBOX (cutbox-rows.mjs): the forced cells as the released guide's own fill.sh prints them over the translation dcaf2db03ed6e056… (all of the seat's roots in one cut). By AI agents, Wed Nov 11 2026. No macro, syntax, notation, axiom, sorry.
-/
import Derived.Test.Qxb6605512aChecked
import GoSem.Claim
import GoSem.ClaimJoined
import GoSem.ClaimMapViews
import Derived.JoinedTies
import Derived.KernelRfl
namespace Go.Proofs.Qxb6605512a
/- THE CELL 'sum', in the pinned program and in every row, IS THE sha256 OF THE DUMP (.gsa) THAT Qxb6605512aProg.lean LOADS. Nothing in Lean hashes anything: it is a label: what it is worth is what the hold of that sum in a sandbox is worth. -/
noncomputable def Try.pinned : Pinned := { name := "qxb6605512a", sum := "dcaf2db03ed6e056700625debe89133362118d35ad41f199d2db382c08966a00", checked := Try.checked }
namespace Rows
def none {H : Type} : Left H := { results := [], args := [] }

/-- 'zzlaws_internal_inventory_b1.FnIncrementUndoneByDecrement': WHATEVER THE INPUT: true; the input reads as it did. -/
def fnIncrementUndoneByDecrementSpec : ChangeSpec := { name := "fnIncrementUndoneByDecrement", fn := fun _ => fun
  | [d] => { results := [.lit (.bool true)], args := [d] }
  | _ => none }
def fnIncrementUndoneByDecrementRow : OpenClaim := { program := "qxb6605512a", sum := "dcaf2db03ed6e056700625debe89133362118d35ad41f199d2db382c08966a00", func := "example.com/rackledger/rackledger/zzlaws_internal_inventory_b1.FnIncrementUndoneByDecrement", spec := "fnIncrementUndoneByDecrement", apart := false }
def FnIncrementUndoneByDecrementSaid : Prop := fnIncrementUndoneByDecrementRow.holds Try.pinned (OpenSpec.ofChange fnIncrementUndoneByDecrementSpec)

/-- ITS FALSE NEIGHBOUR: 'it returns false'. Refute it at one input. -/
def fnIncrementUndoneByDecrementWrong : ChangeSpec := { name := "fnIncrementUndoneByDecrement", fn := fun _ => fun
  | [d] => { results := [.lit (.bool false)], args := [d] }
  | _ => none }
def FnIncrementUndoneByDecrementWrongFalsely : Prop := fnIncrementUndoneByDecrementRow.holds Try.pinned (OpenSpec.ofChange fnIncrementUndoneByDecrementWrong)

end Rows
end Go.Proofs.Qxb6605512a
