/-
  No cell of these rows narrows 'for every input' (looked for: loops, veiled, ifaces, maps, wideKeys, modest, calm, conditions, laid).
  DERIVED. THE GIVEN ROWS OF THIS SEAT. 1 by the template 'for every input the law returns true; each argument reads behind the call as it read before'; 0 by the template 'total and deterministic' (their statements: Qxb6618407aTotals.lean).
  GIVEN WITH THE SEED: the statements are not yours to turn. If you find one false, say at which input.
  Laid BY PROGRAM, IN A SANDBOX (cutbox-rows.mjs): the forced cells as the released guide's own fill.sh prints them over the translation 938b724498f00d1a… (all of the seat's roots in one cut). By AI agents, Wed Nov 11 2026. No macro, syntax, notation, axiom, sorry.
-/
import Derived.Test.Qxb6618407aChecked
import GoSem.Claim
import GoSem.ClaimJoined
import GoSem.ClaimMapViews
import Derived.JoinedTies
import Derived.KernelRfl
namespace Go.Proofs.Qxb6618407a
/- THE CELL 'sum', in the pinned program and in every row, IS THE sha256 OF THE DUMP (.gsa) THAT Qxb6618407aProg.lean LOADS. Nothing in Lean hashes anything: it is a label: what it is worth is what the hold of that sum in a sandbox is worth. -/
noncomputable def Try.pinned : Pinned := { name := "qxb6618407a", sum := "938b724498f00d1a42b38aaa078194b344da3bddbdb6634e72e38cabe69ccee9", checked := Try.checked }
namespace Rows
def none {H : Type} : Left H := { results := [], args := [] }

/-- 'zzlaws_internal_collate_b1.FnJamoDecomposesInOrder': WHATEVER THE INPUT: true; the input reads as it did. -/
def fnJamoDecomposesInOrderSpec : ChangeSpec := { name := "fnJamoDecomposesInOrder", fn := fun _ => fun
  | [d1, d2] => { results := [.lit (.bool true)], args := [d1, d2] }
  | _ => none }
def fnJamoDecomposesInOrderRow : OpenClaim := { program := "qxb6618407a", sum := "938b724498f00d1a42b38aaa078194b344da3bddbdb6634e72e38cabe69ccee9", func := "example.com/stillframe/stillframe/zzlaws_internal_collate_b1.FnJamoDecomposesInOrder", spec := "fnJamoDecomposesInOrder", apart := false }
def FnJamoDecomposesInOrderSaid : Prop := fnJamoDecomposesInOrderRow.holds Try.pinned (OpenSpec.ofChange fnJamoDecomposesInOrderSpec)

/-- ITS FALSE NEIGHBOUR: 'it returns false'. Refute it at one input. -/
def fnJamoDecomposesInOrderWrong : ChangeSpec := { name := "fnJamoDecomposesInOrder", fn := fun _ => fun
  | [d1, d2] => { results := [.lit (.bool false)], args := [d1, d2] }
  | _ => none }
def FnJamoDecomposesInOrderWrongFalsely : Prop := fnJamoDecomposesInOrderRow.holds Try.pinned (OpenSpec.ofChange fnJamoDecomposesInOrderWrong)

end Rows
end Go.Proofs.Qxb6618407a
