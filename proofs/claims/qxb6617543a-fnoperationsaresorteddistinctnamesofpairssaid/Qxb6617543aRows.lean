/-
  No cell of these rows narrows 'for every input' (looked for: loops, veiled, ifaces, maps, wideKeys, modest, calm, conditions, laid).
  DERIVED. THE GIVEN ROWS OF THIS SEAT. 1 by the template 'for every input the law returns true; each argument reads behind the call as it read before'; 0 by the template 'total and deterministic' (their statements: Qxb6617543aTotals.lean).
  GIVEN WITH THE SEED: the statements are not yours to turn. If you find one false, say at which input.
  Laid BY PROGRAM, IN A SANDBOX (cutbox-rows.mjs): the forced cells as the released guide's own fill.sh prints them over the translation 283e8103b03a6520… (all of the seat's roots in one cut). By AI agents, Wed Nov 11 2026. No macro, syntax, notation, axiom, sorry.
-/
import Derived.Test.Qxb6617543aChecked
import GoSem.Claim
import GoSem.ClaimJoined
import GoSem.ClaimMapViews
import Derived.JoinedTies
import Derived.KernelRfl
namespace Go.Proofs.Qxb6617543a
/- THE CELL 'sum', in the pinned program and in every row, IS THE sha256 OF THE DUMP (.gsa) THAT Qxb6617543aProg.lean LOADS. Nothing in Lean hashes anything: it is a label: what it is worth is what the hold of that sum in a sandbox is worth. -/
noncomputable def Try.pinned : Pinned := { name := "qxb6617543a", sum := "283e8103b03a65203dfca41a79ce83f659a987116a8d7d06ab2cbc2c7670b336", checked := Try.checked }
namespace Rows
def none {H : Type} : Left H := { results := [], args := [] }

/-- 'zzlaws_root_b1.FnOperationsAreSortedDistinctNamesOfPairs': WHATEVER THE INPUT: true; the input reads as it did. -/
def fnOperationsAreSortedDistinctNamesOfPairsSpec : ChangeSpec := { name := "fnOperationsAreSortedDistinctNamesOfPairs", fn := fun _ => fun
  | [d] => { results := [.lit (.bool true)], args := [d] }
  | _ => none }
def fnOperationsAreSortedDistinctNamesOfPairsRow : OpenClaim := { program := "qxb6617543a", sum := "283e8103b03a65203dfca41a79ce83f659a987116a8d7d06ab2cbc2c7670b336", func := "example.com/kommutex/kommutex/zzlaws_root_b1.FnOperationsAreSortedDistinctNamesOfPairs", spec := "fnOperationsAreSortedDistinctNamesOfPairs", recurses := true, plainKeys := false, apart := false }
def FnOperationsAreSortedDistinctNamesOfPairsSaid : Prop := fnOperationsAreSortedDistinctNamesOfPairsRow.holds Try.pinned (OpenSpec.ofChange fnOperationsAreSortedDistinctNamesOfPairsSpec)

/-- ITS FALSE NEIGHBOUR: 'it returns false'. Refute it at one input. -/
def fnOperationsAreSortedDistinctNamesOfPairsWrong : ChangeSpec := { name := "fnOperationsAreSortedDistinctNamesOfPairs", fn := fun _ => fun
  | [d] => { results := [.lit (.bool false)], args := [d] }
  | _ => none }
def FnOperationsAreSortedDistinctNamesOfPairsWrongFalsely : Prop := fnOperationsAreSortedDistinctNamesOfPairsRow.holds Try.pinned (OpenSpec.ofChange fnOperationsAreSortedDistinctNamesOfPairsWrong)

end Rows
end Go.Proofs.Qxb6617543a
