/-
  No cell of these rows narrows 'for every input' (looked for: loops, veiled, ifaces, maps, wideKeys, modest, calm, conditions, laid).
  DERIVED. THE GIVEN ROWS OF THIS SEAT. 2 by the template 'for every input the law returns true; each argument reads behind the call as it read before'; 0 by the template 'total and deterministic' (their statements: Qxb6618381aTotals.lean).
  GIVEN WITH THE SEED: the statements are not yours to turn. If you find one false, say at which input.
  Laid BY PROGRAM, IN A SANDBOX (cutbox-rows.mjs): the forced cells as the released guide's own fill.sh prints them over the translation db80f9b315bdd80f… (all of the seat's roots in one cut). By AI agents, Wed Nov 11 2026. No macro, syntax, notation, axiom, sorry.
-/
import Derived.Test.Qxb6618381aChecked
import GoSem.Claim
import GoSem.ClaimJoined
import GoSem.ClaimMapViews
import Derived.JoinedTies
import Derived.KernelRfl
namespace Go.Proofs.Qxb6618381a
/- THE CELL 'sum', in the pinned program and in every row, IS THE sha256 OF THE DUMP (.gsa) THAT Qxb6618381aProg.lean LOADS. Nothing in Lean hashes anything: it is a label: what it is worth is what the hold of that sum in a sandbox is worth. -/
noncomputable def Try.pinned : Pinned := { name := "qxb6618381a", sum := "db80f9b315bdd80fda68a60fa39e465ba0b9d77a62d9d220f3c11567c91e1163", checked := Try.checked }
namespace Rows
def none {H : Type} : Left H := { results := [], args := [] }

/-- 'zzlaws_pkg_record_b1.FnRepeatedLeastDuplicateAndSorts': WHATEVER THE INPUT: true; the input reads as it did. -/
def fnRepeatedLeastDuplicateAndSortsSpec : ChangeSpec := { name := "fnRepeatedLeastDuplicateAndSorts", fn := fun _ => fun
  | [d] => { results := [.lit (.bool true)], args := [d] }
  | _ => none }
def fnRepeatedLeastDuplicateAndSortsRow : OpenClaim := { program := "qxb6618381a", sum := "db80f9b315bdd80fda68a60fa39e465ba0b9d77a62d9d220f3c11567c91e1163", func := "example.com/hearsay/hearsay/zzlaws_pkg_record_b1.FnRepeatedLeastDuplicateAndSorts", spec := "fnRepeatedLeastDuplicateAndSorts", inPlace := ["internal/bytealg.Compare"], unfollowed := true, recurses := true, apart := false }
def FnRepeatedLeastDuplicateAndSortsSaid : Prop := fnRepeatedLeastDuplicateAndSortsRow.holds Try.pinned (OpenSpec.ofChange fnRepeatedLeastDuplicateAndSortsSpec)

/-- ITS FALSE NEIGHBOUR: 'it returns false'. Refute it at one input. -/
def fnRepeatedLeastDuplicateAndSortsWrong : ChangeSpec := { name := "fnRepeatedLeastDuplicateAndSorts", fn := fun _ => fun
  | [d] => { results := [.lit (.bool false)], args := [d] }
  | _ => none }
def FnRepeatedLeastDuplicateAndSortsWrongFalsely : Prop := fnRepeatedLeastDuplicateAndSortsRow.holds Try.pinned (OpenSpec.ofChange fnRepeatedLeastDuplicateAndSortsWrong)

/-- 'zzlaws_pkg_record_b1.FnRepeatedIgnoresOrder': WHATEVER THE INPUT: true; the input reads as it did. -/
def fnRepeatedIgnoresOrderSpec : ChangeSpec := { name := "fnRepeatedIgnoresOrder", fn := fun _ => fun
  | [d1, d2] => { results := [.lit (.bool true)], args := [d1, d2] }
  | _ => none }
def fnRepeatedIgnoresOrderRow : OpenClaim := { program := "qxb6618381a", sum := "db80f9b315bdd80fda68a60fa39e465ba0b9d77a62d9d220f3c11567c91e1163", func := "example.com/hearsay/hearsay/zzlaws_pkg_record_b1.FnRepeatedIgnoresOrder", spec := "fnRepeatedIgnoresOrder", inPlace := ["internal/bytealg.Compare"], unfollowed := true, recurses := true, apart := false }
def FnRepeatedIgnoresOrderSaid : Prop := fnRepeatedIgnoresOrderRow.holds Try.pinned (OpenSpec.ofChange fnRepeatedIgnoresOrderSpec)

/-- ITS FALSE NEIGHBOUR: 'it returns false'. Refute it at one input. -/
def fnRepeatedIgnoresOrderWrong : ChangeSpec := { name := "fnRepeatedIgnoresOrder", fn := fun _ => fun
  | [d1, d2] => { results := [.lit (.bool false)], args := [d1, d2] }
  | _ => none }
def FnRepeatedIgnoresOrderWrongFalsely : Prop := fnRepeatedIgnoresOrderRow.holds Try.pinned (OpenSpec.ofChange fnRepeatedIgnoresOrderWrong)

end Rows
end Go.Proofs.Qxb6618381a
