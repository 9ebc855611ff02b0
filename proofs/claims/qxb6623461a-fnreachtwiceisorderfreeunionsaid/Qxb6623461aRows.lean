/-
  No cell of these rows narrows 'for every input' (looked for: loops, veiled, ifaces, maps, wideKeys, modest, calm, conditions, laid).
  DERIVED. THE GIVEN ROWS OF THIS SEAT. 2 by the template 'for every input the law returns true; each argument reads behind the call as it read before'; 0 by the template 'total and deterministic' (their statements: Qxb6623461aTotals.lean).
  GIVEN WITH THE SEED: the statements are not yours to turn. If you find one false, say at which input.
  Laid BY PROGRAM, IN A SANDBOX (cutbox-rows.mjs): the forced cells as the released guide's own fill.sh prints them over the translation 12161ee82ab80f0a… (all of the seat's roots in one cut). By AI agents, Wed Nov 11 2026. No macro, syntax, notation, axiom, sorry.
-/
import Derived.Test.Qxb6623461aChecked
import GoSem.Claim
import GoSem.ClaimJoined
import GoSem.ClaimMapViews
import Derived.JoinedTies
import Derived.KernelRfl
namespace Go.Proofs.Qxb6623461a
/- THE CELL 'sum', in the pinned program and in every row, IS THE sha256 OF THE DUMP (.gsa) THAT Qxb6623461aProg.lean LOADS. Nothing in Lean hashes anything: it is a label: what it is worth is what the hold of that sum in a sandbox is worth. -/
noncomputable def Try.pinned : Pinned := { name := "qxb6623461a", sum := "12161ee82ab80f0ac2f7711723e97ba7d7c445757019898657c86fa444d56454", checked := Try.checked }
namespace Rows
def none {H : Type} : Left H := { results := [], args := [] }

/-- 'zzlaws_wildcard_b1.FnReachAddsExactlyTheFreshClosure': WHATEVER THE INPUT: true; the input reads as it did. -/
def fnReachAddsExactlyTheFreshClosureSpec : ChangeSpec := { name := "fnReachAddsExactlyTheFreshClosure", fn := fun _ => fun
  | [d1, d2, d3, d4, d5, d6, d7, d8, d9, d10, d11] => { results := [.lit (.bool true)], args := [d1, d2, d3, d4, d5, d6, d7, d8, d9, d10, d11] }
  | _ => none }
def fnReachAddsExactlyTheFreshClosureRow : OpenClaim := { program := "qxb6623461a", sum := "12161ee82ab80f0ac2f7711723e97ba7d7c445757019898657c86fa444d56454", func := "example.com/strata/strata/zzlaws_wildcard_b1.FnReachAddsExactlyTheFreshClosure", spec := "fnReachAddsExactlyTheFreshClosure", recurses := true, apart := false }
def FnReachAddsExactlyTheFreshClosureSaid : Prop := fnReachAddsExactlyTheFreshClosureRow.holds Try.pinned (OpenSpec.ofChange fnReachAddsExactlyTheFreshClosureSpec)

/-- ITS FALSE NEIGHBOUR: 'it returns false'. Refute it at one input. -/
def fnReachAddsExactlyTheFreshClosureWrong : ChangeSpec := { name := "fnReachAddsExactlyTheFreshClosure", fn := fun _ => fun
  | [d1, d2, d3, d4, d5, d6, d7, d8, d9, d10, d11] => { results := [.lit (.bool false)], args := [d1, d2, d3, d4, d5, d6, d7, d8, d9, d10, d11] }
  | _ => none }
def FnReachAddsExactlyTheFreshClosureWrongFalsely : Prop := fnReachAddsExactlyTheFreshClosureRow.holds Try.pinned (OpenSpec.ofChange fnReachAddsExactlyTheFreshClosureWrong)

/-- 'zzlaws_wildcard_b1.FnReachTwiceIsOrderFreeUnion': WHATEVER THE INPUT: true; the input reads as it did. -/
def fnReachTwiceIsOrderFreeUnionSpec : ChangeSpec := { name := "fnReachTwiceIsOrderFreeUnion", fn := fun _ => fun
  | [d1, d2, d3, d4, d5, d6, d7, d8, d9, d10, d11, d12] => { results := [.lit (.bool true)], args := [d1, d2, d3, d4, d5, d6, d7, d8, d9, d10, d11, d12] }
  | _ => none }
def fnReachTwiceIsOrderFreeUnionRow : OpenClaim := { program := "qxb6623461a", sum := "12161ee82ab80f0ac2f7711723e97ba7d7c445757019898657c86fa444d56454", func := "example.com/strata/strata/zzlaws_wildcard_b1.FnReachTwiceIsOrderFreeUnion", spec := "fnReachTwiceIsOrderFreeUnion", recurses := true, apart := false }
def FnReachTwiceIsOrderFreeUnionSaid : Prop := fnReachTwiceIsOrderFreeUnionRow.holds Try.pinned (OpenSpec.ofChange fnReachTwiceIsOrderFreeUnionSpec)

/-- ITS FALSE NEIGHBOUR: 'it returns false'. Refute it at one input. -/
def fnReachTwiceIsOrderFreeUnionWrong : ChangeSpec := { name := "fnReachTwiceIsOrderFreeUnion", fn := fun _ => fun
  | [d1, d2, d3, d4, d5, d6, d7, d8, d9, d10, d11, d12] => { results := [.lit (.bool false)], args := [d1, d2, d3, d4, d5, d6, d7, d8, d9, d10, d11, d12] }
  | _ => none }
def FnReachTwiceIsOrderFreeUnionWrongFalsely : Prop := fnReachTwiceIsOrderFreeUnionRow.holds Try.pinned (OpenSpec.ofChange fnReachTwiceIsOrderFreeUnionWrong)

end Rows
end Go.Proofs.Qxb6623461a
