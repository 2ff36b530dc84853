/-
  No cell of these rows narrows 'for every input' (looked for: loops, veiled, ifaces, maps, wideKeys, modest, calm, conditions, laid).
  DERIVED. THE GIVEN ROWS OF THIS SEAT. 2 by the template 'for every input the law returns true; each argument reads behind the call as it read before'; 0 by the template 'total and deterministic' (their statements: Qxb6614073aTotals.lean).
  GIVEN WITH THE SEED: the statements are not yours to turn. If you find one false, say at which input.
  Laid BY PROGRAM, IN A SANDBOX (cutbox-rows.mjs): the forced cells as the released guide's own fill.sh prints them over the translation 14756004fbf06bed… (all of the seat's roots in one cut). By AI agents, Wed Nov 11 2026. No macro, syntax, notation, axiom, sorry.
-/
import Derived.Test.Qxb6614073aChecked
import GoSem.Claim
import GoSem.ClaimJoined
import GoSem.ClaimMapViews
import Derived.JoinedTies
import Derived.KernelRfl
namespace Go.Proofs.Qxb6614073a
/- THE CELL 'sum', in the pinned program and in every row, IS THE sha256 OF THE DUMP (.gsa) THAT Qxb6614073aProg.lean LOADS. Nothing in Lean hashes anything: it is a label: what it is worth is what the hold of that sum in a sandbox is worth. -/
noncomputable def Try.pinned : Pinned := { name := "qxb6614073a", sum := "14756004fbf06bedf81db654033fd62ff84d53fbbdf29c184741be1359dbd53d", checked := Try.checked }
namespace Rows
def none {H : Type} : Left H := { results := [], args := [] }

/-- 'zzlaws_root_b1.FnExpandVisitsTheMatchingTuplesInOrder': WHATEVER THE INPUT: true; the input reads as it did. -/
def fnExpandVisitsTheMatchingTuplesInOrderSpec : ChangeSpec := { name := "fnExpandVisitsTheMatchingTuplesInOrder", fn := fun _ => fun
  | [d1, d2, d3, d4, d5] => { results := [.lit (.bool true)], args := [d1, d2, d3, d4, d5] }
  | _ => none }
def fnExpandVisitsTheMatchingTuplesInOrderRow : OpenClaim := { program := "qxb6614073a", sum := "14756004fbf06bedf81db654033fd62ff84d53fbbdf29c184741be1359dbd53d", func := "example.com/libentitle/libentitle/zzlaws_root_b1.FnExpandVisitsTheMatchingTuplesInOrder", spec := "fnExpandVisitsTheMatchingTuplesInOrder", unfollowed := true, recurses := true, apart := false }
def FnExpandVisitsTheMatchingTuplesInOrderSaid : Prop := fnExpandVisitsTheMatchingTuplesInOrderRow.holds Try.pinned (OpenSpec.ofChange fnExpandVisitsTheMatchingTuplesInOrderSpec)

/-- ITS FALSE NEIGHBOUR: 'it returns false'. Refute it at one input. -/
def fnExpandVisitsTheMatchingTuplesInOrderWrong : ChangeSpec := { name := "fnExpandVisitsTheMatchingTuplesInOrder", fn := fun _ => fun
  | [d1, d2, d3, d4, d5] => { results := [.lit (.bool false)], args := [d1, d2, d3, d4, d5] }
  | _ => none }
def FnExpandVisitsTheMatchingTuplesInOrderWrongFalsely : Prop := fnExpandVisitsTheMatchingTuplesInOrderRow.holds Try.pinned (OpenSpec.ofChange fnExpandVisitsTheMatchingTuplesInOrderWrong)

/-- 'zzlaws_root_b1.FnExpandPartitionsTheSpaceBySubTuple': WHATEVER THE INPUT: true; the input reads as it did. -/
def fnExpandPartitionsTheSpaceBySubTupleSpec : ChangeSpec := { name := "fnExpandPartitionsTheSpaceBySubTuple", fn := fun _ => fun
  | [d1, d2, d3] => { results := [.lit (.bool true)], args := [d1, d2, d3] }
  | _ => none }
def fnExpandPartitionsTheSpaceBySubTupleRow : OpenClaim := { program := "qxb6614073a", sum := "14756004fbf06bedf81db654033fd62ff84d53fbbdf29c184741be1359dbd53d", func := "example.com/libentitle/libentitle/zzlaws_root_b1.FnExpandPartitionsTheSpaceBySubTuple", spec := "fnExpandPartitionsTheSpaceBySubTuple", unfollowed := true, recurses := true, apart := false }
def FnExpandPartitionsTheSpaceBySubTupleSaid : Prop := fnExpandPartitionsTheSpaceBySubTupleRow.holds Try.pinned (OpenSpec.ofChange fnExpandPartitionsTheSpaceBySubTupleSpec)

/-- ITS FALSE NEIGHBOUR: 'it returns false'. Refute it at one input. -/
def fnExpandPartitionsTheSpaceBySubTupleWrong : ChangeSpec := { name := "fnExpandPartitionsTheSpaceBySubTuple", fn := fun _ => fun
  | [d1, d2, d3] => { results := [.lit (.bool false)], args := [d1, d2, d3] }
  | _ => none }
def FnExpandPartitionsTheSpaceBySubTupleWrongFalsely : Prop := fnExpandPartitionsTheSpaceBySubTupleRow.holds Try.pinned (OpenSpec.ofChange fnExpandPartitionsTheSpaceBySubTupleWrong)

end Rows
end Go.Proofs.Qxb6614073a
