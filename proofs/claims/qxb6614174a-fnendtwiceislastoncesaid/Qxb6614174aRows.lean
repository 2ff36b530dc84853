/-
  No cell of these rows narrows 'for every input' (looked for: loops, veiled, ifaces, maps, wideKeys, modest, calm, conditions, laid).
  DERIVED. THE GIVEN ROWS OF THIS SEAT. 1 by the template 'for every input the law returns true; each argument reads behind the call as it read before'; 0 by the template 'total and deterministic' (their statements: Qxb6614174aTotals.lean).
  GIVEN WITH THE SEED: the statements are not yours to turn. If you find one false, say at which input.
  Laid BY PROGRAM, IN A SANDBOX (cutbox-rows.mjs): the forced cells as the released guide's own fill.sh prints them over the translation 3f7e318c972d9a83… (all of the seat's roots in one cut). By AI agents, Wed Nov 11 2026. No macro, syntax, notation, axiom, sorry.
-/
import Derived.Test.Qxb6614174aChecked
import GoSem.Claim
import GoSem.ClaimJoined
import GoSem.ClaimMapViews
import Derived.JoinedTies
import Derived.KernelRfl
namespace Go.Proofs.Qxb6614174a
/- THE CELL 'sum', in the pinned program and in every row, IS THE sha256 OF THE DUMP (.gsa) THAT Qxb6614174aProg.lean LOADS. Nothing in Lean hashes anything: it is a label: what it is worth is what the hold of that sum in a sandbox is worth. -/
noncomputable def Try.pinned : Pinned := { name := "qxb6614174a", sum := "3f7e318c972d9a83b298c22fe6f6fe9604eb5995b5e22a6f377483aa742b325f", checked := Try.checked }
namespace Rows
def none {H : Type} : Left H := { results := [], args := [] }

/-- 'zzlaws_internal_client_b1.FnEndTwiceIsLastOnce': WHATEVER THE INPUT: true; the input reads as it did. -/
def fnEndTwiceIsLastOnceSpec : ChangeSpec := { name := "fnEndTwiceIsLastOnce", fn := fun _ => fun
  | [d1, d2, d3, d4, d5, d6, d7] => { results := [.lit (.bool true)], args := [d1, d2, d3, d4, d5, d6, d7] }
  | _ => none }
def fnEndTwiceIsLastOnceRow : OpenClaim := { program := "qxb6614174a", sum := "3f7e318c972d9a83b298c22fe6f6fe9604eb5995b5e22a6f377483aa742b325f", func := "example.com/binpack/binpack/zzlaws_internal_client_b1.FnEndTwiceIsLastOnce", spec := "fnEndTwiceIsLastOnce", apart := false }
def FnEndTwiceIsLastOnceSaid : Prop := fnEndTwiceIsLastOnceRow.holds Try.pinned (OpenSpec.ofChange fnEndTwiceIsLastOnceSpec)

/-- ITS FALSE NEIGHBOUR: 'it returns false'. Refute it at one input. -/
def fnEndTwiceIsLastOnceWrong : ChangeSpec := { name := "fnEndTwiceIsLastOnce", fn := fun _ => fun
  | [d1, d2, d3, d4, d5, d6, d7] => { results := [.lit (.bool false)], args := [d1, d2, d3, d4, d5, d6, d7] }
  | _ => none }
def FnEndTwiceIsLastOnceWrongFalsely : Prop := fnEndTwiceIsLastOnceRow.holds Try.pinned (OpenSpec.ofChange fnEndTwiceIsLastOnceWrong)

end Rows
end Go.Proofs.Qxb6614174a
