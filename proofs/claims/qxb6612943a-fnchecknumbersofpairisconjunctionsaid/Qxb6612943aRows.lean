/-
  No cell of these rows narrows 'for every input' (looked for: loops, veiled, ifaces, maps, wideKeys, modest, calm, conditions, laid).
  DERIVED. THE GIVEN ROWS OF THIS SEAT. 3 by the template 'for every input the law returns true; each argument reads behind the call as it read before'; 0 by the template 'total and deterministic' (their statements: Qxb6612943aTotals.lean).
  GIVEN WITH THE SEED: the statements are not yours to turn. If you find one false, say at which input.
  Laid BY PROGRAM, IN A SANDBOX (cutbox-rows.mjs): the forced cells as the released guide's own fill.sh prints them over the translation d1ba8185dc94b941… (all of the seat's roots in one cut). By AI agents, Wed Nov 11 2026. No macro, syntax, notation, axiom, sorry.
-/
import Derived.Test.Qxb6612943aChecked
import GoSem.Claim
import GoSem.ClaimJoined
import GoSem.ClaimMapViews
import Derived.JoinedTies
import Derived.KernelRfl
namespace Go.Proofs.Qxb6612943a
/- THE CELL 'sum', in the pinned program and in every row, IS THE sha256 OF THE DUMP (.gsa) THAT Qxb6612943aProg.lean LOADS. Nothing in Lean hashes anything: it is a label: what it is worth is what the hold of that sum in a sandbox is worth. -/
noncomputable def Try.pinned : Pinned := { name := "qxb6612943a", sum := "d1ba8185dc94b9415eac4692191871232e3664e2bd908abed3be7680ef57a1e4", checked := Try.checked }
namespace Rows
def none {H : Type} : Left H := { results := [], args := [] }

/-- 'zzlaws_root_b1.FnCheckNumbersAgainstJSONGrammar': WHATEVER THE INPUT: true; the input reads as it did. -/
def fnCheckNumbersAgainstJSONGrammarSpec : ChangeSpec := { name := "fnCheckNumbersAgainstJSONGrammar", fn := fun _ => fun
  | [d1, d2] => { results := [.lit (.bool true)], args := [d1, d2] }
  | _ => none }
def fnCheckNumbersAgainstJSONGrammarRow : OpenClaim := { program := "qxb6612943a", sum := "d1ba8185dc94b9415eac4692191871232e3664e2bd908abed3be7680ef57a1e4", func := "example.com/potrero/potrero/zzlaws_root_b1.FnCheckNumbersAgainstJSONGrammar", spec := "fnCheckNumbersAgainstJSONGrammar", unfollowed := true, recurses := true, apart := false }
def FnCheckNumbersAgainstJSONGrammarSaid : Prop := fnCheckNumbersAgainstJSONGrammarRow.holds Try.pinned (OpenSpec.ofChange fnCheckNumbersAgainstJSONGrammarSpec)

/-- ITS FALSE NEIGHBOUR: 'it returns false'. Refute it at one input. -/
def fnCheckNumbersAgainstJSONGrammarWrong : ChangeSpec := { name := "fnCheckNumbersAgainstJSONGrammar", fn := fun _ => fun
  | [d1, d2] => { results := [.lit (.bool false)], args := [d1, d2] }
  | _ => none }
def FnCheckNumbersAgainstJSONGrammarWrongFalsely : Prop := fnCheckNumbersAgainstJSONGrammarRow.holds Try.pinned (OpenSpec.ofChange fnCheckNumbersAgainstJSONGrammarWrong)

/-- 'zzlaws_root_b1.FnCheckNumbersOfPairIsConjunction': WHATEVER THE INPUT: true; the input reads as it did. -/
def fnCheckNumbersOfPairIsConjunctionSpec : ChangeSpec := { name := "fnCheckNumbersOfPairIsConjunction", fn := fun _ => fun
  | [d1, d2] => { results := [.lit (.bool true)], args := [d1, d2] }
  | _ => none }
def fnCheckNumbersOfPairIsConjunctionRow : OpenClaim := { program := "qxb6612943a", sum := "d1ba8185dc94b9415eac4692191871232e3664e2bd908abed3be7680ef57a1e4", func := "example.com/potrero/potrero/zzlaws_root_b1.FnCheckNumbersOfPairIsConjunction", spec := "fnCheckNumbersOfPairIsConjunction", unfollowed := true, recurses := true, apart := false }
def FnCheckNumbersOfPairIsConjunctionSaid : Prop := fnCheckNumbersOfPairIsConjunctionRow.holds Try.pinned (OpenSpec.ofChange fnCheckNumbersOfPairIsConjunctionSpec)

/-- ITS FALSE NEIGHBOUR: 'it returns false'. Refute it at one input. -/
def fnCheckNumbersOfPairIsConjunctionWrong : ChangeSpec := { name := "fnCheckNumbersOfPairIsConjunction", fn := fun _ => fun
  | [d1, d2] => { results := [.lit (.bool false)], args := [d1, d2] }
  | _ => none }
def FnCheckNumbersOfPairIsConjunctionWrongFalsely : Prop := fnCheckNumbersOfPairIsConjunctionRow.holds Try.pinned (OpenSpec.ofChange fnCheckNumbersOfPairIsConjunctionWrong)

/-- 'zzlaws_root_b1.FnBlocksOpensOneLevelOnly': WHATEVER THE INPUT: true; the input reads as it did. -/
def fnBlocksOpensOneLevelOnlySpec : ChangeSpec := { name := "fnBlocksOpensOneLevelOnly", fn := fun _ => fun
  | [d] => { results := [.lit (.bool true)], args := [d] }
  | _ => none }
def fnBlocksOpensOneLevelOnlyRow : OpenClaim := { program := "qxb6612943a", sum := "d1ba8185dc94b9415eac4692191871232e3664e2bd908abed3be7680ef57a1e4", func := "example.com/potrero/potrero/zzlaws_root_b1.FnBlocksOpensOneLevelOnly", spec := "fnBlocksOpensOneLevelOnly", apart := false }
def FnBlocksOpensOneLevelOnlySaid : Prop := fnBlocksOpensOneLevelOnlyRow.holds Try.pinned (OpenSpec.ofChange fnBlocksOpensOneLevelOnlySpec)

/-- ITS FALSE NEIGHBOUR: 'it returns false'. Refute it at one input. -/
def fnBlocksOpensOneLevelOnlyWrong : ChangeSpec := { name := "fnBlocksOpensOneLevelOnly", fn := fun _ => fun
  | [d] => { results := [.lit (.bool false)], args := [d] }
  | _ => none }
def FnBlocksOpensOneLevelOnlyWrongFalsely : Prop := fnBlocksOpensOneLevelOnlyRow.holds Try.pinned (OpenSpec.ofChange fnBlocksOpensOneLevelOnlyWrong)

end Rows
end Go.Proofs.Qxb6612943a
