/-
  No cell of these rows narrows 'for every input' (looked for: loops, veiled, ifaces, maps, wideKeys, modest, calm, conditions, laid).
  DERIVED. THE GIVEN ROWS OF THIS SEAT. 3 by the template 'for every input the law returns true; each argument reads behind the call as it read before'; 0 by the template 'total and deterministic' (their statements: Qxb6613167aTotals.lean).
  GIVEN WITH THE SEED: the statements are not yours to turn. If you find one false, say at which input.
  Laid BY PROGRAM, IN A SANDBOX (cutbox-rows.mjs): the forced cells as the released guide's own fill.sh prints them over the translation dec9e87f6f893fc7… (all of the seat's roots in one cut). By AI agents, Wed Nov 11 2026. No macro, syntax, notation, axiom, sorry.
-/
import Derived.Test.Qxb6613167aChecked
import GoSem.Claim
import GoSem.ClaimJoined
import GoSem.ClaimMapViews
import Derived.JoinedTies
import Derived.KernelRfl
namespace Go.Proofs.Qxb6613167a
/- THE CELL 'sum', in the pinned program and in every row, IS THE sha256 OF THE DUMP (.gsa) THAT Qxb6613167aProg.lean LOADS. Nothing in Lean hashes anything: it is a label: what it is worth is what the hold of that sum in a sandbox is worth. -/
noncomputable def Try.pinned : Pinned := { name := "qxb6613167a", sum := "dec9e87f6f893fc7d2cdf10c833616de00ab3a486cb35b4d66528fdd5434ab2d", checked := Try.checked }
namespace Rows
def none {H : Type} : Left H := { results := [], args := [] }

/-- 'zzlaws_root_b1.FnCoolingDownLastsExactlyCooldown': WHATEVER THE INPUT: true; the input reads as it did. -/
def fnCoolingDownLastsExactlyCooldownSpec : ChangeSpec := { name := "fnCoolingDownLastsExactlyCooldown", fn := fun _ => fun
  | [d1, d2, d3, d4] => { results := [.lit (.bool true)], args := [d1, d2, d3, d4] }
  | _ => none }
def fnCoolingDownLastsExactlyCooldownRow : OpenClaim := { program := "qxb6613167a", sum := "dec9e87f6f893fc7d2cdf10c833616de00ab3a486cb35b4d66528fdd5434ab2d", func := "example.com/laddr/laddr/zzlaws_root_b1.FnCoolingDownLastsExactlyCooldown", spec := "fnCoolingDownLastsExactlyCooldown", apart := false }
def FnCoolingDownLastsExactlyCooldownSaid : Prop := fnCoolingDownLastsExactlyCooldownRow.holds Try.pinned (OpenSpec.ofChange fnCoolingDownLastsExactlyCooldownSpec)

/-- ITS FALSE NEIGHBOUR: 'it returns false'. Refute it at one input. -/
def fnCoolingDownLastsExactlyCooldownWrong : ChangeSpec := { name := "fnCoolingDownLastsExactlyCooldown", fn := fun _ => fun
  | [d1, d2, d3, d4] => { results := [.lit (.bool false)], args := [d1, d2, d3, d4] }
  | _ => none }
def FnCoolingDownLastsExactlyCooldownWrongFalsely : Prop := fnCoolingDownLastsExactlyCooldownRow.holds Try.pinned (OpenSpec.ofChange fnCoolingDownLastsExactlyCooldownWrong)

/-- 'zzlaws_root_b1.FnGateLeavesCloseAtLast': WHATEVER THE INPUT: true; the input reads as it did. -/
def fnGateLeavesCloseAtLastSpec : ChangeSpec := { name := "fnGateLeavesCloseAtLast", fn := fun _ => fun
  | [d1, d2] => { results := [.lit (.bool true)], args := [d1, d2] }
  | _ => none }
def fnGateLeavesCloseAtLastRow : OpenClaim := { program := "qxb6613167a", sum := "dec9e87f6f893fc7d2cdf10c833616de00ab3a486cb35b4d66528fdd5434ab2d", func := "example.com/laddr/laddr/zzlaws_root_b1.FnGateLeavesCloseAtLast", spec := "fnGateLeavesCloseAtLast", inPlace := ["sync/atomic.StoreInt64", "sync/atomic.AddInt64", "sync/atomic.LoadUint32", "(*internal/sync.Mutex).Lock", "internal/race.Disable", "sync/atomic.CompareAndSwapInt32", "internal/race.Enable", "internal/race.Acquire", "(*internal/sync.Mutex).lockSlow", "internal/sync.runtime_canSpin", "internal/sync.runtime_doSpin", "internal/sync.throw", "internal/sync.runtime_nanotime", "internal/sync.runtime_SemacquireMutex", "sync/atomic.AddInt32", "(*internal/sync.Mutex).Unlock", "internal/race.ReleaseMerge", "(*internal/sync.Mutex).unlockSlow", "internal/sync.fatal", "internal/sync.runtime_Semrelease", "sync/atomic.StoreUint32", "sync/atomic.LoadInt64"], unfollowed := true, recurses := true, apart := false }
def FnGateLeavesCloseAtLastSaid : Prop := fnGateLeavesCloseAtLastRow.holds Try.pinned (OpenSpec.ofChange fnGateLeavesCloseAtLastSpec)

/-- ITS FALSE NEIGHBOUR: 'it returns false'. Refute it at one input. -/
def fnGateLeavesCloseAtLastWrong : ChangeSpec := { name := "fnGateLeavesCloseAtLast", fn := fun _ => fun
  | [d1, d2] => { results := [.lit (.bool false)], args := [d1, d2] }
  | _ => none }
def FnGateLeavesCloseAtLastWrongFalsely : Prop := fnGateLeavesCloseAtLastRow.holds Try.pinned (OpenSpec.ofChange fnGateLeavesCloseAtLastWrong)

/-- 'zzlaws_root_b1.FnGateFutureHangsOnCountAlone': WHATEVER THE INPUT: true; the input reads as it did. -/
def fnGateFutureHangsOnCountAloneSpec : ChangeSpec := { name := "fnGateFutureHangsOnCountAlone", fn := fun _ => fun
  | [d1, d2, d3] => { results := [.lit (.bool true)], args := [d1, d2, d3] }
  | _ => none }
def fnGateFutureHangsOnCountAloneRow : OpenClaim := { program := "qxb6613167a", sum := "dec9e87f6f893fc7d2cdf10c833616de00ab3a486cb35b4d66528fdd5434ab2d", func := "example.com/laddr/laddr/zzlaws_root_b1.FnGateFutureHangsOnCountAlone", spec := "fnGateFutureHangsOnCountAlone", inPlace := ["sync/atomic.StoreInt64", "sync/atomic.AddInt64", "sync/atomic.LoadUint32", "(*internal/sync.Mutex).Lock", "internal/race.Disable", "sync/atomic.CompareAndSwapInt32", "internal/race.Enable", "internal/race.Acquire", "(*internal/sync.Mutex).lockSlow", "internal/sync.runtime_canSpin", "internal/sync.runtime_doSpin", "internal/sync.throw", "internal/sync.runtime_nanotime", "internal/sync.runtime_SemacquireMutex", "sync/atomic.AddInt32", "(*internal/sync.Mutex).Unlock", "internal/race.ReleaseMerge", "(*internal/sync.Mutex).unlockSlow", "internal/sync.fatal", "internal/sync.runtime_Semrelease", "sync/atomic.StoreUint32", "sync/atomic.LoadInt64"], unfollowed := true, recurses := true, apart := false }
def FnGateFutureHangsOnCountAloneSaid : Prop := fnGateFutureHangsOnCountAloneRow.holds Try.pinned (OpenSpec.ofChange fnGateFutureHangsOnCountAloneSpec)

/-- ITS FALSE NEIGHBOUR: 'it returns false'. Refute it at one input. -/
def fnGateFutureHangsOnCountAloneWrong : ChangeSpec := { name := "fnGateFutureHangsOnCountAlone", fn := fun _ => fun
  | [d1, d2, d3] => { results := [.lit (.bool false)], args := [d1, d2, d3] }
  | _ => none }
def FnGateFutureHangsOnCountAloneWrongFalsely : Prop := fnGateFutureHangsOnCountAloneRow.holds Try.pinned (OpenSpec.ofChange fnGateFutureHangsOnCountAloneWrong)

end Rows
end Go.Proofs.Qxb6613167a
