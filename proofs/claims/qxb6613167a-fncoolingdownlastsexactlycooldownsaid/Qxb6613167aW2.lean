import Derived.Test.Qxb6613167aW1
import Derived.Deep.CutRange
import Derived.Deep.RegionWith
import Derived.BigRegion
import Derived.BigQuiet
namespace Go.Proofs.Qxb6613167a
open Go.RowKit
set_option linter.unusedVariables false
set_option linter.unusedSimpArgs false

set_option maxRecDepth 100000 in
set_option maxHeartbeats 1000000 in
theorem isZero_yes (w : World) :
    Calls Try.prog 18 #[.agg #[.int .u64 0, .int .i64 0, .pointer none]] w fun e w' => e = .returned (.bool true) ∧ Below w.heap.size w w' := by
  go_enter Try.func18, Try.ntmps18
  go_wp2
  go_ret
  refine ⟨rfl, ?_⟩
  repeat (first | exact Below.refl _ _ | refine Below.setCell ?_ (by simp) _ | refine Below.alloc ?_ (by simp) _)

set_option maxRecDepth 100000 in
set_option maxHeartbeats 1000000 in
theorem isZero_no (n s : Int) (h : n ≠ 0 ∨ s ≠ 0) (w : World) :
    Calls Try.prog 18 #[.agg #[.int .u64 n, .int .i64 s, .pointer none]] w fun e w' => e = .returned (.bool false) ∧ Below w.heap.size w w' := by
  by_cases hn : n = 0
  · have hs : s ≠ 0 := by omega
    have hs' : (s == 0) = false := by simpa using hs
    subst hn
    go_enter Try.func18, Try.ntmps18
    go_wp2
    go_ret
    refine ⟨rfl, ?_⟩
    repeat (first | exact Below.refl _ _ | refine Below.setCell ?_ (by simp) _ | refine Below.alloc ?_ (by simp) _)
  · have hn' : (n == 0) = false := by simpa using hn
    clear h
    go_enter Try.func18, Try.ntmps18
    go_wp2
    go_ret
    refine ⟨rfl, ?_⟩
    repeat (first | exact Below.refl _ _ | refine Below.setCell ?_ (by simp) _ | refine Below.alloc ?_ (by simp) _)

-- Equal: the same time twice.
set_option maxRecDepth 100000 in
set_option maxHeartbeats 1000000 in
theorem equal_same (n s : Int) (hn0 : 0 ≤ n) (hn1 : n ≤ 999999999) (w : World) :
    Calls Try.prog 31 #[.agg #[.int .u64 n, .int .i64 s, .pointer none], .agg #[.int .u64 n, .int .i64 s, .pointer none]] w fun e w' => e = .returned (.bool true) ∧ Below w.heap.size w w' := by
  have f1 := and_mask n hn0 (by omega)
  have f2 := and_top n hn0 (by omega)
  have f3 := and_two n n hn0 (by omega) hn0 (by omega)
  have f4 : (n == n) = true := by simp
  have f5 : (s == s) = true := by simp
  go_enter Try.func31, Try.ntmps31
  go_wp2_with (first | (go_at_call 30; go_in) | (go_at_call 21; go_in))
  go_ret
  refine ⟨rfl, ?_⟩
  repeat (first | exact Below.refl _ _ | refine Below.setCell ?_ (by simp) _ | refine Below.alloc ?_ (by simp) _)
end Go.Proofs.Qxb6613167a
