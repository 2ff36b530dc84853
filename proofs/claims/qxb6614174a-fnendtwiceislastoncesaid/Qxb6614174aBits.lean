import Derived.WalkKit
namespace Go.Proofs.Qxb6614174a
set_option linter.unusedVariables false
set_option linter.unusedSimpArgs false

theorem or_zero (x : Int) (h0 : 0 ≤ x) (h1 : x ≤ 1073741823) : bits .or .u64 0 x = x := by
  rw [u64_or 0 x (by omega) (by omega) h0 (by omega)]
  simp
  omega
theorem and_zero : bits .and .u64 0 1073741823 = 0 := by
  rw [u64_and 0 1073741823 (by omega) (by omega) (by omega) (by omega)]
  simp
theorem andNot_zero : bits .andNot .u64 0 1073741823 = 0 := by
  rw [u64_andNot 0 1073741823 (by omega) (by omega) (by omega) (by omega)]
  simp
theorem and_top (x : Int) (h0 : 0 ≤ x) (h1 : x ≤ 1073741823) : bits .and .u64 x 9223372036854775808 = 0 := by
  rw [u64_and x 9223372036854775808 (by omega) (by omega) (by omega) (by omega)]
  have e : (9223372036854775808 : Int).toNat = 2 ^ 63 := rfl
  rw [e, nat_bit, Nat.div_eq_of_lt (by omega)]
  simp

end Go.Proofs.Qxb6614174a
