import Derived.WalkKit
namespace Go.Proofs.Qxb6613167a
set_option linter.unusedVariables false
set_option linter.unusedSimpArgs false

theorem or_zero (x : Int) (h0 : 0 ≤ x) (h1 : x ≤ 1073741823) : bits .or .u64 0 x = x := by
  rw [u64_or 0 x (by omega) (by omega) h0 (by omega)]
  simp
  omega
theorem and_zero : bits .and .u64 0 1073741823 = 0 := by
  rw [u64_and 0 1073741823 (by omega) (by omega) (by omega) (by omega)]
  simp
theorem andNot_zero : bits .andNot .u64 0 1073741823 = 0 := by
  rw [u64_andNot 0 1073741823 (by omega) (by omega) (by omega) (by omega)]
  simp
theorem and_top (x : Int) (h0 : 0 ≤ x) (h1 : x ≤ 1073741823) : bits .and .u64 x 9223372036854775808 = 0 := by
  rw [u64_and x 9223372036854775808 (by omega) (by omega) (by omega) (by omega)]
  have e : (9223372036854775808 : Int).toNat = 2 ^ 63 := rfl
  rw [e, nat_bit, Nat.div_eq_of_lt (by omega)]
  simp
theorem and_mask (x : Int) (h0 : 0 ≤ x) (h1 : x ≤ 1073741823) : bits .and .u64 x 1073741823 = x := by
  rw [u64_and x 1073741823 (by omega) (by omega) (by omega) (by omega)]
  have e : (1073741823 : Int).toNat = 2 ^ 30 - 1 := rfl
  rw [e, Nat.and_two_pow_sub_one_eq_mod, Nat.mod_eq_of_lt (by omega)]
  omega
theorem and_two (x y : Int) (h0 : 0 ≤ x) (h1 : x ≤ 1073741823) (k0 : 0 ≤ y) (k1 : y ≤ 1073741823) : bits .and .u64 (bits .and .u64 x y) 9223372036854775808 = 0 := by
  have h : bits .and .u64 x y = ((x.toNat &&& y.toNat : Nat) : Int) := u64_and x y (by omega) (by omega) (by omega) (by omega)
  have hl : x.toNat &&& y.toNat ≤ x.toNat := Nat.and_le_left
  rw [h]
  exact and_top _ (by omega) (by omega)

theorem andNot_mask (x : Int) (h0 : 0 ≤ x) (h1 : x ≤ 1073741823) : bits .andNot .u64 x 1073741823 = 0 := by
  rw [u64_andNot x 1073741823 (by omega) (by omega) (by omega) (by omega)]
  have e : (1073741823 : Int).toNat = 2 ^ 30 - 1 := rfl
  have hx : x.toNat &&& (2 ^ 30 - 1) = x.toNat := by rw [Nat.and_two_pow_sub_one_eq_mod, Nat.mod_eq_of_lt (by omega)]
  have h0' : (2 ^ 30 - 1) &&& (18446744073709551615 - (2 ^ 30 - 1)) = 0 := by decide
  rw [e, ← hx, Nat.and_assoc, h0']
  simp
end Go.Proofs.Qxb6613167a
