import Derived.WalkKit
namespace Go.Proofs.Qxb6613147a
set_option linter.unusedVariables false

/-- N: a count of nanoseconds below a second, as wall holds it -/
theorem and_mask (N : Nat) (h : N < 1000000000) : bits .and .u64 (N : Int) 1073741823 = (N : Int) := by
  have := u64_and_nat N 1073741823 (by omega) (by omega)
  rw [show ((1073741823 : Nat) : Int) = 1073741823 from rfl] at this
  rw [this]
  have h2 : N &&& (2 ^ 30 - 1) = N % 2 ^ 30 := Nat.and_two_pow_sub_one_eq_mod N 30
  rw [show (2 ^ 30 - 1 : Nat) = 1073741823 from rfl] at h2
  rw [h2, Nat.mod_eq_of_lt (by omega)]
theorem and_mono (N : Nat) (h : N < 1000000000) : bits .and .u64 (N : Int) 9223372036854775808 = 0 := by
  have := u64_and_nat N 9223372036854775808 (by omega) (by omega)
  rw [show ((9223372036854775808 : Nat) : Int) = 9223372036854775808 from rfl] at this
  rw [this]
  have h2 : N &&& 2 ^ 63 = 0 := by
    apply Nat.eq_of_testBit_eq
    intro i
    rw [Nat.testBit_and, Nat.testBit_two_pow, Nat.zero_testBit]
    by_cases e : 63 = i
    · subst e
      rw [Nat.testBit_lt_two_pow (by omega)]; rfl
    · simp [e]
  rw [show (2 ^ 63 : Nat) = 9223372036854775808 from rfl] at h2
  rw [h2]; rfl
theorem andNot_zero : bits .andNot .u64 0 1073741823 = 0 := by decide
theorem or_zero (N : Nat) (h : N < 1000000000) : bits .or .u64 0 (N : Int) = (N : Int) := by
  have := u64_or_nat 0 N (by omega) (by omega)
  rw [show ((0 : Nat) : Int) = 0 from rfl] at this
  rw [this]; simp
theorem and_and (N M : Nat) (h : N < 1000000000) (h2 : M < 1000000000) : bits .and .u64 (bits .and .u64 (N : Int) (M : Int)) 9223372036854775808 = 0 := by
  have := u64_and_nat N M (by omega) (by omega)
  rw [this]
  exact and_mono (N &&& M) (Nat.lt_of_le_of_lt Nat.and_le_left h)
end Go.Proofs.Qxb6613147a
