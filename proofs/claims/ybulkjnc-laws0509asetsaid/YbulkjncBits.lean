import Derived.Test.YbulkjncBase
import Derived.Laws.BitsAllLaws
namespace Go.Proofs.Ybulkjnc

theorem and_mask (n : Nat) (h : n < 1000000000) : bits .and .u64 (n : Int) 1073741823 = (n : Int) := by
  have e : bits .and .u64 (n : Int) ((1073741823 : Nat) : Int) = ((n &&& 1073741823 : Nat) : Int) := u64_and_nat n 1073741823 (by omega) (by omega)
  have e2 : n &&& 1073741823 = n := by
    have := Nat.and_two_pow_sub_one_eq_mod n 30
    rw [show (2 ^ 30 - 1 : Nat) = 1073741823 from rfl] at this
    rw [this]
    exact Nat.mod_eq_of_lt (by omega)
  rw [e2] at e
  exact e
theorem and_top (n : Nat) (h : n < 1073741824) : (bits .and .u64 (n : Int) 9223372036854775808 != 0) = false := by
  have e : bits .and .u64 (n : Int) ((9223372036854775808 : Nat) : Int) = ((n &&& 9223372036854775808 : Nat) : Int) := u64_and_nat n 9223372036854775808 (by omega) (by omega)
  have e2 : n &&& 9223372036854775808 = 0 := by
    apply Nat.eq_of_testBit_eq
    intro i
    rw [Nat.testBit_and, show (9223372036854775808 : Nat) = 2 ^ 63 from rfl, Nat.testBit_two_pow]
    by_cases hi : 63 = i
    · subst hi
      rw [Nat.testBit_lt_two_pow (show n < 2 ^ 63 by omega)]
      simp
    · simp [hi]
  rw [e2] at e
  have e3 : bits .and .u64 (n : Int) 9223372036854775808 = 0 := e
  rw [e3]
  rfl
theorem and_and_top (m n : Nat) (hm : m < 1000000000) (hn : n < 1000000000) : (bits .and .u64 (bits .and .u64 (m : Int) (n : Int)) 9223372036854775808 != 0) = false := by
  rw [u64_and_nat m n (by omega) (by omega)]
  exact and_top _ (Nat.lt_of_le_of_lt Nat.and_le_left (by omega))
theorem or_zero (n : Nat) (h : n < 1000000000) : bits .or .u64 (bits .andNot .u64 0 1073741823) (n : Int) = (n : Int) := by
  have e0 : bits .andNot .u64 0 1073741823 = 0 := by decide +kernel
  rw [e0]
  have e : bits .or .u64 ((0 : Nat) : Int) (n : Int) = ((0 ||| n : Nat) : Int) := u64_or_nat 0 n (by omega) (by omega)
  simpa using e
end Go.Proofs.Ybulkjnc
