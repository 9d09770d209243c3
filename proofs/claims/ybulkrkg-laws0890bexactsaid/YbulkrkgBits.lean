/-
  The few facts on bits that package time's words want.
-/
import Derived.Laws.BitsAllLaws
import Derived.Laws.Bits
namespace Go.Proofs.Ybulkrkg

theorem mask30 {x : Int} (h0 : 0 ≤ x) (h1 : x < 1000000000) : bits .and .u64 x 1073741823 = x := by
  obtain ⟨n, rfl⟩ := Int.eq_ofNat_of_zero_le h0
  have := u64_and_nat n 1073741823 (by omega) (by omega)
  refine this.trans ?_
  have e : n &&& 1073741823 = n % 2 ^ 30 := Nat.and_two_pow_sub_one_eq_mod n 30
  rw [e, Nat.mod_eq_of_lt (by omega)]

theorem and_le (n m : Nat) : n &&& m ≤ n := Nat.and_le_left

theorem top_nat {n : Nat} (h : n < 2 ^ 63) : n &&& 9223372036854775808 = 0 := by
  apply Nat.eq_of_testBit_eq
  intro i
  rw [Nat.testBit_and, Nat.zero_testBit]
  have e : (9223372036854775808 : Nat) = 2 ^ 63 := by decide
  rw [e, Nat.testBit_two_pow]
  by_cases hi : 63 = i
  · subst hi
    rw [Nat.testBit_lt_two_pow h, Bool.false_and]
  · simp [hi]

theorem noMono {x : Int} (h0 : 0 ≤ x) (h1 : x < 1000000000) : (bits .and .u64 x 9223372036854775808 != 0) = false := by
  obtain ⟨n, rfl⟩ := Int.eq_ofNat_of_zero_le h0
  have h := u64_and_nat n 9223372036854775808 (by omega) (by omega)
  rw [top_nat (by omega)] at h
  have h' : bits .and .u64 (n : Int) 9223372036854775808 = 0 := h
  rw [h']
  rfl

theorem noMono2 {x y : Int} (h0 : 0 ≤ x) (h1 : x < 1000000000) (h2 : 0 ≤ y) (h3 : y < 1000000000) : (bits .and .u64 (bits .and .u64 x y) 9223372036854775808 != 0) = false := by
  obtain ⟨n, rfl⟩ := Int.eq_ofNat_of_zero_le h0
  obtain ⟨m, rfl⟩ := Int.eq_ofNat_of_zero_le h2
  have h := u64_and_nat n m (by omega) (by omega)
  have hle := and_le n m
  have h' : bits .and .u64 (n : Int) (m : Int) = ((n &&& m : Nat) : Int) := h
  rw [h']
  exact noMono (by omega) (by omega)

theorem clear30_nat {n : Nat} (h : n < 2 ^ 30) : n &&& (18446744073709551615 - 1073741823) = 0 := by
  apply Nat.eq_of_testBit_eq
  intro i
  rw [Nat.testBit_and, Nat.zero_testBit]
  by_cases hi : i < 30
  · have e : (18446744073709551615 - 1073741823 : Nat) = (2 ^ 34 - 1) * 2 ^ 30 := by decide
    rw [e, Nat.testBit_mul_two_pow]
    simp
    omega
  · have : n.testBit i = false := Nat.testBit_lt_two_pow (Nat.lt_of_lt_of_le h (Nat.pow_le_pow_right (by omega) (by omega)))
    rw [this, Bool.false_and]

theorem clear30 {x : Int} (h0 : 0 ≤ x) (h1 : x < 1000000000) : bits .andNot .u64 x 1073741823 = 0 := by
  obtain ⟨n, rfl⟩ := Int.eq_ofNat_of_zero_le h0
  have h := u64_andNot_nat n 1073741823 (by omega) (by omega)
  rw [clear30_nat (by omega)] at h
  exact h

theorem orZero {x : Int} (h0 : 0 ≤ x) (h1 : x < 1000000000) : bits .or .u64 0 x = x := by
  obtain ⟨n, rfl⟩ := Int.eq_ofNat_of_zero_le h0
  have h := u64_or_nat 0 n (by omega) (by omega)
  rw [Nat.zero_or] at h
  exact h

end Go.Proofs.Ybulkrkg
