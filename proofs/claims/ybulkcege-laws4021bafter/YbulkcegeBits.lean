import Derived.Laws.Bits64b
import Derived.Laws.BitsAllLaws
namespace Go.Proofs.Ybulkcege

theorem and_mask (r : Int) (h0 : 0 ≤ r) (h1 : r < 1073741824) : bits .and .u64 r 1073741823 = r := by
  obtain ⟨n, rfl⟩ := Int.eq_ofNat_of_zero_le h0
  have e : (1073741823 : Int) = ((1073741823 : Nat) : Int) := rfl
  rw [e, bits_and_u64_nat _ _ (by omega) (by omega)]
  have : n &&& 1073741823 = n % 2 ^ 30 := Nat.and_two_pow_sub_one_eq_mod n 30
  rw [this]; omega

theorem nat_and_top (n : Nat) (h : n < 9223372036854775808) : n &&& 9223372036854775808 = 0 := by
  apply Nat.eq_of_testBit_eq
  intro i
  have e : (9223372036854775808 : Nat) = 2 ^ 63 := by decide
  rw [e, Nat.testBit_and, Nat.testBit_two_pow, Nat.zero_testBit]
  by_cases hi : 63 = i
  · subst hi
    rw [Nat.testBit_lt_two_pow (by omega)]; rfl
  · simp [hi]

theorem and_top (r : Int) (h0 : 0 ≤ r) (h1 : r < 1073741824) : bits .and .u64 r 9223372036854775808 = 0 := by
  obtain ⟨n, rfl⟩ := Int.eq_ofNat_of_zero_le h0
  have e : (9223372036854775808 : Int) = ((9223372036854775808 : Nat) : Int) := rfl
  rw [e, bits_and_u64_nat _ _ (by omega) (by omega), nat_and_top n (by omega)]; rfl

theorem no_mono (r : Int) (h0 : 0 ≤ r) (h1 : r < 1073741824) : (bits .and .u64 r 9223372036854775808 != 0) = false := by
  rw [and_top r h0 h1]; rfl

theorem and_small (r s : Int) (h0 : 0 ≤ r) (h1 : r < 1073741824) (h2 : 0 ≤ s) (h3 : s < 1073741824) : 0 ≤ bits .and .u64 r s ∧ bits .and .u64 r s < 1073741824 := by
  obtain ⟨n, rfl⟩ := Int.eq_ofNat_of_zero_le h0
  obtain ⟨m, rfl⟩ := Int.eq_ofNat_of_zero_le h2
  rw [bits_and_u64_nat _ _ (by omega) (by omega)]
  have : n &&& m ≤ n := Nat.and_le_left
  omega

theorem no_mono2 (r s : Int) (h0 : 0 ≤ r) (h1 : r < 1073741824) (h2 : 0 ≤ s) (h3 : s < 1073741824) : (bits .and .u64 (bits .and .u64 r s) 9223372036854775808 != 0) = false :=
  no_mono _ (and_small r s h0 h1 h2 h3).1 (and_small r s h0 h1 h2 h3).2

theorem andNot_mask (r : Int) (h0 : 0 ≤ r) (h1 : r < 1073741824) : bits .andNot .u64 r 1073741823 = 0 := by
  obtain ⟨n, rfl⟩ := Int.eq_ofNat_of_zero_le h0
  have e : (1073741823 : Int) = ((1073741823 : Nat) : Int) := rfl
  rw [e, u64_andNot_nat _ _ (by omega) (by omega)]
  have : n &&& (18446744073709551615 - 1073741823) = 0 := by
    apply Nat.eq_of_testBit_eq
    intro i
    have e : (18446744073709551615 - 1073741823 : Nat) = (2 ^ 34 - 1) <<< 30 := by decide
    rw [e, Nat.testBit_and, Nat.testBit_shiftLeft, Nat.zero_testBit]
    by_cases hi : 30 ≤ i
    · rw [Nat.testBit_lt_two_pow (Nat.lt_of_lt_of_le (by omega : n < 2 ^ 30) (Nat.pow_le_pow_right (by omega) hi))]; rfl
    · simp [hi]
  rw [this]; rfl

theorem or_zero (n : Int) (h0 : 0 ≤ n) (h1 : n < 1073741824) : bits .or .u64 0 n = n := by
  obtain ⟨n, rfl⟩ := Int.eq_ofNat_of_zero_le h0
  have e : (0 : Int) = ((0 : Nat) : Int) := rfl
  rw [e, bits_or_u64_nat _ _ (by omega) (by omega)]; simp
end Go.Proofs.Ybulkcege
