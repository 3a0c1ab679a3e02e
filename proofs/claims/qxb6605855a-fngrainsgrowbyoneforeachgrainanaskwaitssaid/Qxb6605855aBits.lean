/-
  No dump here. What the masks of package time do to a wall word below 2^30; seconds and nanoseconds of a count of nanoseconds.
-/
import Derived.Test.Qxb6605855aKept
import Derived.Laws.BitsAllLaws
namespace Go.Proofs.Qxb6605855a
open Go Go.RowKit

theorem mask_low (n : Int) (h0 : 0 ≤ n) (h1 : n < 1073741824) : bits .and .u64 n 1073741823 = n := by
  obtain ⟨k, rfl⟩ := Int.eq_ofNat_of_zero_le h0
  rw [show (1073741823 : Int) = ((1073741823 : Nat) : Int) from rfl, u64_and_nat k 1073741823 (by omega) (by omega)]
  rw [show (1073741823 : Nat) = 2 ^ 30 - 1 from rfl, Nat.and_two_pow_sub_one_eq_mod, Nat.mod_eq_of_lt (by omega)]

theorem mask_high (n : Int) (h0 : 0 ≤ n) (h1 : n < 1073741824) : bits .and .u64 n 9223372036854775808 = 0 := by
  obtain ⟨k, rfl⟩ := Int.eq_ofNat_of_zero_le h0
  rw [show (9223372036854775808 : Int) = ((9223372036854775808 : Nat) : Int) from rfl, u64_and_nat k 9223372036854775808 (by omega) (by omega)]
  have e : k &&& 9223372036854775808 = 0 := by
    rw [show (9223372036854775808 : Nat) = 2 ^ 63 from rfl]
    apply Nat.eq_of_testBit_eq
    intro i
    rw [Nat.testBit_and, Nat.testBit_two_pow, Nat.zero_testBit]
    by_cases hi : 63 = i
    · subst hi
      rw [Nat.testBit_lt_two_pow (show k < 2 ^ 63 by omega)]
      simp
    · simp [hi]
  rw [e]
  rfl

theorem mask_off (n : Int) (h0 : 0 ≤ n) (h1 : n < 1073741824) : bits .andNot .u64 n 1073741823 = 0 := by
  obtain ⟨k, rfl⟩ := Int.eq_ofNat_of_zero_le h0
  rw [show (1073741823 : Int) = ((1073741823 : Nat) : Int) from rfl, u64_andNot_nat k 1073741823 (by omega) (by omega)]
  have e : k &&& (18446744073709551615 - 1073741823) = 0 := by
    rw [show (18446744073709551615 - 1073741823 : Nat) = (2 ^ 34 - 1) <<< 30 from rfl]
    apply Nat.eq_of_testBit_eq
    intro i
    rw [Nat.testBit_and, Nat.testBit_shiftLeft, Nat.zero_testBit]
    by_cases hi : 30 ≤ i
    · rw [Nat.testBit_lt_two_pow (Nat.lt_of_lt_of_le (show k < 2 ^ 30 by omega) (Nat.pow_le_pow_right (by omega) hi))]
      simp
    · simp [hi]
  rw [e]
  rfl

theorem or_none (n : Int) (h0 : 0 ≤ n) (h1 : n < 1073741824) : bits .or .u64 0 n = n := by
  obtain ⟨k, rfl⟩ := Int.eq_ofNat_of_zero_le h0
  rw [show (0 : Int) = ((0 : Nat) : Int) from rfl, u64_or_nat 0 k (by omega) (by omega), Nat.zero_or]

theorem and_both (n m : Int) (h0 : 0 ≤ n) (h1 : n < 1073741824) (h2 : 0 ≤ m) (h3 : m < 1073741824) : bits .and .u64 (bits .and .u64 n m) 9223372036854775808 = 0 := by
  obtain ⟨k, rfl⟩ := Int.eq_ofNat_of_zero_le h0
  obtain ⟨l, rfl⟩ := Int.eq_ofNat_of_zero_le h2
  rw [u64_and_nat k l (by omega) (by omega)]
  have : k &&& l ≤ k := Nat.and_le_left
  exact mask_high _ (by omega) (by omega)

/-- Division that cuts towards nought, by its remainder. -/
theorem cut_div (d : Int) : ∃ q r : Int, d.tdiv 1000000000 = q ∧ d.tmod 1000000000 = r ∧ d = q * 1000000000 + r ∧ -1000000000 < r ∧ r < 1000000000 := by
  refine ⟨_, _, rfl, rfl, ?_, ?_, ?_⟩
  · have := Int.mul_tdiv_add_tmod d 1000000000
    omega
  · have := Int.tmod_lt_of_pos (-d) (show (0 : Int) < 1000000000 by omega)
    rw [Int.neg_tmod] at this
    omega
  · exact Int.tmod_lt_of_pos d (by omega)

end Go.Proofs.Qxb6605855a
