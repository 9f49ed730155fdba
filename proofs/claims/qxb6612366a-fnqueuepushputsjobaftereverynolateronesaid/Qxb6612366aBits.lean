/-
  BITS AND DIVISION, no Go text in sight.
-/
import Derived.Laws.BitsAllLaws
namespace Go.Proofs.Qxb6612366a

theorem and_mask (x : Int) (h0 : 0 ≤ x) (h1 : x < 1000000000) : bits .and .u64 x 1073741823 = x := by
  rw [u64_and x 1073741823 h0 (by omega) (by decide) (by decide)]
  have e : x.toNat &&& (1073741823 : Int).toNat = x.toNat := by
    rw [show (1073741823 : Int).toNat = 2 ^ 30 - 1 from rfl, Nat.and_two_pow_sub_one_eq_mod, Nat.mod_eq_of_lt (by omega)]
  rw [e]; omega
theorem and_top (x : Int) (h0 : 0 ≤ x) (h1 : x < 1000000000) : bits .and .u64 x 9223372036854775808 = 0 := by
  rw [u64_and x 9223372036854775808 h0 (by omega) (by decide) (by decide)]
  have e : x.toNat &&& (9223372036854775808 : Int).toNat = 0 := by
    rw [show (9223372036854775808 : Int).toNat = 2 ^ 63 from rfl]
    apply Nat.eq_of_testBit_eq
    intro i
    rw [Nat.testBit_and, Nat.zero_testBit]
    by_cases hi : 63 = i
    · subst hi
      rw [Nat.testBit_lt_two_pow (by omega)]; rfl
    · rw [Nat.testBit_two_pow_of_ne hi]; simp
  rw [e]; rfl
theorem or_zero (x : Int) (h0 : 0 ≤ x) (h1 : x < 1000000000) : bits .or .u64 0 x = x := by
  rw [u64_or 0 x (by decide) (by decide) h0 (by omega)]
  rw [show (0 : Int).toNat = 0 from rfl, Nat.zero_or]; omega
theorem andNot_zero : bits .andNot .u64 0 1073741823 = 0 := by decide
theorem and_small (x y : Int) (h0 : 0 ≤ x) (h1 : x < 1000000000) (k0 : 0 ≤ y) (k1 : y < 1000000000) : 0 ≤ bits .and .u64 x y ∧ bits .and .u64 x y < 1000000000 := by
  rw [u64_and x y h0 (by omega) k0 (by omega)]
  have := Nat.and_le_left (n := x.toNat) (m := y.toNat)
  omega
/-- Go's quotient and remainder of a number below zero. -/
theorem tdiv_neg (x : Int) (h : x < 0) : ∃ q r : Int, x.tdiv 1000000000 = q ∧ x.tmod 1000000000 = r ∧ q * 1000000000 + r = x ∧ -1000000000 < r ∧ r ≤ 0 := by
  refine ⟨_, _, rfl, rfl, ?_, ?_, ?_⟩
  · have := Int.tmod_add_mul_tdiv x 1000000000; omega
  · obtain ⟨y, rfl⟩ : ∃ y : Int, x = -y := ⟨-x, by omega⟩
    rw [Int.neg_tmod, Int.tmod_eq_emod_of_nonneg (by omega)]
    omega
  · obtain ⟨y, rfl⟩ : ∃ y : Int, x = -y := ⟨-x, by omega⟩
    rw [Int.neg_tmod, Int.tmod_eq_emod_of_nonneg (by omega)]
    omega
end Go.Proofs.Qxb6612366a
