import Derived.Test.YbulkagzsRows
import Derived.WalkKit
import Derived.WalkLawsBesides
import Derived.ProofKit
import Derived.OpenShut
namespace Go.Proofs.Ybulkagzs
open Go.RowKit
set_option linter.unusedVariables false

theorem and_hi (x : Int) (h0 : 0 ≤ x) (h : x ≤ 999999999) : bits .and .u64 x 9223372036854775808 = 0 := by
  rw [u64_and x _ h0 (by omega) (by omega) (by omega)]
  have h2 : (9223372036854775808 : Int).toNat = 2 ^ 63 := by decide
  have h3 : x.toNat < 2 ^ 63 := by have h4 : (2 : Nat) ^ 63 = 9223372036854775808 := by decide
                                   omega
  have h5 : x.toNat &&& 2 ^ 63 = 0 := by
    apply Nat.eq_of_testBit_eq
    intro i
    rw [Nat.testBit_and, Nat.testBit_two_pow, Nat.zero_testBit]
    by_cases hi : 63 = i
    · subst hi; rw [Nat.testBit_lt_two_pow h3]; rfl
    · simp [hi]
  rw [h2, h5]
  rfl
theorem and_lo (x : Int) (h0 : 0 ≤ x) (h : x ≤ 999999999) : bits .and .u64 x 1073741823 = x := by
  rw [u64_and x _ h0 (by omega) (by omega) (by omega)]
  have h2 : (1073741823 : Int).toNat = 2 ^ 30 - 1 := by decide
  rw [h2, Nat.and_two_pow_sub_one_eq_mod]
  have h3 : (2 : Nat) ^ 30 = 1073741824 := by decide
  omega
theorem and_self (x : Int) (h0 : 0 ≤ x) (h : x ≤ 999999999) : bits .and .u64 x x = x := by
  rw [u64_and x _ h0 (by omega) h0 (by omega), Nat.and_self]
  omega
theorem andNot_zero : bits .andNot .u64 0 1073741823 = 0 := by decide
theorem or_zero (x : Int) (h0 : 0 ≤ x) (h : x ≤ 999999999) : bits .or .u64 0 x = x := by
  rw [u64_or 0 x (by omega) (by omega) h0 (by omega)]
  simp
  omega
theorem wrap64u (x : Int) (h0 : 0 ≤ x) (h : x ≤ 999999999) : IntKind.u64.wrap x = x := by
  rw [IntKind.wrap_u64]; omega
theorem tmod_bd (d : Int) : -1000000000 < d.tmod 1000000000 ∧ d.tmod 1000000000 < 1000000000 := by
  have h1 := Int.tmod_lt_of_pos d (show (0 : Int) < 1000000000 by decide)
  have h2 := Int.tmod_lt_of_pos (-d) (show (0 : Int) < 1000000000 by decide)
  rw [Int.neg_tmod] at h2
  omega
theorem tdiv_bd (d : Int) (h1 : -9223372036854775808 ≤ d) (h2 : d ≤ 9223372036854775807) : -9223372037 ≤ d.tdiv 1000000000 ∧ d.tdiv 1000000000 ≤ 9223372037 := by
  have h := Int.tmod_add_mul_tdiv d 1000000000
  have h3 := tmod_bd d
  omega
end Go.Proofs.Ybulkagzs
