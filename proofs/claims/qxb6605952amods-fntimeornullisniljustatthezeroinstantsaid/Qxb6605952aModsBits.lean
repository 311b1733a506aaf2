/-
  SEAT b6605952aM: PLAIN FACTS ON BITS AND ON THE QUOTIENT.
-/
import Derived.WalkKit
namespace Go.Proofs.Qxb6605952aMods
open Go.RowKit

theorem nat_and_mask (n : Nat) (h : n < 1073741824) : n &&& 1073741823 = n := by
  have := Nat.and_two_pow_sub_one_eq_mod n 30
  simpa [Nat.mod_eq_of_lt h] using this

theorem nat_and_top (n : Nat) (h : n < 1073741824) : n &&& 9223372036854775808 = 0 := by
  have := nat_bit 63 n
  rw [Nat.div_eq_of_lt (by omega)] at this
  simpa using this

theorem and_mask (n : Int) (h0 : 0 ≤ n) (h1 : n ≤ 999999999) : bits .and .u64 n 1073741823 = n := by
  rw [u64_and n 1073741823 h0 (by omega) (by decide) (by decide), show (1073741823 : Int).toNat = 1073741823 from rfl, nat_and_mask _ (by omega)]
  omega

theorem and_top (n : Int) (h0 : 0 ≤ n) (h1 : n ≤ 999999999) : bits .and .u64 n 9223372036854775808 = 0 := by
  rw [u64_and n 9223372036854775808 h0 (by omega) (by decide) (by decide), show (9223372036854775808 : Int).toNat = 9223372036854775808 from rfl, nat_and_top _ (by omega)]
  rfl

theorem or_zero (n : Int) (h0 : 0 ≤ n) (h1 : n ≤ 999999999) : bits .or .u64 0 n = n := by
  rw [u64_or 0 n (by decide) (by decide) h0 (by omega)]
  simp
  omega

theorem andNot_zero : bits .andNot .u64 0 1073741823 = 0 := by
  rw [u64_andNot 0 1073741823 (by decide) (by decide) (by decide) (by decide)]
  simp

/-- The seconds and the nanoseconds of d nanoseconds, rounded toward nought. -/
theorem parts (d : Int) (h : -9223372036854775808 ≤ d ∧ d ≤ 9223372036854775807) :
    d = 1000000000 * d.tdiv 1000000000 + d.tmod 1000000000 ∧ -1000000000 < d.tmod 1000000000 ∧ d.tmod 1000000000 < 1000000000 ∧ -9223372037 ≤ d.tdiv 1000000000 ∧ d.tdiv 1000000000 ≤ 9223372037 ∧ (0 ≤ d → 0 ≤ d.tmod 1000000000) ∧ (d ≤ 0 → d.tmod 1000000000 ≤ 0) := by
  have h1 := Int.mul_tdiv_add_tmod d 1000000000
  have h2 : 0 ≤ d → 0 ≤ d.tmod 1000000000 := fun h => Int.tmod_nonneg _ h
  have h3 : d ≤ 0 → d.tmod 1000000000 ≤ 0 := fun h => by
    have h6 := Int.tmod_nonneg 1000000000 (a := -d) (by omega)
    rw [Int.neg_tmod] at h6
    omega
  have h4 := Int.tmod_lt_of_pos d (b := 1000000000) (by decide)
  have h5 := Int.lt_tmod_of_pos d (b := 1000000000) (by decide)
  refine ⟨by omega, by omega, by omega, by omega, by omega, h2, h3⟩

end Go.Proofs.Qxb6605952aMods
