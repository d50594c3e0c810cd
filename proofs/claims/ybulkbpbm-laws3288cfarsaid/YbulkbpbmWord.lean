import Derived.WalkKit
import Derived.Laws.BitsAllLaws
/-! Plain facts on 64-bit words: sign, exponent field, fraction field. No Go text here. -/
namespace Go.Proofs.Ybulkbpbm.fl

theorem and_split (n a c x y : Nat) (hx : x < 2 ^ n) (hy : y < 2 ^ n) : (2 ^ n * a + x) &&& (2 ^ n * c + y) = 2 ^ n * (a &&& c) + (x &&& y) := by
  have hxy : x &&& y < 2 ^ n := Nat.and_lt_two_pow _ hy
  apply Nat.eq_of_testBit_eq
  intro i
  rw [Nat.testBit_and, Nat.testBit_two_pow_mul_add _ hx, Nat.testBit_two_pow_mul_add _ hy, Nat.testBit_two_pow_mul_add _ hxy]
  by_cases h : i < n
  · simp [h]
  · simp [h]

theorem or_split (n a c x y : Nat) (hx : x < 2 ^ n) (hy : y < 2 ^ n) : (2 ^ n * a + x) ||| (2 ^ n * c + y) = 2 ^ n * (a ||| c) + (x ||| y) := by
  have hxy : x ||| y < 2 ^ n := Nat.or_lt_two_pow hx hy
  apply Nat.eq_of_testBit_eq
  intro i
  rw [Nat.testBit_or, Nat.testBit_two_pow_mul_add _ hx, Nat.testBit_two_pow_mul_add _ hy, Nat.testBit_two_pow_mul_add _ hxy]
  by_cases h : i < n
  · simp [h]
  · simp [h]

/-- the word without its sign -/
theorem abs_bits (b : Nat) (hb : b < 18446744073709551616) : bits .andNot .u64 (b : Int) 9223372036854775808 = ((b % 9223372036854775808 : Nat) : Int) := by
  have e : (9223372036854775808 : Int) = ((9223372036854775808 : Nat) : Int) := rfl
  rw [e, u64_andNot_nat b _ hb (by decide)]
  have e2 : (18446744073709551615 - 9223372036854775808 : Nat) = 2 ^ 63 - 1 := by decide
  rw [e2, Nat.and_two_pow_sub_one_eq_mod]

/-- the exponent field -/
theorem exp_bits_u (b : Nat) (hb : b < 18446744073709551616) : bits .and .u64 ((b : Int) / 4503599627370496) 2047 = ((b / 4503599627370496 % 2048 : Nat) : Int) := by
  have e1 : ((b : Int) / 4503599627370496) = ((b / 4503599627370496 : Nat) : Int) := by simp
  have e2 : (2047 : Int) = ((2047 : Nat) : Int) := rfl
  rw [e1, e2, u64_and_nat _ _ (by omega) (by decide), nat_mask11]

theorem exp_bits_i (b : Nat) (hb : b < 18446744073709551616) : bits .and .i64 ((b : Int) / 4503599627370496) 2047 = ((b / 4503599627370496 % 2048 : Nat) : Int) := by
  have h := bits_mask .i64 63 (by decide) (fun n h0 h1 => by rw [IntKind.wrap_i64]; omega) 11 (by decide) ((b : Int) / 4503599627370496) (by omega) (by omega)
  have e : ((2 : Int) ^ 11 - 1) = 2047 := by decide
  simp only [e] at h
  rw [h]
  omega

/-- the sign bit -/
theorem sign_bits (b : Nat) (hb : b < 18446744073709551616) : bits .and .u64 (b : Int) 9223372036854775808 = ((b / 9223372036854775808 * 9223372036854775808 : Nat) : Int) := by
  have e : (9223372036854775808 : Int) = ((9223372036854775808 : Nat) : Int) := rfl
  rw [e, u64_and_nat b _ hb (by decide)]
  have e2 : (9223372036854775808 : Nat) = 2 ^ 63 := by decide
  have h2 : b / 2 ^ 63 < 2 := by rw [← e2]; omega
  rw [e2, nat_bit, Nat.mod_eq_of_lt h2]

/-- the exponent field struck out -/
theorem strike_bits (b : Nat) (hb : b < 18446744073709551616) : bits .andNot .u64 (b : Int) 9218868437227405312 = ((b / 9223372036854775808 * 9223372036854775808 + b % 4503599627370496 : Nat) : Int) := by
  have e : (9218868437227405312 : Int) = ((9218868437227405312 : Nat) : Int) := rfl
  rw [e, u64_andNot_nat b _ hb (by decide)]
  congr 1
  have e2 : (18446744073709551615 - 9218868437227405312 : Nat) = 2 ^ 52 * 2 ^ 11 + (2 ^ 52 - 1) := by decide
  have e3 : b = 2 ^ 52 * (b / 4503599627370496) + b % 4503599627370496 := by
    have : (2 : Nat) ^ 52 = 4503599627370496 := by decide
    rw [this]; omega
  have e4 : (2 : Nat) ^ 52 = 4503599627370496 := by decide
  have e5 : (2 : Nat) ^ 11 = 2048 := by decide
  rw [e2]
  conv => lhs; rw [e3]
  rw [and_split 52 _ _ _ _ (by rw [e4]; omega) (by rw [e4]; omega), nat_bit, Nat.and_two_pow_sub_one_eq_mod, e4, e5]
  have : b / 4503599627370496 / 2048 % 2 = b / 9223372036854775808 := by omega
  rw [this]
  omega

/-- another exponent field put in -/
theorem put_bits (s t f : Nat) (hs : s < 2) (ht : t < 2048) (hf : f < 4503599627370496) :
    bits .or .u64 ((s * 9223372036854775808 + f : Nat) : Int) ((t * 4503599627370496 : Nat) : Int) = ((s * 9223372036854775808 + t * 4503599627370496 + f : Nat) : Int) := by
  rw [u64_or_nat _ _ (by omega) (by omega)]
  congr 1
  have e4 : (2 : Nat) ^ 52 = 4503599627370496 := by decide
  have e6 : s * 9223372036854775808 + f = 2 ^ 52 * (s * 2048) + f := by omega
  have e7 : t * 4503599627370496 = 2 ^ 52 * t + 0 := by rw [e4, Nat.mul_comm]; exact (Nat.add_zero _).symm
  have e11 : (2 : Nat) ^ 11 = 2048 := by decide
  have h1 : s * 2048 % 2 ^ 11 = 0 := by rw [e11]; omega
  have h2 : t < 2 ^ 11 := by rw [e11]; exact ht
  have h3 : f < 2 ^ 52 := by rw [e4]; exact hf
  rw [e6, e7, or_split 52 _ _ _ _ h3 (by decide), nat_join 11 _ _ h1 h2, e4, Nat.or_zero]
  omega

theorem round_bits (b d : Nat) : (bits .andNot .u64 (IntKind.u64.wrap ((b : Int) + 2251799813685248 / 2 ^ d)) (4503599627370495 / 2 ^ d)).toNat =
    ((b + 2251799813685248 / 2 ^ d) % 18446744073709551616) &&& (18446744073709551615 - 4503599627370495 / 2 ^ d) := by
  have e1 : ((b : Int) + 2251799813685248 / 2 ^ d) = ((b + 2251799813685248 / 2 ^ d : Nat) : Int) := by simp
  have e2 : ((4503599627370495 : Int) / 2 ^ d) = ((4503599627370495 / 2 ^ d : Nat) : Int) := by simp
  have h2 : 4503599627370495 / 2 ^ d ≤ 4503599627370495 := Nat.div_le_self _ _
  rw [e1, e2, IntKind.wrap_u64]
  generalize 4503599627370495 / 2 ^ d = m at *
  generalize b + 2251799813685248 / 2 ^ d = n
  have e3 : ((n : Int) % 18446744073709551616) = ((n % 18446744073709551616 : Nat) : Int) := by omega
  rw [e3, u64_andNot_nat _ _ (Nat.mod_lt _ (by decide)) (by omega), Int.toNat_natCast]

theorem shl_bits (t : Nat) (ht : t < 2048) : IntKind.u64.wrap ((t : Int) * 4503599627370496) = ((t * 4503599627370496 : Nat) : Int) := by
  rw [IntKind.wrap_u64]; omega
end Go.Proofs.Ybulkbpbm.fl
