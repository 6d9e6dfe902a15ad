/- Masks and shifts of 32-bit words as division and remainder: plain arithmetic. -/
import Derived.Laws.BitsAllLaws
import Derived.Laws.Bits
import Derived.IntWalk
namespace Go.Proofs.Ytojfmpidhnhppaa
open Go

theorem ofInt64 (v : Int) : (BitVec.ofInt 64 v).toNat = (v % 18446744073709551616).toNat := by
  rw [BitVec.toNat_ofInt]; rfl

/-- 'inst & (2^k - 1)' -/
theorem u32_mask (x : Int) (h0 : 0 ≤ x) (h1 : x ≤ 4294967295) : bits .and .u32 x 511 = x % 512 := by
  rw [u32_and x 511 h0 (by omega) (by omega) (by omega)]
  rw [show (511 : Int).toNat = 511 from rfl, nat_mask9]; omega

theorem i64_mask (x : Int) : bits .and .i64 x 511 = x % 512 := by
  show IntKind.i64.wrap ((BitVec.ofInt 64 x &&& BitVec.ofInt 64 511).toNat : Int) = _
  rw [BitVec.toNat_and, ofInt64, ofInt64, show ((511 : Int) % 18446744073709551616).toNat = 511 from rfl, nat_mask9, IntKind.wrap_i64]; omega

theorem i64_mask8 (x : Int) : bits .and .i64 x 255 = x % 256 := by
  show IntKind.i64.wrap ((BitVec.ofInt 64 x &&& BitVec.ofInt 64 255).toNat : Int) = _
  rw [BitVec.toNat_and, ofInt64, ofInt64, show ((255 : Int) % 18446744073709551616).toNat = 255 from rfl, nat_mask8, IntKind.wrap_i64]; omega

/-- The complement of a block of bits. -/
theorem nat_hole (x i k M : Nat) (hM : M = 4294967295 - (2 ^ i * (2 ^ k - 1))) (hx : x < 4294967296) (hik : i + k ≤ 32) : x &&& M = x / 2 ^ (i + k) * 2 ^ (i + k) + x % 2 ^ i := by
  apply Nat.eq_of_testBit_eq
  intro j
  have e1 : x / 2 ^ (i + k) * 2 ^ (i + k) + x % 2 ^ i = 2 ^ (i + k) * (x / 2 ^ (i + k)) ||| x % 2 ^ i := by
    rw [← Nat.two_pow_add_eq_or_of_lt (b := x % 2 ^ i), Nat.mul_comm]
    exact Nat.lt_of_lt_of_le (Nat.mod_lt _ (Nat.two_pow_pos i)) (Nat.pow_le_pow_right (by omega) (by omega))
  have e2 : M = 2 ^ 32 - 1 - (2 ^ i * (2 ^ k - 1)) := by rw [hM]
  rw [e1, Nat.testBit_and, Nat.testBit_or, Nat.testBit_two_pow_mul, Nat.testBit_mod_two_pow, Nat.testBit_div_two_pow, e2]
  have hlt : 2 ^ i * (2 ^ k - 1) < 2 ^ 32 := by
    have : 2 ^ i * 2 ^ k ≤ 2 ^ 32 := by rw [← Nat.pow_add]; exact Nat.pow_le_pow_right (by omega) hik
    have h3 : 2 ^ i * (2 ^ k - 1) < 2 ^ i * 2 ^ k := Nat.mul_lt_mul_of_pos_left (by have := Nat.two_pow_pos k; omega) (Nat.two_pow_pos i)
    omega
  rw [show 2 ^ 32 - 1 - 2 ^ i * (2 ^ k - 1) = 2 ^ 32 - (2 ^ i * (2 ^ k - 1) + 1) by omega, Nat.testBit_two_pow_sub_succ hlt, Nat.testBit_two_pow_mul, Nat.testBit_two_pow_sub_one]
  by_cases hj : j < 32
  · by_cases h1 : j < i
    · have a1 : ¬ (i + k ≤ j) := by omega
      have a2 : ¬ (i ≤ j) := by omega
      simp [hj, h1, a1, a2]
    · by_cases h2 : j < i + k
      · have a1 : ¬ (i + k ≤ j) := by omega
        have a2 : i ≤ j := by omega
        have a3 : j - i < k := by omega
        simp [h1, a1, a2, a3]
      · have a1 : i + k ≤ j := by omega
        have a2 : i ≤ j := by omega
        have a3 : ¬ (j - i < k) := by omega
        simp [hj, h1, a1, a2, a3]
  · have hx2 : x.testBit j = false := Nat.testBit_lt_two_pow (Nat.lt_of_lt_of_le hx (by rw [show 4294967296 = 2 ^ 32 from rfl]; exact Nat.pow_le_pow_right (by omega) (by omega)))
    by_cases h1 : i + k ≤ j
    · simp only [hx2, Bool.false_and, show j - (i + k) + (i + k) = j by omega, Bool.and_false, Bool.or_false, show decide (j < i) = false by simp; omega]
    · omega

theorem u32_clearB (x : Int) (h0 : 0 ≤ x) (h1 : x ≤ 4294967295) : bits .and .u32 x 4294966784 = x / 512 * 512 := by
  rw [u32_and x _ h0 (by omega) (by omega) (by omega)]
  rw [show (4294966784 : Int).toNat = 4294966784 from rfl, nat_hole x.toNat 0 9 4294966784 (by decide) (by omega) (by omega)]; omega
theorem u32_clearC (x : Int) (h0 : 0 ≤ x) (h1 : x ≤ 4294967295) : bits .and .u32 x 4294705663 = x / 262144 * 262144 + x % 512 := by
  rw [u32_and x _ h0 (by omega) (by omega) (by omega)]
  rw [show (4294705663 : Int).toNat = 4294705663 from rfl, nat_hole x.toNat 9 9 4294705663 (by decide) (by omega) (by omega)]; omega
theorem u32_clearA (x : Int) (h0 : 0 ≤ x) (h1 : x ≤ 4294967295) : bits .and .u32 x 4228120575 = x / 67108864 * 67108864 + x % 262144 := by
  rw [u32_and x _ h0 (by omega) (by omega) (by omega)]
  rw [show (4228120575 : Int).toNat = 4228120575 from rfl, nat_hole x.toNat 18 8 4228120575 (by decide) (by omega) (by omega)]; omega
theorem u32_clearOp (x : Int) (h0 : 0 ≤ x) (h1 : x ≤ 4294967295) : bits .and .u32 x 67108863 = x % 67108864 := by
  rw [u32_and x _ h0 (by omega) (by omega) (by omega)]
  rw [show (67108863 : Int).toNat = 67108863 from rfl, nat_hole x.toNat 26 6 67108863 (by decide) (by omega) (by omega)]; omega

/-- The hole filled. -/
theorem nat_fill (hi b lo i k : Nat) (hlo : lo < 2 ^ i) (hb : b < 2 ^ k) : (hi * 2 ^ (i + k) + lo) ||| (b * 2 ^ i) = hi * 2 ^ (i + k) + b * 2 ^ i + lo := by
  have hlo2 : lo < 2 ^ (i + k) := Nat.lt_of_lt_of_le hlo (Nat.pow_le_pow_right (by omega) (by omega))
  have hm : 2 ^ i * b + lo < 2 ^ (i + k) := by
    have h3 : 2 ^ i * b + 2 ^ i ≤ 2 ^ i * 2 ^ k := by rw [← Nat.mul_succ]; exact Nat.mul_le_mul_left _ hb
    rw [Nat.pow_add]; omega
  rw [Nat.mul_comm hi, Nat.mul_comm b, Nat.two_pow_add_eq_or_of_lt hlo2, Nat.or_assoc, Nat.or_comm lo, ← Nat.two_pow_add_eq_or_of_lt hlo, ← Nat.two_pow_add_eq_or_of_lt hm, Nat.add_assoc]

theorem u32_or_fill (x y : Int) (i k hi b lo : Nat) (hx : x = ((hi * 2 ^ (i + k) + lo : Nat) : Int)) (hy : y = ((b * 2 ^ i : Nat) : Int)) (hlo : lo < 2 ^ i) (hb : b < 2 ^ k) (h1 : x < 4294967296) (h2 : y < 4294967296) :
    bits .or .u32 x y = x + y := by
  subst hx hy
  rw [u32_or _ _ (by omega) h1 (by omega) h2, Int.toNat_natCast, Int.toNat_natCast, nat_fill hi b lo i k hlo hb]
  omega
theorem u32_setB (x b : Int) (h0 : 0 ≤ x) (h1 : x ≤ 4294967295) (b0 : 0 ≤ b) (b1 : b < 512) : bits .or .u32 (x / 512 * 512) b = x / 512 * 512 + b :=
  u32_or_fill _ _ 0 9 (x / 512).toNat b.toNat 0 (by omega) (by omega) (by omega) (by omega) (by omega) (by omega)
theorem u32_setC (x b : Int) (h0 : 0 ≤ x) (h1 : x ≤ 4294967295) (b0 : 0 ≤ b) (b1 : b < 512) : bits .or .u32 (x / 262144 * 262144 + x % 512) (b * 512) = x / 262144 * 262144 + x % 512 + b * 512 :=
  u32_or_fill _ _ 9 9 (x / 262144).toNat b.toNat (x % 512).toNat (by omega) (by omega) (by omega) (by omega) (by omega) (by omega)
theorem u32_setA (x b : Int) (h0 : 0 ≤ x) (h1 : x ≤ 4294967295) (b0 : 0 ≤ b) (b1 : b < 256) : bits .or .u32 (x / 67108864 * 67108864 + x % 262144) (b * 262144) = x / 67108864 * 67108864 + x % 262144 + b * 262144 :=
  u32_or_fill _ _ 18 8 (x / 67108864).toNat b.toNat (x % 262144).toNat (by omega) (by omega) (by omega) (by omega) (by omega) (by omega)
theorem u32_setOp (x b : Int) (b0 : 0 ≤ b) (b1 : b < 64) : bits .or .u32 (x % 67108864) (b * 67108864) = x % 67108864 + b * 67108864 :=
  u32_or_fill _ _ 26 6 0 b.toNat (x % 67108864).toNat (by omega) (by omega) (by omega) (by omega) (by omega) (by omega)
end Go.Proofs.Ytojfmpidhnhppaa
