/- The mark of a constant operand (bit 8): what opIndexK, opRkAsk, opIsK compute, and that the given laws hold of it. -/
import Derived.Test.YtojfmpidhnhppabProg
import Derived.Laws.BitsAllLaws
import Derived.Laws.Bits
import Derived.WalkKit
import Derived.OpenShut
import Derived.Handy
namespace Go.Proofs.Ytojfmpidhnhppab
open Go.RowKit Go.ChangeShapes
theorem ofInt64 (v : Int) : (BitVec.ofInt 64 v).toNat = (v % 18446744073709551616).toNat := by
  rw [BitVec.toNat_ofInt]; rfl
/-- The complement of a block of bits. -/
theorem nat_hole (x i k M : Nat) (hM : M = 18446744073709551615 - (2 ^ i * (2 ^ k - 1))) (hx : x < 18446744073709551616) (hik : i + k ≤ 64) : x &&& M = x / 2 ^ (i + k) * 2 ^ (i + k) + x % 2 ^ i := by
  apply Nat.eq_of_testBit_eq
  intro j
  have e1 : x / 2 ^ (i + k) * 2 ^ (i + k) + x % 2 ^ i = 2 ^ (i + k) * (x / 2 ^ (i + k)) ||| x % 2 ^ i := by
    rw [← Nat.two_pow_add_eq_or_of_lt (b := x % 2 ^ i), Nat.mul_comm]
    exact Nat.lt_of_lt_of_le (Nat.mod_lt _ (Nat.two_pow_pos i)) (Nat.pow_le_pow_right (by omega) (by omega))
  have e2 : M = 2 ^ 64 - 1 - (2 ^ i * (2 ^ k - 1)) := by rw [hM]
  rw [e1, Nat.testBit_and, Nat.testBit_or, Nat.testBit_two_pow_mul, Nat.testBit_mod_two_pow, Nat.testBit_div_two_pow, e2]
  have hlt : 2 ^ i * (2 ^ k - 1) < 2 ^ 64 := by
    have : 2 ^ i * 2 ^ k ≤ 2 ^ 64 := by rw [← Nat.pow_add]; exact Nat.pow_le_pow_right (by omega) hik
    have h3 : 2 ^ i * (2 ^ k - 1) < 2 ^ i * 2 ^ k := Nat.mul_lt_mul_of_pos_left (by have := Nat.two_pow_pos k; omega) (Nat.two_pow_pos i)
    omega
  rw [show 2 ^ 64 - 1 - 2 ^ i * (2 ^ k - 1) = 2 ^ 64 - (2 ^ i * (2 ^ k - 1) + 1) by omega, Nat.testBit_two_pow_sub_succ hlt, Nat.testBit_two_pow_mul, Nat.testBit_two_pow_sub_one]
  by_cases hj : j < 64
  · by_cases h1 : j < i
    · have a1 : ¬ (i + k ≤ j) := by omega
      have a2 : ¬ (i ≤ j) := by omega
      simp [hj, h1, a1, a2]
    · by_cases h2 : j < i + k
      · have a1 : ¬ (i + k ≤ j) := by omega
        have a2 : i ≤ j := by omega
        have a3 : j - i < k := by omega
        simp [h1, a1, a2, a3]
      · have a1 : i + k ≤ j := by omega
        have a2 : i ≤ j := by omega
        have a3 : ¬ (j - i < k) := by omega
        simp [hj, h1, a1, a2, a3]
  · have hx2 : x.testBit j = false := Nat.testBit_lt_two_pow (Nat.lt_of_lt_of_le hx (by rw [show 18446744073709551616 = 2 ^ 64 from rfl]; exact Nat.pow_le_pow_right (by omega) (by omega)))
    by_cases h1 : i + k ≤ j
    · simp only [hx2, Bool.false_and, show j - (i + k) + (i + k) = j by omega, Bool.and_false, Bool.or_false, show decide (j < i) = false by simp; omega]
    · omega
/-- The hole filled. -/
theorem nat_fill (hi b lo i k : Nat) (hlo : lo < 2 ^ i) (hb : b < 2 ^ k) : (hi * 2 ^ (i + k) + lo) ||| (b * 2 ^ i) = hi * 2 ^ (i + k) + b * 2 ^ i + lo := by
  have hlo2 : lo < 2 ^ (i + k) := Nat.lt_of_lt_of_le hlo (Nat.pow_le_pow_right (by omega) (by omega))
  have hm : 2 ^ i * b + lo < 2 ^ (i + k) := by
    have h3 : 2 ^ i * b + 2 ^ i ≤ 2 ^ i * 2 ^ k := by rw [← Nat.mul_succ]; exact Nat.mul_le_mul_left _ hb
    rw [Nat.pow_add]; omega
  rw [Nat.mul_comm hi, Nat.mul_comm b, Nat.two_pow_add_eq_or_of_lt hlo2, Nat.or_assoc, Nat.or_comm lo, ← Nat.two_pow_add_eq_or_of_lt hlo, ← Nat.two_pow_add_eq_or_of_lt hm, Nat.add_assoc]
theorem nat_or256 (x : Nat) : x ||| 256 = x / 512 * 512 + 256 + x % 256 := by
  have e1 := nat_fill (x / 512) (x / 256 % 2) (x % 256) 8 1 (by omega) (by omega)
  have e2 := nat_fill (x / 512) 1 (x % 256) 8 1 (by omega) (by omega)
  have e0 : x / 512 * 2 ^ (8 + 1) + x / 256 % 2 * 2 ^ 8 + x % 256 = x := by omega
  rw [e0] at e1
  have e3 : x / 256 % 2 * 2 ^ 8 ||| 256 = 256 := by
    rcases (show x / 256 % 2 = 0 ∨ x / 256 % 2 = 1 by omega) with h | h <;> rw [h] <;> decide
  have e4 : x ||| 256 = (x / 512 * 2 ^ (8 + 1) + x % 256) ||| (1 * 2 ^ 8) := by
    conv => lhs; rw [← e1]
    rw [Nat.or_assoc, e3]
  rw [e4, e2]
def indexK (v : Int) : Int := v / 512 * 512 + v % 256
def rkAsk (v : Int) : Int := v / 512 * 512 + 256 + v % 256
theorem and_K (v : Int) (h0 : -9223372036854775808 ≤ v) (h1 : v ≤ 9223372036854775807) : bits .and .i64 v (-257) = indexK v := by
  show IntKind.i64.wrap ((BitVec.ofInt 64 v &&& BitVec.ofInt 64 (-257)).toNat : Int) = _
  rw [BitVec.toNat_and, ofInt64, ofInt64, show ((-257 : Int) % 18446744073709551616).toNat = 18446744073709551359 from rfl, nat_hole _ 8 1 18446744073709551359 (by decide) (by omega) (by omega), IntKind.wrap_i64]
  unfold indexK; omega
theorem or_K (v : Int) (h0 : -9223372036854775808 ≤ v) (h1 : v ≤ 9223372036854775807) : bits .or .i64 v 256 = rkAsk v := by
  show IntKind.i64.wrap ((BitVec.ofInt 64 v ||| BitVec.ofInt 64 256).toNat : Int) = _
  rw [BitVec.toNat_or, ofInt64, ofInt64, show ((256 : Int) % 18446744073709551616).toNat = 256 from rfl, nat_or256, IntKind.wrap_i64]
  unfold rkAsk; omega
theorem is_K (v : Int) : bits .and .i64 v 256 = v / 256 % 2 * 256 := by
  show IntKind.i64.wrap ((BitVec.ofInt 64 v &&& BitVec.ofInt 64 256).toNat : Int) = _
  rw [BitVec.toNat_and, ofInt64, ofInt64, show ((256 : Int) % 18446744073709551616).toNat = 256 from rfl, show 256 = 2 ^ 8 from rfl, nat_bit, IntKind.wrap_i64]
  omega
def isKB (v : Int) : Bool := v / 256 % 2 * 256 != 0
def In64 (v : Int) : Prop := -9223372036854775808 ≤ v ∧ v ≤ 9223372036854775807

theorem zindex (v : Int) (h : In64 v) (w : World) : Calls Try.prog 9 #[.int .i64 v] w fun e w' => e = .returned (.int .i64 (indexK v)) ∧ w = w' := by
  obtain ⟨h0, h1⟩ := h
  have e1 := and_K v h0 h1
  go_enter Try.func9, Try.ntmps9
  go_wp2
  go_ret
  exact ⟨rfl, rfl⟩
theorem zask (v : Int) (h : In64 v) (w : World) : Calls Try.prog 10 #[.int .i64 v] w fun e w' => e = .returned (.int .i64 (rkAsk v)) ∧ w = w' := by
  obtain ⟨h0, h1⟩ := h
  have e1 := or_K v h0 h1
  go_enter Try.func10, Try.ntmps10
  go_wp2
  go_ret
  exact ⟨rfl, rfl⟩
theorem zis (v : Int) (w : World) : Calls Try.prog 11 #[.int .i64 v] w fun e w' => e = .returned (.bool (isKB v)) ∧ w = w' := by
  have e1 := is_K v
  unfold isKB
  go_enter Try.func11, Try.ntmps11
  go_wp2
  go_ret
  exact ⟨rfl, rfl⟩
theorem tmod512 (x : Int) : (0 ≤ x ∧ x.tmod 512 = x % 512) ∨ (x < 0 ∧ x.tmod 512 = -((-x) % 512)) := by
  by_cases h : 0 ≤ x
  · exact .inl ⟨h, Int.tmod_eq_emod_of_nonneg h⟩
  · refine .inr ⟨by omega, ?_⟩
    have := Int.tmod_eq_emod_of_nonneg (a := -x) (b := 512) (by omega)
    rw [Int.neg_tmod] at this
    omega
theorem zmod (x : Int) (w : World) : Calls Try.prog 8 #[.int .i64 x] w fun e w' => e = .returned (.int .i64 (x % 512)) ∧ w = w' := by
  have ht := tmod512 x
  by_cases h : x.tmod 512 < 0
  · have e : x % 512 = wrap64 (x.tmod 512 + 512) := by unfold wrap64; omega
    clear ht
    rw [e]
    go_enter Try.func8, Try.ntmps8
    go_wp2
    go_ret
    exact ⟨rfl, rfl⟩
  · have e : x % 512 = x.tmod 512 := by omega
    clear ht
    rw [e]
    go_enter Try.func8, Try.ntmps8
    go_wp2
    go_ret
    exact ⟨rfl, rfl⟩
theorem ne_of {x y : Int} (h : x = y) : (x == y) = true ∧ (x != y) = false := by subst h; simp
theorem indexK_in {v : Int} (h : In64 v) : In64 (indexK v) := by unfold In64 indexK at *; omega
theorem rkAsk_in {v : Int} (h : In64 v) : In64 (rkAsk v) := by unfold In64 rkAsk at *; omega

theorem walk3 (v : Int) (h : In64 v) (w : World) : Calls Try.prog 3 #[.int .i64 v] w fun e w' => e = .returned (.bool true) ∧ Grown w w' := by
  obtain ⟨h0, h1⟩ := id h
  by_cases hr : 256 ≤ v % 512
  · obtain ⟨h3, k3⟩ := ne_of (show indexK v = v - 256 by unfold indexK; omega)
    go_enter Try.func3, Try.ntmps3
    go_wp2_with (first | (go_at_call 8; refine (zmod _ _).mono ?_; rintro e w' ⟨rfl, rfl⟩) | (go_at_call 9; refine (zindex _ h _).mono ?_; rintro e w' ⟨rfl, rfl⟩))
    go_ret
    exact ⟨rfl, by go_grown⟩
  · obtain ⟨h3, k3⟩ := ne_of (show indexK v = v by unfold indexK; omega)
    go_enter Try.func3, Try.ntmps3
    go_wp2_with (first | (go_at_call 8; refine (zmod _ _).mono ?_; rintro e w' ⟨rfl, rfl⟩) | (go_at_call 9; refine (zindex _ h _).mono ?_; rintro e w' ⟨rfl, rfl⟩))
    go_ret
    exact ⟨rfl, by go_grown⟩
theorem walk4 (v : Int) (h : In64 v) (w : World) : Calls Try.prog 4 #[.int .i64 v] w fun e w' => e = .returned (.bool true) ∧ Grown w w' := by
  obtain ⟨h0, h1⟩ := id h
  by_cases hr : v % 512 < 256
  · obtain ⟨h3, k3⟩ := ne_of (show rkAsk v = v + 256 by unfold rkAsk; omega)
    have hb : v + 256 ≤ 9223372036854775807 := by omega
    go_enter Try.func4, Try.ntmps4
    go_wp2_with (first | (go_at_call 8; refine (zmod _ _).mono ?_; rintro e w' ⟨rfl, rfl⟩) | (go_at_call 10; refine (zask _ h _).mono ?_; rintro e w' ⟨rfl, rfl⟩))
    go_ret
    exact ⟨rfl, by go_grown⟩
  · obtain ⟨h3, k3⟩ := ne_of (show rkAsk v = v by unfold rkAsk; omega)
    go_enter Try.func4, Try.ntmps4
    go_wp2_with (first | (go_at_call 8; refine (zmod _ _).mono ?_; rintro e w' ⟨rfl, rfl⟩) | (go_at_call 10; refine (zask _ h _).mono ?_; rintro e w' ⟨rfl, rfl⟩))
    go_ret
    exact ⟨rfl, by go_grown⟩
theorem walk5 (v : Int) (h : In64 v) (w : World) : Calls Try.prog 5 #[.int .i64 v] w fun e w' => e = .returned (.bool true) ∧ Grown w w' := by
  have hi := indexK_in h
  have ha := rkAsk_in h
  obtain ⟨h3, k3⟩ := ne_of (show indexK (indexK v) = indexK v by unfold indexK; omega)
  obtain ⟨h4, k4⟩ := ne_of (show indexK (rkAsk v) = indexK v by unfold rkAsk indexK; omega)
  have h5 : isKB (indexK v) = false := by unfold isKB indexK; simp; omega
  have h6 : ((indexK v == v) == !isKB v) = true := by
    unfold isKB indexK
    rcases (show v / 256 % 2 = 0 ∨ v / 256 % 2 = 1 by omega) with hb | hb
    · simp [hb]; omega
    · simp [hb]; omega
  go_enter Try.func5, Try.ntmps5
  go_wp2_with (first | (go_at_call 11; refine (zis _ _).mono ?_; rintro e w' ⟨rfl, rfl⟩) | (go_at_call 10; refine (zask _ (by assumption) _).mono ?_; rintro e w' ⟨rfl, rfl⟩) | (go_at_call 9; refine (zindex _ (by assumption) _).mono ?_; rintro e w' ⟨rfl, rfl⟩))
  go_ret
  exact ⟨rfl, by go_grown⟩
theorem walk6 (v : Int) (h : In64 v) (w : World) : Calls Try.prog 6 #[.int .i64 v] w fun e w' => e = .returned (.bool true) ∧ Grown w w' := by
  by_cases hlt : v < 0
  · go_enter Try.func6, Try.ntmps6
    go_wp2
    go_ret
    exact ⟨rfl, by go_grown⟩
  · by_cases hgt : 255 < v
    · go_enter Try.func6, Try.ntmps6
      go_wp2
      go_ret
      exact ⟨rfl, by go_grown⟩
    · have ha := rkAsk_in h
      obtain ⟨h3, k3⟩ := ne_of (show rkAsk v = v + 256 by unfold rkAsk; omega)
      obtain ⟨h4, k4⟩ := ne_of (show indexK (rkAsk v) = v by unfold rkAsk indexK; omega)
      have h5 : isKB (rkAsk v) = true := by unfold isKB rkAsk; simp; omega
      have h6 : isKB v = false := by unfold isKB; simp; omega
      go_enter Try.func6, Try.ntmps6
      go_wp2_with (first | (go_at_call 11; refine (zis _ _).mono ?_; rintro e w' ⟨rfl, rfl⟩) | (go_at_call 10; refine (zask _ (by assumption) _).mono ?_; rintro e w' ⟨rfl, rfl⟩) | (go_at_call 9; refine (zindex _ (by assumption) _).mono ?_; rintro e w' ⟨rfl, rfl⟩))
      go_ret
      exact ⟨rfl, by go_grown⟩
theorem walk7 (v : Int) (h : In64 v) (w : World) : Calls Try.prog 7 #[.int .i64 v] w fun e w' => e = .returned (.bool true) ∧ Grown w w' := by
  have hi := indexK_in h
  have ha := rkAsk_in h
  have hs : rkAsk v - indexK v = 256 := by unfold rkAsk indexK; omega
  have hs2 : rkAsk v = indexK v + 256 := by omega
  obtain ⟨h3, k3⟩ := ne_of hs
  obtain ⟨h4, k4⟩ := ne_of (show rkAsk (rkAsk v) = rkAsk v by unfold rkAsk; omega)
  obtain ⟨h5, k5⟩ := ne_of (show rkAsk (indexK v) = rkAsk v by unfold rkAsk indexK; omega)
  have h6 : isKB (rkAsk v) = true := by unfold isKB rkAsk; simp; omega
  have b1 : -9223372036854775808 ≤ rkAsk v - indexK v := by omega
  have b2 : rkAsk v - indexK v ≤ 9223372036854775807 := by omega
  clear hs hs2
  go_enter Try.func7, Try.ntmps7
  go_wp2_with (first | (go_at_call 11; refine (zis _ _).mono ?_; rintro e w' ⟨rfl, rfl⟩) | (go_at_call 10; refine (zask _ (by assumption) _).mono ?_; rintro e w' ⟨rfl, rfl⟩) | (go_at_call 9; refine (zindex _ (by assumption) _).mono ?_; rintro e w' ⟨rfl, rfl⟩))
  go_ret
  exact ⟨rfl, by go_grown⟩
end Go.Proofs.Ytojfmpidhnhppab
