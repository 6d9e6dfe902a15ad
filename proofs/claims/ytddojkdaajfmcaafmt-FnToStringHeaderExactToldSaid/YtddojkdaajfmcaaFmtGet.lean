/- The parts of an instruction, as the program's getters read them: each by division and remainder. -/
import Derived.Test.YtddojkdaajfmcaaFmtStop
import Derived.Laws.BitsAllLaws
import Derived.Laws.Bits
import Derived.IntWalk
import Derived.WalkKit
import Derived.WalkSpells
import Derived.WalkLawsBesides
import Derived.Lib.Hide
import Derived.OpenShut
namespace Go.Proofs.YtddojkdaajfmcaaFmt
open Go.RowKit Go.Extern.Stop Go.Stop Go.Extern
theorem ofInt64 (v : Int) : (BitVec.ofInt 64 v).toNat = (v % 18446744073709551616).toNat := by
  rw [BitVec.toNat_ofInt]; rfl
theorem u32_mask9 (x : Int) (h0 : 0 ≤ x) (h1 : x ≤ 4294967295) : bits .and .u32 x 511 = x % 512 := by
  rw [u32_and x 511 h0 (by omega) (by omega) (by omega)]
  rw [show (511 : Int).toNat = 511 from rfl, nat_mask9]; omega
theorem u32_mask18 (x : Int) (h0 : 0 ≤ x) (h1 : x ≤ 4294967295) : bits .and .u32 x 262143 = x % 262144 := by
  rw [u32_and x 262143 h0 (by omega) (by omega) (by omega)]
  rw [show (262143 : Int).toNat = 2 ^ 18 - 1 from rfl, Nat.and_two_pow_sub_one_eq_mod]; omega
theorem i64_mask9 (x : Int) : bits .and .i64 x 511 = x % 512 := by
  show IntKind.i64.wrap ((BitVec.ofInt 64 x &&& BitVec.ofInt 64 511).toNat : Int) = _
  rw [BitVec.toNat_and, ofInt64, ofInt64, show ((511 : Int) % 18446744073709551616).toNat = 511 from rfl, nat_mask9, IntKind.wrap_i64]; omega
theorem i64_mask8 (x : Int) : bits .and .i64 x 255 = x % 256 := by
  show IntKind.i64.wrap ((BitVec.ofInt 64 x &&& BitVec.ofInt 64 255).toNat : Int) = _
  rw [BitVec.toNat_and, ofInt64, ofInt64, show ((255 : Int) % 18446744073709551616).toNat = 255 from rfl, nat_mask8, IntKind.wrap_i64]; omega
def OP (x : Int) : Int := x / 67108864
def AA (x : Int) : Int := x / 262144 % 256
def BB (x : Int) : Int := x % 512
def CC (x : Int) : Int := x / 512 % 512
def BX (x : Int) : Int := x % 262144
def SX (x : Int) : Int := x % 262144 - 131071
variable {x : Int}
theorem AA_b (x : Int) : 0 ≤ AA x ∧ AA x ≤ 255 := by unfold AA; omega
theorem BB_b (x : Int) : 0 ≤ BB x ∧ BB x ≤ 511 := by unfold BB; omega
theorem CC_b (x : Int) : 0 ≤ CC x ∧ CC x ≤ 511 := by unfold CC; omega
theorem BX_b (x : Int) : 0 ≤ BX x ∧ BX x ≤ 262143 := by unfold BX; omega
theorem SX_b (x : Int) : -131071 ≤ SX x ∧ SX x ≤ 131072 := by unfold SX; omega
theorem get8 (x : Int) (h : 0 ≤ x ∧ x ≤ 4294967295) (w : World) : Calls Tryf.prog 8 #[.int .u32 x] w fun e w' => e = .returned (.int .i64 (OP x)) ∧ w = w' := by
  have h0 := h.1
  have h1 := h.2
  have b0 : 0 ≤ x / 67108864 := by omega
  have b1 : x / 67108864 ≤ 63 := by omega
  clear h
  go_enter Tryf.func8, Tryf.ntmps8
  go_wp2
  go_ret
  exact ⟨rfl, rfl⟩
theorem get9 (x : Int) (h : 0 ≤ x ∧ x ≤ 4294967295) (w : World) : Calls Tryf.prog 9 #[.int .u32 x] w fun e w' => e = .returned (.int .i64 (AA x)) ∧ w = w' := by
  have h0 := h.1
  have h1 := h.2
  have b0 : 0 ≤ x / 262144 := by omega
  have b1 : x / 262144 ≤ 16383 := by omega
  have e := i64_mask8 (x / 262144)
  clear h
  go_enter Tryf.func9, Tryf.ntmps9
  go_wp2
  go_ret
  exact ⟨rfl, rfl⟩
theorem get10 (x : Int) (h : 0 ≤ x ∧ x ≤ 4294967295) (w : World) : Calls Tryf.prog 10 #[.int .u32 x] w fun e w' => e = .returned (.int .i64 (BB x)) ∧ w = w' := by
  have h0 := h.1
  have h1 := h.2
  have b0 : 0 ≤ x % 512 := by omega
  have b1 : x % 512 ≤ 511 := by omega
  have e := u32_mask9 x h0 h1
  clear h
  go_enter Tryf.func10, Tryf.ntmps10
  go_wp2
  go_ret
  exact ⟨rfl, rfl⟩
theorem get11 (x : Int) (h : 0 ≤ x ∧ x ≤ 4294967295) (w : World) : Calls Tryf.prog 11 #[.int .u32 x] w fun e w' => e = .returned (.int .i64 (CC x)) ∧ w = w' := by
  have h0 := h.1
  have h1 := h.2
  have b0 : 0 ≤ x / 512 := by omega
  have b1 : x / 512 ≤ 8388607 := by omega
  have e := i64_mask9 (x / 512)
  clear h
  go_enter Tryf.func11, Tryf.ntmps11
  go_wp2
  go_ret
  exact ⟨rfl, rfl⟩
theorem get12 (x : Int) (h : 0 ≤ x ∧ x ≤ 4294967295) (w : World) : Calls Tryf.prog 12 #[.int .u32 x] w fun e w' => e = .returned (.int .i64 (BX x)) ∧ w = w' := by
  have h0 := h.1
  have h1 := h.2
  have b0 : 0 ≤ x % 262144 := by omega
  have b1 : x % 262144 ≤ 262143 := by omega
  have e := u32_mask18 x h0 h1
  clear h
  go_enter Tryf.func12, Tryf.ntmps12
  go_wp2
  go_ret
  exact ⟨rfl, rfl⟩
theorem get13 (x : Int) (h : 0 ≤ x ∧ x ≤ 4294967295) (w : World) : Calls Tryf.prog 13 #[.int .u32 x] w fun e w' => e = .returned (.int .i64 (SX x)) ∧ w = w' := by
  have b := BX_b x
  obtain ⟨b0, b1⟩ := b
  go_enter Tryf.func13, Tryf.ntmps13
  go_wp2_with fail
  refine (get12 x h w).mono ?_
  rintro e w1 ⟨rfl, rfl⟩
  go_wp2
  go_ret
  exact ⟨rfl, rfl⟩
end Go.Proofs.YtddojkdaajfmcaaFmt
