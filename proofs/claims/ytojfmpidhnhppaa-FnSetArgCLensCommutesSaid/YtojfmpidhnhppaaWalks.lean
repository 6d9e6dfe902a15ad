/- The minimum and the maximum of two ints, and the fields B and C of an instruction: what the functions of this seat compute, and that the given laws hold of it. -/
import Derived.Test.YtojfmpidhnhppaaProg
import Derived.Test.YtojfmpidhnhppaaBits
import Derived.WalkKit
import Derived.OpenShut
import Derived.RowKit3
import Derived.Handy
namespace Go.Proofs.Ytojfmpidhnhppaa
open Go.RowKit Go.ChangeShapes

/-! ### min and max -/
def imin (a b : Int) : Int := if a < b then a else b
def imax (a b : Int) : Int := if b < a then a else b
theorem zmin_any (a b : Int) (w : World) : Calls Try.prog 22 #[.int .i64 a, .int .i64 b] w fun e w' => e = .returned (.int .i64 (imin a b)) ∧ w = w' := by
  by_cases h : a < b
  · have e : imin a b = a := if_pos h
    rw [e]
    go_enter Try.func22, Try.ntmps22
    go_wp2
    go_ret
    exact ⟨rfl, rfl⟩
  · have e : imin a b = b := if_neg h
    rw [e]
    go_enter Try.func22, Try.ntmps22
    go_wp2
    go_ret
    exact ⟨rfl, rfl⟩
theorem zmax_any (a b : Int) (w : World) : Calls Try.prog 21 #[.int .i64 a, .int .i64 b] w fun e w' => e = .returned (.int .i64 (imax a b)) ∧ w = w' := by
  by_cases h : b < a
  · have e : imax a b = a := if_pos h
    rw [e]
    go_enter Try.func21, Try.ntmps21
    go_wp2
    go_ret
    exact ⟨rfl, rfl⟩
  · have e : imax a b = b := if_neg h
    rw [e]
    go_enter Try.func21, Try.ntmps21
    go_wp2
    go_ret
    exact ⟨rfl, rfl⟩
theorem ne_of {x y : Int} (h : x = y) : (x == y) = true ∧ (x != y) = false := by subst h; simp

theorem walk11 (a b : Int) (w : World) : Calls Try.prog 11 #[.int .i64 a, .int .i64 b] w fun e w' => e = .returned (.bool true) ∧ Grown w w' := by
  have h1 : a ≤ imax a b := by unfold imax; split <;> omega
  have h2 : b ≤ imax a b := by unfold imax; split <;> omega
  have h3 : (imax a b == a) = true ∨ ((imax a b == a) = false ∧ (imax a b == b) = true) := by unfold imax; split <;> simp <;> omega
  rcases h3 with h3 | ⟨h3, h4⟩
  all_goals
    go_enter Try.func11, Try.ntmps11
    go_wp2_with (go_at_call 21; refine (zmax_any _ _ _).mono ?_; rintro e w' ⟨rfl, rfl⟩)
    go_ret
    exact ⟨rfl, Grown.refl _⟩
theorem walk12 (a b : Int) (w : World) : Calls Try.prog 12 #[.int .i64 a, .int .i64 b] w fun e w' => e = .returned (.bool true) ∧ Grown w w' := by
  have h1 : imin a b ≤ a := by unfold imin; split <;> omega
  have h2 : imin a b ≤ b := by unfold imin; split <;> omega
  have h3 : (imin a b == a) = true ∨ ((imin a b == a) = false ∧ (imin a b == b) = true) := by unfold imin; split <;> simp <;> omega
  rcases h3 with h3 | ⟨h3, h4⟩
  all_goals
    go_enter Try.func12, Try.ntmps12
    go_wp2_with (go_at_call 22; refine (zmin_any _ _ _).mono ?_; rintro e w' ⟨rfl, rfl⟩)
    go_ret
    exact ⟨rfl, Grown.refl _⟩
theorem walk13 (a b : Int) (w : World) : Calls Try.prog 13 #[.int .i64 a, .int .i64 b] w fun e w' => e = .returned (.bool true) ∧ Grown w w' := by
  have h1 : imin a b ≤ imax a b := by unfold imin imax; split <;> split <;> omega
  have h3 : ((imin a b == a) = true ∧ (imax a b == b) = true) ∨ ((imin a b == a) = false ∧ (imin a b == b) = true ∧ (imax a b == a) = true) := by unfold imin imax; split <;> split <;> simp <;> omega
  obtain ⟨h5, k5⟩ := ne_of (show imin b a = imin a b by unfold imin; split <;> split <;> omega)
  obtain ⟨h6, k6⟩ := ne_of (show imax b a = imax a b by unfold imax; split <;> split <;> omega)
  rcases h3 with ⟨h3, h4⟩ | ⟨h3, h4, h4'⟩
  all_goals
    go_enter Try.func13, Try.ntmps13
    go_wp2_with (first | (go_at_call 22; refine (zmin_any _ _ _).mono ?_; rintro e w' ⟨rfl, rfl⟩) | (go_at_call 21; refine (zmax_any _ _ _).mono ?_; rintro e w' ⟨rfl, rfl⟩))
    go_ret
    exact ⟨rfl, Grown.refl _⟩
theorem walk14 (a b c : Int) (w : World) :
    Calls Try.prog 14 #[.int .i64 a, .int .i64 b, .int .i64 c] w fun e w' => e = .returned (.bool true) ∧ Grown w w' := by
  obtain ⟨h1, k1⟩ := ne_of (show imin a (imax a b) = a by unfold imin imax; split <;> split <;> omega)
  obtain ⟨h2, k2⟩ := ne_of (show imax a (imin a b) = a by unfold imin imax; split <;> split <;> omega)
  obtain ⟨h3, k3⟩ := ne_of (show imin (imin a b) c = imin a (imin b c) by unfold imin; repeat' split <;> try omega)
  obtain ⟨h4, k4⟩ := ne_of (show imax (imax a b) c = imax a (imax b c) by unfold imax; repeat' split <;> try omega)
  obtain ⟨h5, k5⟩ := ne_of (show imin a a = a by unfold imin; split <;> omega)
  obtain ⟨h6, k6⟩ := ne_of (show imax a a = a by unfold imax; split <;> omega)
  go_enter Try.func14, Try.ntmps14
  go_wp2_with (first | (go_at_call 22; refine (zmin_any _ _ _).mono ?_; rintro e w' ⟨rfl, rfl⟩) | (go_at_call 21; refine (zmax_any _ _ _).mono ?_; rintro e w' ⟨rfl, rfl⟩))
  go_ret
  exact ⟨rfl, Grown.refl _⟩

/-! ### the fields of an instruction -/
def setB (x a : Int) : Int := x / 512 * 512 + a % 512
def setC (x a : Int) : Int := x / 262144 * 262144 + x % 512 + a % 512 * 512
def InstOk (x : Int) : Prop := 0 ≤ x ∧ x ≤ 4294967295
theorem setB_ok {x : Int} (a : Int) (h : InstOk x) : InstOk (setB x a) := by unfold InstOk setB at *; omega
theorem setC_ok {x : Int} (a : Int) (h : InstOk x) : InstOk (setC x a) := by unfold InstOk setC at *; omega

theorem zgetB (x : Int) (h : InstOk x) (w : World) : Calls Try.prog 16 #[.int .u32 x] w fun e w' => e = .returned (.int .i64 (x % 512)) ∧ w = w' := by
  obtain ⟨h0, h1⟩ := h
  have e1 := u32_mask x h0 h1
  go_enter Try.func16, Try.ntmps16
  go_wp2
  go_ret
  exact ⟨rfl, rfl⟩
theorem zgetC (x : Int) (h : InstOk x) (w : World) : Calls Try.prog 18 #[.int .u32 x] w fun e w' => e = .returned (.int .i64 (x / 512 % 512)) ∧ w = w' := by
  obtain ⟨h0, h1⟩ := h
  have e1 := i64_mask (x / 512)
  go_enter Try.func18, Try.ntmps18
  go_wp2
  go_ret
  exact ⟨rfl, rfl⟩
theorem tmod512 (x : Int) : (0 ≤ x ∧ x.tmod 512 = x % 512) ∨ (x < 0 ∧ x.tmod 512 = -((-x) % 512)) := by
  by_cases h : 0 ≤ x
  · exact .inl ⟨h, Int.tmod_eq_emod_of_nonneg h⟩
  · refine .inr ⟨by omega, ?_⟩
    have := Int.tmod_eq_emod_of_nonneg (a := -x) (b := 512) (by omega)
    rw [Int.neg_tmod] at this
    omega
theorem zmod (x : Int) (w : World) : Calls Try.prog 17 #[.int .i64 x] w fun e w' => e = .returned (.int .i64 (x % 512)) ∧ w = w' := by
  have ht := tmod512 x
  by_cases h : x.tmod 512 < 0
  · have e : x % 512 = wrap64 (x.tmod 512 + 512) := by unfold wrap64; omega
    clear ht
    rw [e]
    go_enter Try.func17, Try.ntmps17
    go_wp2
    go_ret
    exact ⟨rfl, rfl⟩
  · have e : x % 512 = x.tmod 512 := by omega
    clear ht
    rw [e]
    go_enter Try.func17, Try.ntmps17
    go_wp2
    go_ret
    exact ⟨rfl, rfl⟩
theorem zsetB (x a : Int) (h : InstOk x) (w : World) : Calls Try.prog 19 #[.int .u32 x, .int .i64 a] w fun e w' => e = .returned (.int .u32 (setB x a)) ∧ w.alloc (.cells #[.int .u32 (setB x a)] 22) = w' := by
  obtain ⟨h0, h1⟩ := h
  have e1 := u32_clearB x h0 h1
  have e2 := i64_mask a
  have e3 := u32_setB x (a % 512) h0 h1 (by omega) (by omega)
  unfold setB
  go_enter Try.func19, Try.ntmps19
  go_wp2
  go_ret
  exact ⟨rfl, rfl⟩
theorem zsetC (x a : Int) (h : InstOk x) (w : World) : Calls Try.prog 20 #[.int .u32 x, .int .i64 a] w fun e w' => e = .returned (.int .u32 (setC x a)) ∧ w.alloc (.cells #[.int .u32 (setC x a)] 22) = w' := by
  obtain ⟨h0, h1⟩ := h
  have e1 := u32_clearC x h0 h1
  have e2 := i64_mask a
  have e3 := u32_setC x (a % 512) h0 h1 (by omega) (by omega)
  unfold setC
  go_enter Try.func20, Try.ntmps20
  go_wp2
  go_ret
  exact ⟨rfl, rfl⟩
def setA (x a : Int) : Int := x / 67108864 * 67108864 + x % 262144 + a % 256 * 262144
def setOp (x a : Int) : Int := x % 67108864 + a % 64 * 67108864
theorem setA_ok {x : Int} (a : Int) (h : InstOk x) : InstOk (setA x a) := by unfold InstOk setA at *; omega
theorem setOp_ok (x : Int) (a : Int) : InstOk (setOp x a) := by unfold InstOk setOp at *; omega
def mkABC (o a b c : Int) : Int := setC (setB (setA (setOp 0 o) a) b) c
theorem abc_raw (o a b c : Int) : (bits BinOp.or IntKind.u32
              (bits BinOp.and IntKind.u32
                (bits BinOp.or IntKind.u32
                  (bits BinOp.and IntKind.u32
                    (bits BinOp.or IntKind.u32
                      (bits BinOp.and IntKind.u32
                        (bits BinOp.or IntKind.u32 (bits BinOp.and IntKind.u32 0 67108863)
                          (wrap64 (o * 67108864) % 4294967296))
                        4228120575)
                      (wrap64 (bits BinOp.and IntKind.i64 a 255 * 262144) % 4294967296))
                    4294966784)
                  (bits BinOp.and IntKind.i64 b 511 % 4294967296))
                4294705663)
              (wrap64 (bits BinOp.and IntKind.i64 c 511 * 512) % 4294967296)) = mkABC o a b c := by
  have k1 : wrap64 (o * 67108864) % 4294967296 = o % 64 * 67108864 := by unfold wrap64; omega
  have k2 : wrap64 (a % 256 * 262144) % 4294967296 = a % 256 * 262144 := by unfold wrap64; omega
  have k3 : b % 512 % 4294967296 = b % 512 := by omega
  have k4 : wrap64 (c % 512 * 512) % 4294967296 = c % 512 * 512 := by unfold wrap64; omega
  have q0 : bits BinOp.or IntKind.u32 (bits BinOp.and IntKind.u32 0 67108863) (o % 64 * 67108864) = setOp 0 o := by
    rw [u32_clearOp 0 (by omega) (by omega)]; exact u32_setOp 0 (o % 64) (by omega) (by omega)
  obtain ⟨a0, a1⟩ := setOp_ok 0 o
  have q1 : bits BinOp.or IntKind.u32 (bits BinOp.and IntKind.u32 (setOp 0 o) 4228120575) (a % 256 * 262144) = setA (setOp 0 o) a := by
    rw [u32_clearA _ a0 a1]; exact u32_setA _ (a % 256) a0 a1 (by omega) (by omega)
  obtain ⟨b0, b1⟩ := setA_ok a (setOp_ok 0 o)
  have q2 : bits BinOp.or IntKind.u32 (bits BinOp.and IntKind.u32 (setA (setOp 0 o) a) 4294966784) (b % 512) = setB (setA (setOp 0 o) a) b := by
    rw [u32_clearB _ b0 b1]; exact u32_setB _ (b % 512) b0 b1 (by omega) (by omega)
  obtain ⟨c0, c1⟩ := setB_ok b (setA_ok a (setOp_ok 0 o))
  have q3 : bits BinOp.or IntKind.u32 (bits BinOp.and IntKind.u32 (setB (setA (setOp 0 o) a) b) 4294705663) (c % 512 * 512) = mkABC o a b c := by
    rw [u32_clearC _ c0 c1]; exact u32_setC _ (c % 512) c0 c1 (by omega) (by omega)
  rw [i64_mask8, i64_mask, i64_mask, k1, k2, k3, k4, q0, q1, q2, q3]
theorem zABC (o a b c : Int) (w : World) : Calls Try.prog 15 #[.int .i64 o, .int .i64 a, .int .i64 b, .int .i64 c] w fun e w' => e = .returned (.int .u32 (mkABC o a b c)) ∧ w.alloc (.cells #[.int .u32 (mkABC o a b c)] 22) = w' := by
  go_enter Try.func15, Try.ntmps15
  go_wp2
  go_ret
  have h := abc_raw o a b c
  exact ⟨by rw [← h]; rfl, by rw [h]⟩
theorem mkABC_ok (o a b c : Int) : InstOk (mkABC o a b c) := setC_ok c (setB_ok b (setA_ok a (setOp_ok 0 o)))
theorem mkABC_B (o a b c : Int) : mkABC o a b c % 512 = b % 512 := by unfold mkABC setC setB; omega
theorem mkABC_C (o a b c : Int) : mkABC o a b c / 512 % 512 = c % 512 := by unfold mkABC setC setB; omega

/-! ### the given laws -/
theorem walk3 (o a b c : Int) (w : World) :
    Calls Try.prog 3 #[.int .i64 o, .int .i64 a, .int .i64 b, .int .i64 c] w fun e w' => e = .returned (.bool true) ∧ Grown w w' := by
  have hok := mkABC_ok o a b c
  obtain ⟨h1, k1⟩ := ne_of (mkABC_B o a b c)
  obtain ⟨h2, k2⟩ := ne_of (mkABC_C o a b c)
  go_enter Try.func3, Try.ntmps3
  go_wp2_with (first | (go_at_call 15; refine (zABC _ _ _ _ _).mono ?_; rintro e w' ⟨rfl, rfl⟩) | (go_at_call 16; refine (zgetB _ hok _).mono ?_; rintro e w' ⟨rfl, rfl⟩) | (go_at_call 18; refine (zgetC _ hok _).mono ?_; rintro e w' ⟨rfl, rfl⟩) | (go_at_call 17; refine (zmod _ _).mono ?_; rintro e w' ⟨rfl, rfl⟩))
  go_ret
  exact ⟨rfl, by go_grown⟩
theorem walk4 (x : Int) (h : InstOk x) (w : World) :
    Calls Try.prog 4 #[.int .u32 x] w fun e w' => e = .returned (.bool true) ∧ Grown w w' := by
  obtain ⟨h0, h1⟩ := h
  obtain ⟨h3, k3⟩ := ne_of (show x % 512 + x / 512 % 512 * 512 + x / 262144 * 262144 = x by omega)
  go_enter Try.func4, Try.ntmps4
  go_wp2_with (first | (go_at_call 16; refine (zgetB _ ⟨h0, h1⟩ _).mono ?_; rintro e w' ⟨rfl, rfl⟩) | (go_at_call 18; refine (zgetC _ ⟨h0, h1⟩ _).mono ?_; rintro e w' ⟨rfl, rfl⟩))
  go_ret
  exact ⟨rfl, by go_grown⟩
theorem walk5 (x : Int) (h : InstOk x) (w : World) :
    Calls Try.prog 5 #[.int .u32 x] w fun e w' => e = .returned (.bool true) ∧ Grown w w' := by
  obtain ⟨h0, h1⟩ := h
  obtain ⟨h3, k3⟩ := ne_of (show x % 512 = x - x / 512 * 512 by omega)
  have h4 : decide (x % 512 ≤ 511) = true := by simp; omega
  go_enter Try.func5, Try.ntmps5
  go_wp2_with (first | (go_at_call 16; refine (zgetB _ ⟨h0, h1⟩ _).mono ?_; rintro e w' ⟨rfl, rfl⟩) | (go_at_call 18; refine (zgetC _ ⟨h0, h1⟩ _).mono ?_; rintro e w' ⟨rfl, rfl⟩))
  go_ret
  exact ⟨rfl, by go_grown⟩
theorem walk8 (x : Int) (h : InstOk x) (w : World) :
    Calls Try.prog 8 #[.int .u32 x] w fun e w' => e = .returned (.bool true) ∧ Grown w w' := by
  obtain ⟨h0, h1⟩ := h
  obtain ⟨h3, k3⟩ := ne_of (show x / 512 % 512 = x / 512 - x / 512 / 512 * 512 by omega)
  have h4 : decide (x / 512 % 512 ≤ 511) = true := by simp; omega
  go_enter Try.func8, Try.ntmps8
  go_wp2_with (first | (go_at_call 16; refine (zgetB _ ⟨h0, h1⟩ _).mono ?_; rintro e w' ⟨rfl, rfl⟩) | (go_at_call 18; refine (zgetC _ ⟨h0, h1⟩ _).mono ?_; rintro e w' ⟨rfl, rfl⟩))
  go_ret
  exact ⟨rfl, by go_grown⟩
theorem walk6 (x a : Int) (h : InstOk x) (w : World) :
    Calls Try.prog 6 #[.int .u32 x, .int .i64 a] w fun e w' => e = .returned (.bool true) ∧ Grown w w' := by
  obtain ⟨h0, h1⟩ := h
  obtain ⟨h3, k3⟩ := ne_of (show setB x a = x / 512 * 512 + a % 512 from rfl)
  go_enter Try.func6, Try.ntmps6
  go_wp2_with (first | (go_at_call 19; refine (zsetB _ _ ⟨h0, h1⟩ _).mono ?_; rintro e w' ⟨rfl, rfl⟩) | (go_at_call 17; refine (zmod _ _).mono ?_; rintro e w' ⟨rfl, rfl⟩))
  go_ret
  exact ⟨rfl, by go_grown⟩
theorem walk7 (x a : Int) (h : InstOk x) (w : World) :
    Calls Try.prog 7 #[.int .u32 x, .int .i64 a] w fun e w' => e = .returned (.bool true) ∧ Grown w w' := by
  obtain ⟨h0, h1⟩ := h
  obtain ⟨h3, k3⟩ := ne_of (show setC x a = x / 262144 * 262144 + a % 512 * 512 + (x - x / 512 * 512) by unfold setC; omega)
  go_enter Try.func7, Try.ntmps7
  go_wp2_with (first | (go_at_call 20; refine (zsetC _ _ ⟨h0, h1⟩ _).mono ?_; rintro e w' ⟨rfl, rfl⟩) | (go_at_call 17; refine (zmod _ _).mono ?_; rintro e w' ⟨rfl, rfl⟩))
  go_ret
  exact ⟨rfl, by go_grown⟩
theorem walk9 (x a b : Int) (h : InstOk x) (w : World) :
    Calls Try.prog 9 #[.int .u32 x, .int .i64 a, .int .i64 b] w fun e w' => e = .returned (.bool true) ∧ Grown w w' := by
  have ok1 := setB_ok a h
  obtain ⟨h3, k3⟩ := ne_of (show setB x a % 512 = a % 512 by unfold setB; omega)
  obtain ⟨h4, k4⟩ := ne_of (show setB x (x % 512) = x by unfold setB; omega)
  obtain ⟨h5, k5⟩ := ne_of (show setB (setB x a) b = setB x b by unfold setB; omega)
  obtain ⟨h6, k6⟩ := ne_of (show setB x a / 512 % 512 = x / 512 % 512 by unfold setB; omega)
  go_enter Try.func9, Try.ntmps9
  go_wp2_with (first | (go_at_call 19; refine (zsetB _ _ (by assumption) _).mono ?_; rintro e w' ⟨rfl, rfl⟩) | (go_at_call 17; refine (zmod _ _).mono ?_; rintro e w' ⟨rfl, rfl⟩) | (go_at_call 16; refine (zgetB _ (by assumption) _).mono ?_; rintro e w' ⟨rfl, rfl⟩) | (go_at_call 18; refine (zgetC _ (by assumption) _).mono ?_; rintro e w' ⟨rfl, rfl⟩))
  go_ret
  exact ⟨rfl, by go_grown⟩
theorem walk10 (x b c c2 : Int) (h : InstOk x) (w : World) :
    Calls Try.prog 10 #[.int .u32 x, .int .i64 b, .int .i64 c, .int .i64 c2] w fun e w' => e = .returned (.bool true) ∧ Grown w w' := by
  have ok1 := setC_ok c h
  have ok2 := setB_ok b h
  obtain ⟨h3, k3⟩ := ne_of (show setC x c / 512 % 512 = c % 512 by unfold setC; omega)
  obtain ⟨h4, k4⟩ := ne_of (show setC x (x / 512 % 512) = x by unfold setC; omega)
  obtain ⟨h5, k5⟩ := ne_of (show setC (setC x c) c2 = setC x c2 by unfold setC; omega)
  obtain ⟨h6, k6⟩ := ne_of (show setC x c % 512 = x % 512 by unfold setC; omega)
  obtain ⟨h7, k7⟩ := ne_of (show setC (setB x b) c = setB (setC x c) b by unfold setB setC; omega)
  go_enter Try.func10, Try.ntmps10
  go_wp2_with (first | (go_at_call 20; refine (zsetC _ _ (by assumption) _).mono ?_; rintro e w' ⟨rfl, rfl⟩) | (go_at_call 19; refine (zsetB _ _ (by assumption) _).mono ?_; rintro e w' ⟨rfl, rfl⟩) | (go_at_call 17; refine (zmod _ _).mono ?_; rintro e w' ⟨rfl, rfl⟩) | (go_at_call 16; refine (zgetB _ (by assumption) _).mono ?_; rintro e w' ⟨rfl, rfl⟩) | (go_at_call 18; refine (zgetC _ (by assumption) _).mono ?_; rintro e w' ⟨rfl, rfl⟩))
  go_ret
  exact ⟨rfl, by go_grown⟩
end Go.Proofs.Ytojfmpidhnhppaa
