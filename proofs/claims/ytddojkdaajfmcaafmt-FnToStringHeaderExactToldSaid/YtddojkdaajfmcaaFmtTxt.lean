/- What fmt.Sprintf gives for each format of the program's listing (by the kit's own telling of fmt): written by our program wip/mk74.py. -/
import Derived.Test.YtddojkdaajfmcaaFmtGet
import Derived.Stop.FmtTextVerbs
import Derived.Stop.FmtTextKit
import Derived.Lib.ItoaLen
namespace Go.Proofs.YtddojkdaajfmcaaFmt
set_option linter.unusedVariables false
set_option linter.unusedSimpArgs false
open Go.RowKit Go.Extern.Stop Go.Stop Go.Extern Go.Kit
theorem bytes_ext {a : ByteArray} {l : List UInt8} (h : a.data.toList = l) : a = ⟨l.toArray⟩ := by
  subst h
  cases a
  rfl
theorem textOf_told (F : Interp) {reading : List (List UInt8)} {s : List UInt8} (h : FmtText.text "fmt.Sprintf" reading = some s) (hl : s.length < 2 ^ 63) : FmtStop.textOf (F.told "fmt.Sprintf" reading 0) = ⟨s.toArray⟩ :=
  bytes_ext ((textOf_list F.told "fmt.Sprintf" reading).trans (told_string F h hl))
theorem wf_of {x : Int} (h : -9000000 ≤ x ∧ x ≤ 9000000) : (Lit.int .i64 x).wf = true := by
  simp [Lit.wf, IntKind.min, IntKind.max, IntKind.signed, IntKind.bits]
  omega
theorem AA_w (x : Int) : (Lit.int .i64 (AA x)).wf = true := wf_of (by have := AA_b x; omega)
theorem BB_w (x : Int) : (Lit.int .i64 (BB x)).wf = true := wf_of (by have := BB_b x; omega)
theorem CC_w (x : Int) : (Lit.int .i64 (CC x)).wf = true := wf_of (by have := CC_b x; omega)
theorem BX_w (x : Int) : (Lit.int .i64 (BX x)).wf = true := wf_of (by have := BX_b x; omega)
theorem SX_w (x : Int) : (Lit.int .i64 (SX x)).wf = true := wf_of (by have := SX_b x; omega)
def HD (name : List UInt8) (T : Nat) (x : Int) : List UInt8 :=
  name ++ [32, 32, 32, 32, 32, 32, 124, 32, 32] ++ Lib.itoa (AA x) ++ [44, 32] ++ (if T = 0 then Lib.itoa (BB x) ++ [44, 32] ++ Lib.itoa (CC x) else if T = 1 then Lib.itoa (BX x) else Lib.itoa (SX x))
theorem ph3 : (FmtText.parse [37, 115, 32, 32, 32, 32, 32, 32, 124, 32, 32, 37, 100, 44, 32, 37, 100, 44, 32, 37, 100]).map FmtText.glue = some [.verb {} 115, .lit [32, 32, 32, 32, 32, 32, 124, 32, 32], .verb {} 100, .lit [44, 32], .verb {} 100, .lit [44, 32], .verb {} 100] := by rfl
theorem ph2 : (FmtText.parse [37, 115, 32, 32, 32, 32, 32, 32, 124, 32, 32, 37, 100, 44, 32, 37, 100]).map FmtText.glue = some [.verb {} 115, .lit [32, 32, 32, 32, 32, 32, 124, 32, 32], .verb {} 100, .lit [44, 32], .verb {} 100] := by rfl
theorem head0 (F : Interp) (name : List UInt8) (hl : name.length ≤ 1000) (x : Int) : FmtStop.textOf (F.told "fmt.Sprintf" [[37, 115, 32, 32, 32, 32, 32, 32, 124, 32, 32, 37, 100, 44, 32, 37, 100, 44, 32, 37, 100], shape9, FmtStop.pack name, shape3, digits 8 (AA x % 18446744073709551616).toNat, shape3, digits 8 (BB x % 18446744073709551616).toNat, shape3, digits 8 (CC x % 18446744073709551616).toNat] 0) = ⟨(HD name 0 x).toArray⟩ := by
  refine textOf_told F ?_ ?_
  · rw [FmtText.text_sprintf_glued ph3 (FmtText.operands_cons (FmtText.operand_str_at (sh := shape9) rfl rfl name (by omega)) (FmtText.operands_cons (FmtText.operand_int_at (sh := shape3) (k := .i64) rfl rfl (AA x) (AA_w x)) (FmtText.operands_cons (FmtText.operand_int_at (sh := shape3) (k := .i64) rfl rfl (BB x) (BB_w x)) (FmtText.operands_cons (FmtText.operand_int_at (sh := shape3) (k := .i64) rfl rfl (CC x) (CC_w x)) FmtText.operands_nil))))]
    simp [FmtText.render, FmtText.printArg_s_str, FmtText.printArg_d _ _ (AA_w x), FmtText.printArg_d _ _ (BB_w x), FmtText.printArg_d _ _ (CC_w x), HD]
  · have lAA := FmtText.itoa_length_le (AA_w x)
    have lBB := FmtText.itoa_length_le (BB_w x)
    have lCC := FmtText.itoa_length_le (CC_w x)
    simp [HD]
    omega
theorem head1 (F : Interp) (name : List UInt8) (hl : name.length ≤ 1000) (x : Int) : FmtStop.textOf (F.told "fmt.Sprintf" [[37, 115, 32, 32, 32, 32, 32, 32, 124, 32, 32, 37, 100, 44, 32, 37, 100], shape9, FmtStop.pack name, shape3, digits 8 (AA x % 18446744073709551616).toNat, shape3, digits 8 (BX x % 18446744073709551616).toNat] 0) = ⟨(HD name 1 x).toArray⟩ := by
  refine textOf_told F ?_ ?_
  · rw [FmtText.text_sprintf_glued ph2 (FmtText.operands_cons (FmtText.operand_str_at (sh := shape9) rfl rfl name (by omega)) (FmtText.operands_cons (FmtText.operand_int_at (sh := shape3) (k := .i64) rfl rfl (AA x) (AA_w x)) (FmtText.operands_cons (FmtText.operand_int_at (sh := shape3) (k := .i64) rfl rfl (BX x) (BX_w x)) FmtText.operands_nil)))]
    simp [FmtText.render, FmtText.printArg_s_str, FmtText.printArg_d _ _ (AA_w x), FmtText.printArg_d _ _ (BX_w x), HD]
  · have lAA := FmtText.itoa_length_le (AA_w x)
    have lBX := FmtText.itoa_length_le (BX_w x)
    simp [HD]
    omega
theorem head2 (F : Interp) (name : List UInt8) (hl : name.length ≤ 1000) (x : Int) : FmtStop.textOf (F.told "fmt.Sprintf" [[37, 115, 32, 32, 32, 32, 32, 32, 124, 32, 32, 37, 100, 44, 32, 37, 100], shape9, FmtStop.pack name, shape3, digits 8 (AA x % 18446744073709551616).toNat, shape3, digits 8 (SX x % 18446744073709551616).toNat] 0) = ⟨(HD name 2 x).toArray⟩ := by
  refine textOf_told F ?_ ?_
  · rw [FmtText.text_sprintf_glued ph2 (FmtText.operands_cons (FmtText.operand_str_at (sh := shape9) rfl rfl name (by omega)) (FmtText.operands_cons (FmtText.operand_int_at (sh := shape3) (k := .i64) rfl rfl (AA x) (AA_w x)) (FmtText.operands_cons (FmtText.operand_int_at (sh := shape3) (k := .i64) rfl rfl (SX x) (SX_w x)) FmtText.operands_nil)))]
    simp [FmtText.render, FmtText.printArg_s_str, FmtText.printArg_d _ _ (AA_w x), FmtText.printArg_d _ _ (SX_w x), HD]
  · have lAA := FmtText.itoa_length_le (AA_w x)
    have lSX := FmtText.itoa_length_le (SX_w x)
    simp [HD]
    omega
theorem p0 : (FmtText.parse [59, 32, 82, 40, 37, 118, 41, 32, 58, 61, 32, 82, 40, 37, 118, 41]).map FmtText.glue = some [.lit [59, 32, 82, 40], .verb {} 118, .lit [41, 32, 58, 61, 32, 82, 40], .verb {} 118, .lit [41]] := by rfl
set_option maxHeartbeats 1000000 in
theorem tail0 (F : Interp) (x : Int) : ∃ r : List UInt8, r.length ≤ 900 ∧ FmtStop.textOf (F.told "fmt.Sprintf" [[59, 32, 82, 40, 37, 118, 41, 32, 58, 61, 32, 82, 40, 37, 118, 41], shape3, digits 8 (AA x % 18446744073709551616).toNat, shape3, digits 8 (BB x % 18446744073709551616).toNat] 0) = ⟨(59 :: 32 :: r).toArray⟩ := by
  have ht : FmtText.text "fmt.Sprintf" [[59, 32, 82, 40, 37, 118, 41, 32, 58, 61, 32, 82, 40, 37, 118, 41], shape3, digits 8 (AA x % 18446744073709551616).toNat, shape3, digits 8 (BB x % 18446744073709551616).toNat] = some (59 :: 32 :: ([82, 40] ++ Lib.itoa (AA x) ++ [41, 32, 58, 61, 32, 82, 40] ++ Lib.itoa (BB x) ++ [41])) := by
    rw [FmtText.text_sprintf_glued p0 (FmtText.operands_cons (FmtText.operand_int_at (sh := shape3) (k := .i64) rfl rfl (AA x) (AA_w x)) (FmtText.operands_cons (FmtText.operand_int_at (sh := shape3) (k := .i64) rfl rfl (BB x) (BB_w x)) FmtText.operands_nil))]
    simp [FmtText.render, FmtText.printArg_v _ _ (AA_w x), FmtText.printArg_v _ _ (BB_w x)]
  have lAA := FmtText.itoa_length_le (AA_w x)
  have lBB := FmtText.itoa_length_le (BB_w x)
  refine ⟨[82, 40] ++ Lib.itoa (AA x) ++ [41, 32, 58, 61, 32, 82, 40] ++ Lib.itoa (BB x) ++ [41], ?_, ?_⟩
  · simp
    omega
  · refine textOf_told F ht ?_
    simp
    omega
theorem p1 : (FmtText.parse [59, 32, 82, 40, 37, 118, 41, 32, 58, 61, 32, 82, 40, 37, 118, 41, 59, 32, 102, 111, 108, 108, 111, 119, 101, 100, 32, 98, 121, 32, 37, 118, 32, 77, 79, 86, 69, 32, 111, 112, 115]).map FmtText.glue = some [.lit [59, 32, 82, 40], .verb {} 118, .lit [41, 32, 58, 61, 32, 82, 40], .verb {} 118, .lit [41, 59, 32, 102, 111, 108, 108, 111, 119, 101, 100, 32, 98, 121, 32], .verb {} 118, .lit [32, 77, 79, 86, 69, 32, 111, 112, 115]] := by rfl
set_option maxHeartbeats 1000000 in
theorem tail1 (F : Interp) (x : Int) : ∃ r : List UInt8, r.length ≤ 900 ∧ FmtStop.textOf (F.told "fmt.Sprintf" [[59, 32, 82, 40, 37, 118, 41, 32, 58, 61, 32, 82, 40, 37, 118, 41, 59, 32, 102, 111, 108, 108, 111, 119, 101, 100, 32, 98, 121, 32, 37, 118, 32, 77, 79, 86, 69, 32, 111, 112, 115], shape3, digits 8 (AA x % 18446744073709551616).toNat, shape3, digits 8 (BB x % 18446744073709551616).toNat, shape3, digits 8 (CC x % 18446744073709551616).toNat] 0) = ⟨(59 :: 32 :: r).toArray⟩ := by
  have ht : FmtText.text "fmt.Sprintf" [[59, 32, 82, 40, 37, 118, 41, 32, 58, 61, 32, 82, 40, 37, 118, 41, 59, 32, 102, 111, 108, 108, 111, 119, 101, 100, 32, 98, 121, 32, 37, 118, 32, 77, 79, 86, 69, 32, 111, 112, 115], shape3, digits 8 (AA x % 18446744073709551616).toNat, shape3, digits 8 (BB x % 18446744073709551616).toNat, shape3, digits 8 (CC x % 18446744073709551616).toNat] = some (59 :: 32 :: ([82, 40] ++ Lib.itoa (AA x) ++ [41, 32, 58, 61, 32, 82, 40] ++ Lib.itoa (BB x) ++ [41, 59, 32, 102, 111, 108, 108, 111, 119, 101, 100, 32, 98, 121, 32] ++ Lib.itoa (CC x) ++ [32, 77, 79, 86, 69, 32, 111, 112, 115])) := by
    rw [FmtText.text_sprintf_glued p1 (FmtText.operands_cons (FmtText.operand_int_at (sh := shape3) (k := .i64) rfl rfl (AA x) (AA_w x)) (FmtText.operands_cons (FmtText.operand_int_at (sh := shape3) (k := .i64) rfl rfl (BB x) (BB_w x)) (FmtText.operands_cons (FmtText.operand_int_at (sh := shape3) (k := .i64) rfl rfl (CC x) (CC_w x)) FmtText.operands_nil)))]
    simp [FmtText.render, FmtText.printArg_v _ _ (AA_w x), FmtText.printArg_v _ _ (BB_w x), FmtText.printArg_v _ _ (CC_w x)]
  have lAA := FmtText.itoa_length_le (AA_w x)
  have lBB := FmtText.itoa_length_le (BB_w x)
  have lCC := FmtText.itoa_length_le (CC_w x)
  refine ⟨[82, 40] ++ Lib.itoa (AA x) ++ [41, 32, 58, 61, 32, 82, 40] ++ Lib.itoa (BB x) ++ [41, 59, 32, 102, 111, 108, 108, 111, 119, 101, 100, 32, 98, 121, 32] ++ Lib.itoa (CC x) ++ [32, 77, 79, 86, 69, 32, 111, 112, 115], ?_, ?_⟩
  · simp
    omega
  · refine textOf_told F ht ?_
    simp
    omega
theorem p2 : (FmtText.parse [59, 32, 82, 40, 37, 118, 41, 32, 58, 61, 32, 75, 115, 116, 40, 37, 118, 41]).map FmtText.glue = some [.lit [59, 32, 82, 40], .verb {} 118, .lit [41, 32, 58, 61, 32, 75, 115, 116, 40], .verb {} 118, .lit [41]] := by rfl
set_option maxHeartbeats 1000000 in
theorem tail2 (F : Interp) (x : Int) : ∃ r : List UInt8, r.length ≤ 900 ∧ FmtStop.textOf (F.told "fmt.Sprintf" [[59, 32, 82, 40, 37, 118, 41, 32, 58, 61, 32, 75, 115, 116, 40, 37, 118, 41], shape3, digits 8 (AA x % 18446744073709551616).toNat, shape3, digits 8 (BX x % 18446744073709551616).toNat] 0) = ⟨(59 :: 32 :: r).toArray⟩ := by
  have ht : FmtText.text "fmt.Sprintf" [[59, 32, 82, 40, 37, 118, 41, 32, 58, 61, 32, 75, 115, 116, 40, 37, 118, 41], shape3, digits 8 (AA x % 18446744073709551616).toNat, shape3, digits 8 (BX x % 18446744073709551616).toNat] = some (59 :: 32 :: ([82, 40] ++ Lib.itoa (AA x) ++ [41, 32, 58, 61, 32, 75, 115, 116, 40] ++ Lib.itoa (BX x) ++ [41])) := by
    rw [FmtText.text_sprintf_glued p2 (FmtText.operands_cons (FmtText.operand_int_at (sh := shape3) (k := .i64) rfl rfl (AA x) (AA_w x)) (FmtText.operands_cons (FmtText.operand_int_at (sh := shape3) (k := .i64) rfl rfl (BX x) (BX_w x)) FmtText.operands_nil))]
    simp [FmtText.render, FmtText.printArg_v _ _ (AA_w x), FmtText.printArg_v _ _ (BX_w x)]
  have lAA := FmtText.itoa_length_le (AA_w x)
  have lBX := FmtText.itoa_length_le (BX_w x)
  refine ⟨[82, 40] ++ Lib.itoa (AA x) ++ [41, 32, 58, 61, 32, 75, 115, 116, 40] ++ Lib.itoa (BX x) ++ [41], ?_, ?_⟩
  · simp
    omega
  · refine textOf_told F ht ?_
    simp
    omega
theorem p3 : (FmtText.parse [59, 32, 82, 40, 37, 118, 41, 32, 58, 61, 32, 40, 66, 111, 111, 108, 41, 37, 118, 59, 32, 105, 102, 32, 40, 37, 118, 41, 32, 112, 99, 43, 43]).map FmtText.glue = some [.lit [59, 32, 82, 40], .verb {} 118, .lit [41, 32, 58, 61, 32, 40, 66, 111, 111, 108, 41], .verb {} 118, .lit [59, 32, 105, 102, 32, 40], .verb {} 118, .lit [41, 32, 112, 99, 43, 43]] := by rfl
set_option maxHeartbeats 1000000 in
theorem tail3 (F : Interp) (x : Int) : ∃ r : List UInt8, r.length ≤ 900 ∧ FmtStop.textOf (F.told "fmt.Sprintf" [[59, 32, 82, 40, 37, 118, 41, 32, 58, 61, 32, 40, 66, 111, 111, 108, 41, 37, 118, 59, 32, 105, 102, 32, 40, 37, 118, 41, 32, 112, 99, 43, 43], shape3, digits 8 (AA x % 18446744073709551616).toNat, shape3, digits 8 (BB x % 18446744073709551616).toNat, shape3, digits 8 (CC x % 18446744073709551616).toNat] 0) = ⟨(59 :: 32 :: r).toArray⟩ := by
  have ht : FmtText.text "fmt.Sprintf" [[59, 32, 82, 40, 37, 118, 41, 32, 58, 61, 32, 40, 66, 111, 111, 108, 41, 37, 118, 59, 32, 105, 102, 32, 40, 37, 118, 41, 32, 112, 99, 43, 43], shape3, digits 8 (AA x % 18446744073709551616).toNat, shape3, digits 8 (BB x % 18446744073709551616).toNat, shape3, digits 8 (CC x % 18446744073709551616).toNat] = some (59 :: 32 :: ([82, 40] ++ Lib.itoa (AA x) ++ [41, 32, 58, 61, 32, 40, 66, 111, 111, 108, 41] ++ Lib.itoa (BB x) ++ [59, 32, 105, 102, 32, 40] ++ Lib.itoa (CC x) ++ [41, 32, 112, 99, 43, 43])) := by
    rw [FmtText.text_sprintf_glued p3 (FmtText.operands_cons (FmtText.operand_int_at (sh := shape3) (k := .i64) rfl rfl (AA x) (AA_w x)) (FmtText.operands_cons (FmtText.operand_int_at (sh := shape3) (k := .i64) rfl rfl (BB x) (BB_w x)) (FmtText.operands_cons (FmtText.operand_int_at (sh := shape3) (k := .i64) rfl rfl (CC x) (CC_w x)) FmtText.operands_nil)))]
    simp [FmtText.render, FmtText.printArg_v _ _ (AA_w x), FmtText.printArg_v _ _ (BB_w x), FmtText.printArg_v _ _ (CC_w x)]
  have lAA := FmtText.itoa_length_le (AA_w x)
  have lBB := FmtText.itoa_length_le (BB_w x)
  have lCC := FmtText.itoa_length_le (CC_w x)
  refine ⟨[82, 40] ++ Lib.itoa (AA x) ++ [41, 32, 58, 61, 32, 40, 66, 111, 111, 108, 41] ++ Lib.itoa (BB x) ++ [59, 32, 105, 102, 32, 40] ++ Lib.itoa (CC x) ++ [41, 32, 112, 99, 43, 43], ?_, ?_⟩
  · simp
    omega
  · refine textOf_told F ht ?_
    simp
    omega
theorem p4 : (FmtText.parse [59, 32, 82, 40, 37, 118, 41, 32, 58, 61, 32, 46, 46, 46, 32, 58, 61, 32, 82, 40, 37, 118, 41, 32, 58, 61, 32, 110, 105, 108]).map FmtText.glue = some [.lit [59, 32, 82, 40], .verb {} 118, .lit [41, 32, 58, 61, 32, 46, 46, 46, 32, 58, 61, 32, 82, 40], .verb {} 118, .lit [41, 32, 58, 61, 32, 110, 105, 108]] := by rfl
set_option maxHeartbeats 1000000 in
theorem tail4 (F : Interp) (x : Int) : ∃ r : List UInt8, r.length ≤ 900 ∧ FmtStop.textOf (F.told "fmt.Sprintf" [[59, 32, 82, 40, 37, 118, 41, 32, 58, 61, 32, 46, 46, 46, 32, 58, 61, 32, 82, 40, 37, 118, 41, 32, 58, 61, 32, 110, 105, 108], shape3, digits 8 (AA x % 18446744073709551616).toNat, shape3, digits 8 (BB x % 18446744073709551616).toNat] 0) = ⟨(59 :: 32 :: r).toArray⟩ := by
  have ht : FmtText.text "fmt.Sprintf" [[59, 32, 82, 40, 37, 118, 41, 32, 58, 61, 32, 46, 46, 46, 32, 58, 61, 32, 82, 40, 37, 118, 41, 32, 58, 61, 32, 110, 105, 108], shape3, digits 8 (AA x % 18446744073709551616).toNat, shape3, digits 8 (BB x % 18446744073709551616).toNat] = some (59 :: 32 :: ([82, 40] ++ Lib.itoa (AA x) ++ [41, 32, 58, 61, 32, 46, 46, 46, 32, 58, 61, 32, 82, 40] ++ Lib.itoa (BB x) ++ [41, 32, 58, 61, 32, 110, 105, 108])) := by
    rw [FmtText.text_sprintf_glued p4 (FmtText.operands_cons (FmtText.operand_int_at (sh := shape3) (k := .i64) rfl rfl (AA x) (AA_w x)) (FmtText.operands_cons (FmtText.operand_int_at (sh := shape3) (k := .i64) rfl rfl (BB x) (BB_w x)) FmtText.operands_nil))]
    simp [FmtText.render, FmtText.printArg_v _ _ (AA_w x), FmtText.printArg_v _ _ (BB_w x)]
  have lAA := FmtText.itoa_length_le (AA_w x)
  have lBB := FmtText.itoa_length_le (BB_w x)
  refine ⟨[82, 40] ++ Lib.itoa (AA x) ++ [41, 32, 58, 61, 32, 46, 46, 46, 32, 58, 61, 32, 82, 40] ++ Lib.itoa (BB x) ++ [41, 32, 58, 61, 32, 110, 105, 108], ?_, ?_⟩
  · simp
    omega
  · refine textOf_told F ht ?_
    simp
    omega
theorem p5 : (FmtText.parse [59, 32, 82, 40, 37, 118, 41, 32, 58, 61, 32, 85, 112, 86, 97, 108, 117, 101, 91, 37, 118, 93]).map FmtText.glue = some [.lit [59, 32, 82, 40], .verb {} 118, .lit [41, 32, 58, 61, 32, 85, 112, 86, 97, 108, 117, 101, 91], .verb {} 118, .lit [93]] := by rfl
set_option maxHeartbeats 1000000 in
theorem tail5 (F : Interp) (x : Int) : ∃ r : List UInt8, r.length ≤ 900 ∧ FmtStop.textOf (F.told "fmt.Sprintf" [[59, 32, 82, 40, 37, 118, 41, 32, 58, 61, 32, 85, 112, 86, 97, 108, 117, 101, 91, 37, 118, 93], shape3, digits 8 (AA x % 18446744073709551616).toNat, shape3, digits 8 (BB x % 18446744073709551616).toNat] 0) = ⟨(59 :: 32 :: r).toArray⟩ := by
  have ht : FmtText.text "fmt.Sprintf" [[59, 32, 82, 40, 37, 118, 41, 32, 58, 61, 32, 85, 112, 86, 97, 108, 117, 101, 91, 37, 118, 93], shape3, digits 8 (AA x % 18446744073709551616).toNat, shape3, digits 8 (BB x % 18446744073709551616).toNat] = some (59 :: 32 :: ([82, 40] ++ Lib.itoa (AA x) ++ [41, 32, 58, 61, 32, 85, 112, 86, 97, 108, 117, 101, 91] ++ Lib.itoa (BB x) ++ [93])) := by
    rw [FmtText.text_sprintf_glued p5 (FmtText.operands_cons (FmtText.operand_int_at (sh := shape3) (k := .i64) rfl rfl (AA x) (AA_w x)) (FmtText.operands_cons (FmtText.operand_int_at (sh := shape3) (k := .i64) rfl rfl (BB x) (BB_w x)) FmtText.operands_nil))]
    simp [FmtText.render, FmtText.printArg_v _ _ (AA_w x), FmtText.printArg_v _ _ (BB_w x)]
  have lAA := FmtText.itoa_length_le (AA_w x)
  have lBB := FmtText.itoa_length_le (BB_w x)
  refine ⟨[82, 40] ++ Lib.itoa (AA x) ++ [41, 32, 58, 61, 32, 85, 112, 86, 97, 108, 117, 101, 91] ++ Lib.itoa (BB x) ++ [93], ?_, ?_⟩
  · simp
    omega
  · refine textOf_told F ht ?_
    simp
    omega
theorem p6 : (FmtText.parse [59, 32, 82, 40, 37, 118, 41, 32, 58, 61, 32, 71, 98, 108, 91, 75, 115, 116, 40, 37, 118, 41, 93]).map FmtText.glue = some [.lit [59, 32, 82, 40], .verb {} 118, .lit [41, 32, 58, 61, 32, 71, 98, 108, 91, 75, 115, 116, 40], .verb {} 118, .lit [41, 93]] := by rfl
set_option maxHeartbeats 1000000 in
theorem tail6 (F : Interp) (x : Int) : ∃ r : List UInt8, r.length ≤ 900 ∧ FmtStop.textOf (F.told "fmt.Sprintf" [[59, 32, 82, 40, 37, 118, 41, 32, 58, 61, 32, 71, 98, 108, 91, 75, 115, 116, 40, 37, 118, 41, 93], shape3, digits 8 (AA x % 18446744073709551616).toNat, shape3, digits 8 (BX x % 18446744073709551616).toNat] 0) = ⟨(59 :: 32 :: r).toArray⟩ := by
  have ht : FmtText.text "fmt.Sprintf" [[59, 32, 82, 40, 37, 118, 41, 32, 58, 61, 32, 71, 98, 108, 91, 75, 115, 116, 40, 37, 118, 41, 93], shape3, digits 8 (AA x % 18446744073709551616).toNat, shape3, digits 8 (BX x % 18446744073709551616).toNat] = some (59 :: 32 :: ([82, 40] ++ Lib.itoa (AA x) ++ [41, 32, 58, 61, 32, 71, 98, 108, 91, 75, 115, 116, 40] ++ Lib.itoa (BX x) ++ [41, 93])) := by
    rw [FmtText.text_sprintf_glued p6 (FmtText.operands_cons (FmtText.operand_int_at (sh := shape3) (k := .i64) rfl rfl (AA x) (AA_w x)) (FmtText.operands_cons (FmtText.operand_int_at (sh := shape3) (k := .i64) rfl rfl (BX x) (BX_w x)) FmtText.operands_nil))]
    simp [FmtText.render, FmtText.printArg_v _ _ (AA_w x), FmtText.printArg_v _ _ (BX_w x)]
  have lAA := FmtText.itoa_length_le (AA_w x)
  have lBX := FmtText.itoa_length_le (BX_w x)
  refine ⟨[82, 40] ++ Lib.itoa (AA x) ++ [41, 32, 58, 61, 32, 71, 98, 108, 91, 75, 115, 116, 40] ++ Lib.itoa (BX x) ++ [41, 93], ?_, ?_⟩
  · simp
    omega
  · refine textOf_told F ht ?_
    simp
    omega
theorem p7 : (FmtText.parse [59, 32, 82, 40, 37, 118, 41, 32, 58, 61, 32, 82, 40, 37, 118, 41, 91, 82, 75, 40, 37, 118, 41, 93]).map FmtText.glue = some [.lit [59, 32, 82, 40], .verb {} 118, .lit [41, 32, 58, 61, 32, 82, 40], .verb {} 118, .lit [41, 91, 82, 75, 40], .verb {} 118, .lit [41, 93]] := by rfl
set_option maxHeartbeats 1000000 in
theorem tail7 (F : Interp) (x : Int) : ∃ r : List UInt8, r.length ≤ 900 ∧ FmtStop.textOf (F.told "fmt.Sprintf" [[59, 32, 82, 40, 37, 118, 41, 32, 58, 61, 32, 82, 40, 37, 118, 41, 91, 82, 75, 40, 37, 118, 41, 93], shape3, digits 8 (AA x % 18446744073709551616).toNat, shape3, digits 8 (BB x % 18446744073709551616).toNat, shape3, digits 8 (CC x % 18446744073709551616).toNat] 0) = ⟨(59 :: 32 :: r).toArray⟩ := by
  have ht : FmtText.text "fmt.Sprintf" [[59, 32, 82, 40, 37, 118, 41, 32, 58, 61, 32, 82, 40, 37, 118, 41, 91, 82, 75, 40, 37, 118, 41, 93], shape3, digits 8 (AA x % 18446744073709551616).toNat, shape3, digits 8 (BB x % 18446744073709551616).toNat, shape3, digits 8 (CC x % 18446744073709551616).toNat] = some (59 :: 32 :: ([82, 40] ++ Lib.itoa (AA x) ++ [41, 32, 58, 61, 32, 82, 40] ++ Lib.itoa (BB x) ++ [41, 91, 82, 75, 40] ++ Lib.itoa (CC x) ++ [41, 93])) := by
    rw [FmtText.text_sprintf_glued p7 (FmtText.operands_cons (FmtText.operand_int_at (sh := shape3) (k := .i64) rfl rfl (AA x) (AA_w x)) (FmtText.operands_cons (FmtText.operand_int_at (sh := shape3) (k := .i64) rfl rfl (BB x) (BB_w x)) (FmtText.operands_cons (FmtText.operand_int_at (sh := shape3) (k := .i64) rfl rfl (CC x) (CC_w x)) FmtText.operands_nil)))]
    simp [FmtText.render, FmtText.printArg_v _ _ (AA_w x), FmtText.printArg_v _ _ (BB_w x), FmtText.printArg_v _ _ (CC_w x)]
  have lAA := FmtText.itoa_length_le (AA_w x)
  have lBB := FmtText.itoa_length_le (BB_w x)
  have lCC := FmtText.itoa_length_le (CC_w x)
  refine ⟨[82, 40] ++ Lib.itoa (AA x) ++ [41, 32, 58, 61, 32, 82, 40] ++ Lib.itoa (BB x) ++ [41, 91, 82, 75, 40] ++ Lib.itoa (CC x) ++ [41, 93], ?_, ?_⟩
  · simp
    omega
  · refine textOf_told F ht ?_
    simp
    omega
theorem p8 : (FmtText.parse [59, 32, 82, 40, 37, 118, 41, 32, 58, 61, 32, 82, 40, 37, 118, 41, 91, 82, 75, 40, 37, 118, 41, 93, 32, 59, 32, 82, 75, 40, 37, 118, 41, 32, 105, 115, 32, 99, 111, 110, 115, 116, 97, 110, 116, 32, 115, 116, 114, 105, 110, 103]).map FmtText.glue = some [.lit [59, 32, 82, 40], .verb {} 118, .lit [41, 32, 58, 61, 32, 82, 40], .verb {} 118, .lit [41, 91, 82, 75, 40], .verb {} 118, .lit [41, 93, 32, 59, 32, 82, 75, 40], .verb {} 118, .lit [41, 32, 105, 115, 32, 99, 111, 110, 115, 116, 97, 110, 116, 32, 115, 116, 114, 105, 110, 103]] := by rfl
set_option maxHeartbeats 1000000 in
theorem tail8 (F : Interp) (x : Int) : ∃ r : List UInt8, r.length ≤ 900 ∧ FmtStop.textOf (F.told "fmt.Sprintf" [[59, 32, 82, 40, 37, 118, 41, 32, 58, 61, 32, 82, 40, 37, 118, 41, 91, 82, 75, 40, 37, 118, 41, 93, 32, 59, 32, 82, 75, 40, 37, 118, 41, 32, 105, 115, 32, 99, 111, 110, 115, 116, 97, 110, 116, 32, 115, 116, 114, 105, 110, 103], shape3, digits 8 (AA x % 18446744073709551616).toNat, shape3, digits 8 (BB x % 18446744073709551616).toNat, shape3, digits 8 (CC x % 18446744073709551616).toNat, shape3, digits 8 (CC x % 18446744073709551616).toNat] 0) = ⟨(59 :: 32 :: r).toArray⟩ := by
  have ht : FmtText.text "fmt.Sprintf" [[59, 32, 82, 40, 37, 118, 41, 32, 58, 61, 32, 82, 40, 37, 118, 41, 91, 82, 75, 40, 37, 118, 41, 93, 32, 59, 32, 82, 75, 40, 37, 118, 41, 32, 105, 115, 32, 99, 111, 110, 115, 116, 97, 110, 116, 32, 115, 116, 114, 105, 110, 103], shape3, digits 8 (AA x % 18446744073709551616).toNat, shape3, digits 8 (BB x % 18446744073709551616).toNat, shape3, digits 8 (CC x % 18446744073709551616).toNat, shape3, digits 8 (CC x % 18446744073709551616).toNat] = some (59 :: 32 :: ([82, 40] ++ Lib.itoa (AA x) ++ [41, 32, 58, 61, 32, 82, 40] ++ Lib.itoa (BB x) ++ [41, 91, 82, 75, 40] ++ Lib.itoa (CC x) ++ [41, 93, 32, 59, 32, 82, 75, 40] ++ Lib.itoa (CC x) ++ [41, 32, 105, 115, 32, 99, 111, 110, 115, 116, 97, 110, 116, 32, 115, 116, 114, 105, 110, 103])) := by
    rw [FmtText.text_sprintf_glued p8 (FmtText.operands_cons (FmtText.operand_int_at (sh := shape3) (k := .i64) rfl rfl (AA x) (AA_w x)) (FmtText.operands_cons (FmtText.operand_int_at (sh := shape3) (k := .i64) rfl rfl (BB x) (BB_w x)) (FmtText.operands_cons (FmtText.operand_int_at (sh := shape3) (k := .i64) rfl rfl (CC x) (CC_w x)) (FmtText.operands_cons (FmtText.operand_int_at (sh := shape3) (k := .i64) rfl rfl (CC x) (CC_w x)) FmtText.operands_nil))))]
    simp [FmtText.render, FmtText.printArg_v _ _ (AA_w x), FmtText.printArg_v _ _ (BB_w x), FmtText.printArg_v _ _ (CC_w x)]
  have lAA := FmtText.itoa_length_le (AA_w x)
  have lBB := FmtText.itoa_length_le (BB_w x)
  have lCC := FmtText.itoa_length_le (CC_w x)
  refine ⟨[82, 40] ++ Lib.itoa (AA x) ++ [41, 32, 58, 61, 32, 82, 40] ++ Lib.itoa (BB x) ++ [41, 91, 82, 75, 40] ++ Lib.itoa (CC x) ++ [41, 93, 32, 59, 32, 82, 75, 40] ++ Lib.itoa (CC x) ++ [41, 32, 105, 115, 32, 99, 111, 110, 115, 116, 97, 110, 116, 32, 115, 116, 114, 105, 110, 103], ?_, ?_⟩
  · simp
    omega
  · refine textOf_told F ht ?_
    simp
    omega
theorem p9 : (FmtText.parse [59, 32, 71, 98, 108, 91, 75, 115, 116, 40, 37, 118, 41, 93, 32, 58, 61, 32, 82, 40, 37, 118, 41]).map FmtText.glue = some [.lit [59, 32, 71, 98, 108, 91, 75, 115, 116, 40], .verb {} 118, .lit [41, 93, 32, 58, 61, 32, 82, 40], .verb {} 118, .lit [41]] := by rfl
set_option maxHeartbeats 1000000 in
theorem tail9 (F : Interp) (x : Int) : ∃ r : List UInt8, r.length ≤ 900 ∧ FmtStop.textOf (F.told "fmt.Sprintf" [[59, 32, 71, 98, 108, 91, 75, 115, 116, 40, 37, 118, 41, 93, 32, 58, 61, 32, 82, 40, 37, 118, 41], shape3, digits 8 (BX x % 18446744073709551616).toNat, shape3, digits 8 (AA x % 18446744073709551616).toNat] 0) = ⟨(59 :: 32 :: r).toArray⟩ := by
  have ht : FmtText.text "fmt.Sprintf" [[59, 32, 71, 98, 108, 91, 75, 115, 116, 40, 37, 118, 41, 93, 32, 58, 61, 32, 82, 40, 37, 118, 41], shape3, digits 8 (BX x % 18446744073709551616).toNat, shape3, digits 8 (AA x % 18446744073709551616).toNat] = some (59 :: 32 :: ([71, 98, 108, 91, 75, 115, 116, 40] ++ Lib.itoa (BX x) ++ [41, 93, 32, 58, 61, 32, 82, 40] ++ Lib.itoa (AA x) ++ [41])) := by
    rw [FmtText.text_sprintf_glued p9 (FmtText.operands_cons (FmtText.operand_int_at (sh := shape3) (k := .i64) rfl rfl (BX x) (BX_w x)) (FmtText.operands_cons (FmtText.operand_int_at (sh := shape3) (k := .i64) rfl rfl (AA x) (AA_w x)) FmtText.operands_nil))]
    simp [FmtText.render, FmtText.printArg_v _ _ (AA_w x), FmtText.printArg_v _ _ (BX_w x)]
  have lAA := FmtText.itoa_length_le (AA_w x)
  have lBX := FmtText.itoa_length_le (BX_w x)
  refine ⟨[71, 98, 108, 91, 75, 115, 116, 40] ++ Lib.itoa (BX x) ++ [41, 93, 32, 58, 61, 32, 82, 40] ++ Lib.itoa (AA x) ++ [41], ?_, ?_⟩
  · simp
    omega
  · refine textOf_told F ht ?_
    simp
    omega
theorem p10 : (FmtText.parse [59, 32, 85, 112, 86, 97, 108, 117, 101, 91, 37, 118, 93, 32, 58, 61, 32, 82, 40, 37, 118, 41]).map FmtText.glue = some [.lit [59, 32, 85, 112, 86, 97, 108, 117, 101, 91], .verb {} 118, .lit [93, 32, 58, 61, 32, 82, 40], .verb {} 118, .lit [41]] := by rfl
set_option maxHeartbeats 1000000 in
theorem tail10 (F : Interp) (x : Int) : ∃ r : List UInt8, r.length ≤ 900 ∧ FmtStop.textOf (F.told "fmt.Sprintf" [[59, 32, 85, 112, 86, 97, 108, 117, 101, 91, 37, 118, 93, 32, 58, 61, 32, 82, 40, 37, 118, 41], shape3, digits 8 (BB x % 18446744073709551616).toNat, shape3, digits 8 (AA x % 18446744073709551616).toNat] 0) = ⟨(59 :: 32 :: r).toArray⟩ := by
  have ht : FmtText.text "fmt.Sprintf" [[59, 32, 85, 112, 86, 97, 108, 117, 101, 91, 37, 118, 93, 32, 58, 61, 32, 82, 40, 37, 118, 41], shape3, digits 8 (BB x % 18446744073709551616).toNat, shape3, digits 8 (AA x % 18446744073709551616).toNat] = some (59 :: 32 :: ([85, 112, 86, 97, 108, 117, 101, 91] ++ Lib.itoa (BB x) ++ [93, 32, 58, 61, 32, 82, 40] ++ Lib.itoa (AA x) ++ [41])) := by
    rw [FmtText.text_sprintf_glued p10 (FmtText.operands_cons (FmtText.operand_int_at (sh := shape3) (k := .i64) rfl rfl (BB x) (BB_w x)) (FmtText.operands_cons (FmtText.operand_int_at (sh := shape3) (k := .i64) rfl rfl (AA x) (AA_w x)) FmtText.operands_nil))]
    simp [FmtText.render, FmtText.printArg_v _ _ (AA_w x), FmtText.printArg_v _ _ (BB_w x)]
  have lAA := FmtText.itoa_length_le (AA_w x)
  have lBB := FmtText.itoa_length_le (BB_w x)
  refine ⟨[85, 112, 86, 97, 108, 117, 101, 91] ++ Lib.itoa (BB x) ++ [93, 32, 58, 61, 32, 82, 40] ++ Lib.itoa (AA x) ++ [41], ?_, ?_⟩
  · simp
    omega
  · refine textOf_told F ht ?_
    simp
    omega
theorem p11 : (FmtText.parse [59, 32, 82, 40, 37, 118, 41, 91, 82, 75, 40, 37, 118, 41, 93, 32, 58, 61, 32, 82, 75, 40, 37, 118, 41]).map FmtText.glue = some [.lit [59, 32, 82, 40], .verb {} 118, .lit [41, 91, 82, 75, 40], .verb {} 118, .lit [41, 93, 32, 58, 61, 32, 82, 75, 40], .verb {} 118, .lit [41]] := by rfl
set_option maxHeartbeats 1000000 in
theorem tail11 (F : Interp) (x : Int) : ∃ r : List UInt8, r.length ≤ 900 ∧ FmtStop.textOf (F.told "fmt.Sprintf" [[59, 32, 82, 40, 37, 118, 41, 91, 82, 75, 40, 37, 118, 41, 93, 32, 58, 61, 32, 82, 75, 40, 37, 118, 41], shape3, digits 8 (AA x % 18446744073709551616).toNat, shape3, digits 8 (BB x % 18446744073709551616).toNat, shape3, digits 8 (CC x % 18446744073709551616).toNat] 0) = ⟨(59 :: 32 :: r).toArray⟩ := by
  have ht : FmtText.text "fmt.Sprintf" [[59, 32, 82, 40, 37, 118, 41, 91, 82, 75, 40, 37, 118, 41, 93, 32, 58, 61, 32, 82, 75, 40, 37, 118, 41], shape3, digits 8 (AA x % 18446744073709551616).toNat, shape3, digits 8 (BB x % 18446744073709551616).toNat, shape3, digits 8 (CC x % 18446744073709551616).toNat] = some (59 :: 32 :: ([82, 40] ++ Lib.itoa (AA x) ++ [41, 91, 82, 75, 40] ++ Lib.itoa (BB x) ++ [41, 93, 32, 58, 61, 32, 82, 75, 40] ++ Lib.itoa (CC x) ++ [41])) := by
    rw [FmtText.text_sprintf_glued p11 (FmtText.operands_cons (FmtText.operand_int_at (sh := shape3) (k := .i64) rfl rfl (AA x) (AA_w x)) (FmtText.operands_cons (FmtText.operand_int_at (sh := shape3) (k := .i64) rfl rfl (BB x) (BB_w x)) (FmtText.operands_cons (FmtText.operand_int_at (sh := shape3) (k := .i64) rfl rfl (CC x) (CC_w x)) FmtText.operands_nil)))]
    simp [FmtText.render, FmtText.printArg_v _ _ (AA_w x), FmtText.printArg_v _ _ (BB_w x), FmtText.printArg_v _ _ (CC_w x)]
  have lAA := FmtText.itoa_length_le (AA_w x)
  have lBB := FmtText.itoa_length_le (BB_w x)
  have lCC := FmtText.itoa_length_le (CC_w x)
  refine ⟨[82, 40] ++ Lib.itoa (AA x) ++ [41, 91, 82, 75, 40] ++ Lib.itoa (BB x) ++ [41, 93, 32, 58, 61, 32, 82, 75, 40] ++ Lib.itoa (CC x) ++ [41], ?_, ?_⟩
  · simp
    omega
  · refine textOf_told F ht ?_
    simp
    omega
theorem p12 : (FmtText.parse [59, 32, 82, 40, 37, 118, 41, 91, 82, 75, 40, 37, 118, 41, 93, 32, 58, 61, 32, 82, 75, 40, 37, 118, 41, 32, 59, 32, 82, 75, 40, 37, 118, 41, 32, 105, 115, 32, 99, 111, 110, 115, 116, 97, 110, 116, 32, 115, 116, 114, 105, 110, 103]).map FmtText.glue = some [.lit [59, 32, 82, 40], .verb {} 118, .lit [41, 91, 82, 75, 40], .verb {} 118, .lit [41, 93, 32, 58, 61, 32, 82, 75, 40], .verb {} 118, .lit [41, 32, 59, 32, 82, 75, 40], .verb {} 118, .lit [41, 32, 105, 115, 32, 99, 111, 110, 115, 116, 97, 110, 116, 32, 115, 116, 114, 105, 110, 103]] := by rfl
set_option maxHeartbeats 1000000 in
theorem tail12 (F : Interp) (x : Int) : ∃ r : List UInt8, r.length ≤ 900 ∧ FmtStop.textOf (F.told "fmt.Sprintf" [[59, 32, 82, 40, 37, 118, 41, 91, 82, 75, 40, 37, 118, 41, 93, 32, 58, 61, 32, 82, 75, 40, 37, 118, 41, 32, 59, 32, 82, 75, 40, 37, 118, 41, 32, 105, 115, 32, 99, 111, 110, 115, 116, 97, 110, 116, 32, 115, 116, 114, 105, 110, 103], shape3, digits 8 (AA x % 18446744073709551616).toNat, shape3, digits 8 (BB x % 18446744073709551616).toNat, shape3, digits 8 (CC x % 18446744073709551616).toNat, shape3, digits 8 (BB x % 18446744073709551616).toNat] 0) = ⟨(59 :: 32 :: r).toArray⟩ := by
  have ht : FmtText.text "fmt.Sprintf" [[59, 32, 82, 40, 37, 118, 41, 91, 82, 75, 40, 37, 118, 41, 93, 32, 58, 61, 32, 82, 75, 40, 37, 118, 41, 32, 59, 32, 82, 75, 40, 37, 118, 41, 32, 105, 115, 32, 99, 111, 110, 115, 116, 97, 110, 116, 32, 115, 116, 114, 105, 110, 103], shape3, digits 8 (AA x % 18446744073709551616).toNat, shape3, digits 8 (BB x % 18446744073709551616).toNat, shape3, digits 8 (CC x % 18446744073709551616).toNat, shape3, digits 8 (BB x % 18446744073709551616).toNat] = some (59 :: 32 :: ([82, 40] ++ Lib.itoa (AA x) ++ [41, 91, 82, 75, 40] ++ Lib.itoa (BB x) ++ [41, 93, 32, 58, 61, 32, 82, 75, 40] ++ Lib.itoa (CC x) ++ [41, 32, 59, 32, 82, 75, 40] ++ Lib.itoa (BB x) ++ [41, 32, 105, 115, 32, 99, 111, 110, 115, 116, 97, 110, 116, 32, 115, 116, 114, 105, 110, 103])) := by
    rw [FmtText.text_sprintf_glued p12 (FmtText.operands_cons (FmtText.operand_int_at (sh := shape3) (k := .i64) rfl rfl (AA x) (AA_w x)) (FmtText.operands_cons (FmtText.operand_int_at (sh := shape3) (k := .i64) rfl rfl (BB x) (BB_w x)) (FmtText.operands_cons (FmtText.operand_int_at (sh := shape3) (k := .i64) rfl rfl (CC x) (CC_w x)) (FmtText.operands_cons (FmtText.operand_int_at (sh := shape3) (k := .i64) rfl rfl (BB x) (BB_w x)) FmtText.operands_nil))))]
    simp [FmtText.render, FmtText.printArg_v _ _ (AA_w x), FmtText.printArg_v _ _ (BB_w x), FmtText.printArg_v _ _ (CC_w x)]
  have lAA := FmtText.itoa_length_le (AA_w x)
  have lBB := FmtText.itoa_length_le (BB_w x)
  have lCC := FmtText.itoa_length_le (CC_w x)
  refine ⟨[82, 40] ++ Lib.itoa (AA x) ++ [41, 91, 82, 75, 40] ++ Lib.itoa (BB x) ++ [41, 93, 32, 58, 61, 32, 82, 75, 40] ++ Lib.itoa (CC x) ++ [41, 32, 59, 32, 82, 75, 40] ++ Lib.itoa (BB x) ++ [41, 32, 105, 115, 32, 99, 111, 110, 115, 116, 97, 110, 116, 32, 115, 116, 114, 105, 110, 103], ?_, ?_⟩
  · simp
    omega
  · refine textOf_told F ht ?_
    simp
    omega
theorem p13 : (FmtText.parse [59, 32, 82, 40, 37, 118, 41, 32, 58, 61, 32, 123, 125, 32, 40, 115, 105, 122, 101, 32, 61, 32, 66, 67, 41]).map FmtText.glue = some [.lit [59, 32, 82, 40], .verb {} 118, .lit [41, 32, 58, 61, 32, 123, 125, 32, 40, 115, 105, 122, 101, 32, 61, 32, 66, 67, 41]] := by rfl
set_option maxHeartbeats 1000000 in
theorem tail13 (F : Interp) (x : Int) : ∃ r : List UInt8, r.length ≤ 900 ∧ FmtStop.textOf (F.told "fmt.Sprintf" [[59, 32, 82, 40, 37, 118, 41, 32, 58, 61, 32, 123, 125, 32, 40, 115, 105, 122, 101, 32, 61, 32, 66, 67, 41], shape3, digits 8 (AA x % 18446744073709551616).toNat] 0) = ⟨(59 :: 32 :: r).toArray⟩ := by
  have ht : FmtText.text "fmt.Sprintf" [[59, 32, 82, 40, 37, 118, 41, 32, 58, 61, 32, 123, 125, 32, 40, 115, 105, 122, 101, 32, 61, 32, 66, 67, 41], shape3, digits 8 (AA x % 18446744073709551616).toNat] = some (59 :: 32 :: ([82, 40] ++ Lib.itoa (AA x) ++ [41, 32, 58, 61, 32, 123, 125, 32, 40, 115, 105, 122, 101, 32, 61, 32, 66, 67, 41])) := by
    rw [FmtText.text_sprintf_glued p13 (FmtText.operands_cons (FmtText.operand_int_at (sh := shape3) (k := .i64) rfl rfl (AA x) (AA_w x)) FmtText.operands_nil)]
    simp [FmtText.render, FmtText.printArg_v _ _ (AA_w x)]
  have lAA := FmtText.itoa_length_le (AA_w x)
  refine ⟨[82, 40] ++ Lib.itoa (AA x) ++ [41, 32, 58, 61, 32, 123, 125, 32, 40, 115, 105, 122, 101, 32, 61, 32, 66, 67, 41], ?_, ?_⟩
  · simp
    omega
  · refine textOf_told F ht ?_
    simp
    omega
theorem p14 : (FmtText.parse [59, 32, 82, 40, 37, 118, 43, 49, 41, 32, 58, 61, 32, 82, 40, 37, 118, 41, 59, 32, 82, 40, 37, 118, 41, 32, 58, 61, 32, 82, 40, 37, 118, 41, 91, 82, 75, 40, 37, 118, 41, 93]).map FmtText.glue = some [.lit [59, 32, 82, 40], .verb {} 118, .lit [43, 49, 41, 32, 58, 61, 32, 82, 40], .verb {} 118, .lit [41, 59, 32, 82, 40], .verb {} 118, .lit [41, 32, 58, 61, 32, 82, 40], .verb {} 118, .lit [41, 91, 82, 75, 40], .verb {} 118, .lit [41, 93]] := by rfl
set_option maxHeartbeats 1000000 in
theorem tail14 (F : Interp) (x : Int) : ∃ r : List UInt8, r.length ≤ 900 ∧ FmtStop.textOf (F.told "fmt.Sprintf" [[59, 32, 82, 40, 37, 118, 43, 49, 41, 32, 58, 61, 32, 82, 40, 37, 118, 41, 59, 32, 82, 40, 37, 118, 41, 32, 58, 61, 32, 82, 40, 37, 118, 41, 91, 82, 75, 40, 37, 118, 41, 93], shape3, digits 8 (AA x % 18446744073709551616).toNat, shape3, digits 8 (BB x % 18446744073709551616).toNat, shape3, digits 8 (AA x % 18446744073709551616).toNat, shape3, digits 8 (BB x % 18446744073709551616).toNat, shape3, digits 8 (CC x % 18446744073709551616).toNat] 0) = ⟨(59 :: 32 :: r).toArray⟩ := by
  have ht : FmtText.text "fmt.Sprintf" [[59, 32, 82, 40, 37, 118, 43, 49, 41, 32, 58, 61, 32, 82, 40, 37, 118, 41, 59, 32, 82, 40, 37, 118, 41, 32, 58, 61, 32, 82, 40, 37, 118, 41, 91, 82, 75, 40, 37, 118, 41, 93], shape3, digits 8 (AA x % 18446744073709551616).toNat, shape3, digits 8 (BB x % 18446744073709551616).toNat, shape3, digits 8 (AA x % 18446744073709551616).toNat, shape3, digits 8 (BB x % 18446744073709551616).toNat, shape3, digits 8 (CC x % 18446744073709551616).toNat] = some (59 :: 32 :: ([82, 40] ++ Lib.itoa (AA x) ++ [43, 49, 41, 32, 58, 61, 32, 82, 40] ++ Lib.itoa (BB x) ++ [41, 59, 32, 82, 40] ++ Lib.itoa (AA x) ++ [41, 32, 58, 61, 32, 82, 40] ++ Lib.itoa (BB x) ++ [41, 91, 82, 75, 40] ++ Lib.itoa (CC x) ++ [41, 93])) := by
    rw [FmtText.text_sprintf_glued p14 (FmtText.operands_cons (FmtText.operand_int_at (sh := shape3) (k := .i64) rfl rfl (AA x) (AA_w x)) (FmtText.operands_cons (FmtText.operand_int_at (sh := shape3) (k := .i64) rfl rfl (BB x) (BB_w x)) (FmtText.operands_cons (FmtText.operand_int_at (sh := shape3) (k := .i64) rfl rfl (AA x) (AA_w x)) (FmtText.operands_cons (FmtText.operand_int_at (sh := shape3) (k := .i64) rfl rfl (BB x) (BB_w x)) (FmtText.operands_cons (FmtText.operand_int_at (sh := shape3) (k := .i64) rfl rfl (CC x) (CC_w x)) FmtText.operands_nil)))))]
    simp [FmtText.render, FmtText.printArg_v _ _ (AA_w x), FmtText.printArg_v _ _ (BB_w x), FmtText.printArg_v _ _ (CC_w x)]
  have lAA := FmtText.itoa_length_le (AA_w x)
  have lBB := FmtText.itoa_length_le (BB_w x)
  have lCC := FmtText.itoa_length_le (CC_w x)
  refine ⟨[82, 40] ++ Lib.itoa (AA x) ++ [43, 49, 41, 32, 58, 61, 32, 82, 40] ++ Lib.itoa (BB x) ++ [41, 59, 32, 82, 40] ++ Lib.itoa (AA x) ++ [41, 32, 58, 61, 32, 82, 40] ++ Lib.itoa (BB x) ++ [41, 91, 82, 75, 40] ++ Lib.itoa (CC x) ++ [41, 93], ?_, ?_⟩
  · simp
    omega
  · refine textOf_told F ht ?_
    simp
    omega
theorem p15 : (FmtText.parse [59, 32, 82, 40, 37, 118, 41, 32, 58, 61, 32, 82, 75, 40, 37, 118, 41, 32, 43, 32, 82, 75, 40, 37, 118, 41]).map FmtText.glue = some [.lit [59, 32, 82, 40], .verb {} 118, .lit [41, 32, 58, 61, 32, 82, 75, 40], .verb {} 118, .lit [41, 32, 43, 32, 82, 75, 40], .verb {} 118, .lit [41]] := by rfl
set_option maxHeartbeats 1000000 in
theorem tail15 (F : Interp) (x : Int) : ∃ r : List UInt8, r.length ≤ 900 ∧ FmtStop.textOf (F.told "fmt.Sprintf" [[59, 32, 82, 40, 37, 118, 41, 32, 58, 61, 32, 82, 75, 40, 37, 118, 41, 32, 43, 32, 82, 75, 40, 37, 118, 41], shape3, digits 8 (AA x % 18446744073709551616).toNat, shape3, digits 8 (BB x % 18446744073709551616).toNat, shape3, digits 8 (CC x % 18446744073709551616).toNat] 0) = ⟨(59 :: 32 :: r).toArray⟩ := by
  have ht : FmtText.text "fmt.Sprintf" [[59, 32, 82, 40, 37, 118, 41, 32, 58, 61, 32, 82, 75, 40, 37, 118, 41, 32, 43, 32, 82, 75, 40, 37, 118, 41], shape3, digits 8 (AA x % 18446744073709551616).toNat, shape3, digits 8 (BB x % 18446744073709551616).toNat, shape3, digits 8 (CC x % 18446744073709551616).toNat] = some (59 :: 32 :: ([82, 40] ++ Lib.itoa (AA x) ++ [41, 32, 58, 61, 32, 82, 75, 40] ++ Lib.itoa (BB x) ++ [41, 32, 43, 32, 82, 75, 40] ++ Lib.itoa (CC x) ++ [41])) := by
    rw [FmtText.text_sprintf_glued p15 (FmtText.operands_cons (FmtText.operand_int_at (sh := shape3) (k := .i64) rfl rfl (AA x) (AA_w x)) (FmtText.operands_cons (FmtText.operand_int_at (sh := shape3) (k := .i64) rfl rfl (BB x) (BB_w x)) (FmtText.operands_cons (FmtText.operand_int_at (sh := shape3) (k := .i64) rfl rfl (CC x) (CC_w x)) FmtText.operands_nil)))]
    simp [FmtText.render, FmtText.printArg_v _ _ (AA_w x), FmtText.printArg_v _ _ (BB_w x), FmtText.printArg_v _ _ (CC_w x)]
  have lAA := FmtText.itoa_length_le (AA_w x)
  have lBB := FmtText.itoa_length_le (BB_w x)
  have lCC := FmtText.itoa_length_le (CC_w x)
  refine ⟨[82, 40] ++ Lib.itoa (AA x) ++ [41, 32, 58, 61, 32, 82, 75, 40] ++ Lib.itoa (BB x) ++ [41, 32, 43, 32, 82, 75, 40] ++ Lib.itoa (CC x) ++ [41], ?_, ?_⟩
  · simp
    omega
  · refine textOf_told F ht ?_
    simp
    omega
theorem p16 : (FmtText.parse [59, 32, 82, 40, 37, 118, 41, 32, 58, 61, 32, 82, 75, 40, 37, 118, 41, 32, 45, 32, 82, 75, 40, 37, 118, 41]).map FmtText.glue = some [.lit [59, 32, 82, 40], .verb {} 118, .lit [41, 32, 58, 61, 32, 82, 75, 40], .verb {} 118, .lit [41, 32, 45, 32, 82, 75, 40], .verb {} 118, .lit [41]] := by rfl
set_option maxHeartbeats 1000000 in
theorem tail16 (F : Interp) (x : Int) : ∃ r : List UInt8, r.length ≤ 900 ∧ FmtStop.textOf (F.told "fmt.Sprintf" [[59, 32, 82, 40, 37, 118, 41, 32, 58, 61, 32, 82, 75, 40, 37, 118, 41, 32, 45, 32, 82, 75, 40, 37, 118, 41], shape3, digits 8 (AA x % 18446744073709551616).toNat, shape3, digits 8 (BB x % 18446744073709551616).toNat, shape3, digits 8 (CC x % 18446744073709551616).toNat] 0) = ⟨(59 :: 32 :: r).toArray⟩ := by
  have ht : FmtText.text "fmt.Sprintf" [[59, 32, 82, 40, 37, 118, 41, 32, 58, 61, 32, 82, 75, 40, 37, 118, 41, 32, 45, 32, 82, 75, 40, 37, 118, 41], shape3, digits 8 (AA x % 18446744073709551616).toNat, shape3, digits 8 (BB x % 18446744073709551616).toNat, shape3, digits 8 (CC x % 18446744073709551616).toNat] = some (59 :: 32 :: ([82, 40] ++ Lib.itoa (AA x) ++ [41, 32, 58, 61, 32, 82, 75, 40] ++ Lib.itoa (BB x) ++ [41, 32, 45, 32, 82, 75, 40] ++ Lib.itoa (CC x) ++ [41])) := by
    rw [FmtText.text_sprintf_glued p16 (FmtText.operands_cons (FmtText.operand_int_at (sh := shape3) (k := .i64) rfl rfl (AA x) (AA_w x)) (FmtText.operands_cons (FmtText.operand_int_at (sh := shape3) (k := .i64) rfl rfl (BB x) (BB_w x)) (FmtText.operands_cons (FmtText.operand_int_at (sh := shape3) (k := .i64) rfl rfl (CC x) (CC_w x)) FmtText.operands_nil)))]
    simp [FmtText.render, FmtText.printArg_v _ _ (AA_w x), FmtText.printArg_v _ _ (BB_w x), FmtText.printArg_v _ _ (CC_w x)]
  have lAA := FmtText.itoa_length_le (AA_w x)
  have lBB := FmtText.itoa_length_le (BB_w x)
  have lCC := FmtText.itoa_length_le (CC_w x)
  refine ⟨[82, 40] ++ Lib.itoa (AA x) ++ [41, 32, 58, 61, 32, 82, 75, 40] ++ Lib.itoa (BB x) ++ [41, 32, 45, 32, 82, 75, 40] ++ Lib.itoa (CC x) ++ [41], ?_, ?_⟩
  · simp
    omega
  · refine textOf_told F ht ?_
    simp
    omega
theorem p17 : (FmtText.parse [59, 32, 82, 40, 37, 118, 41, 32, 58, 61, 32, 82, 75, 40, 37, 118, 41, 32, 42, 32, 82, 75, 40, 37, 118, 41]).map FmtText.glue = some [.lit [59, 32, 82, 40], .verb {} 118, .lit [41, 32, 58, 61, 32, 82, 75, 40], .verb {} 118, .lit [41, 32, 42, 32, 82, 75, 40], .verb {} 118, .lit [41]] := by rfl
set_option maxHeartbeats 1000000 in
theorem tail17 (F : Interp) (x : Int) : ∃ r : List UInt8, r.length ≤ 900 ∧ FmtStop.textOf (F.told "fmt.Sprintf" [[59, 32, 82, 40, 37, 118, 41, 32, 58, 61, 32, 82, 75, 40, 37, 118, 41, 32, 42, 32, 82, 75, 40, 37, 118, 41], shape3, digits 8 (AA x % 18446744073709551616).toNat, shape3, digits 8 (BB x % 18446744073709551616).toNat, shape3, digits 8 (CC x % 18446744073709551616).toNat] 0) = ⟨(59 :: 32 :: r).toArray⟩ := by
  have ht : FmtText.text "fmt.Sprintf" [[59, 32, 82, 40, 37, 118, 41, 32, 58, 61, 32, 82, 75, 40, 37, 118, 41, 32, 42, 32, 82, 75, 40, 37, 118, 41], shape3, digits 8 (AA x % 18446744073709551616).toNat, shape3, digits 8 (BB x % 18446744073709551616).toNat, shape3, digits 8 (CC x % 18446744073709551616).toNat] = some (59 :: 32 :: ([82, 40] ++ Lib.itoa (AA x) ++ [41, 32, 58, 61, 32, 82, 75, 40] ++ Lib.itoa (BB x) ++ [41, 32, 42, 32, 82, 75, 40] ++ Lib.itoa (CC x) ++ [41])) := by
    rw [FmtText.text_sprintf_glued p17 (FmtText.operands_cons (FmtText.operand_int_at (sh := shape3) (k := .i64) rfl rfl (AA x) (AA_w x)) (FmtText.operands_cons (FmtText.operand_int_at (sh := shape3) (k := .i64) rfl rfl (BB x) (BB_w x)) (FmtText.operands_cons (FmtText.operand_int_at (sh := shape3) (k := .i64) rfl rfl (CC x) (CC_w x)) FmtText.operands_nil)))]
    simp [FmtText.render, FmtText.printArg_v _ _ (AA_w x), FmtText.printArg_v _ _ (BB_w x), FmtText.printArg_v _ _ (CC_w x)]
  have lAA := FmtText.itoa_length_le (AA_w x)
  have lBB := FmtText.itoa_length_le (BB_w x)
  have lCC := FmtText.itoa_length_le (CC_w x)
  refine ⟨[82, 40] ++ Lib.itoa (AA x) ++ [41, 32, 58, 61, 32, 82, 75, 40] ++ Lib.itoa (BB x) ++ [41, 32, 42, 32, 82, 75, 40] ++ Lib.itoa (CC x) ++ [41], ?_, ?_⟩
  · simp
    omega
  · refine textOf_told F ht ?_
    simp
    omega
theorem p18 : (FmtText.parse [59, 32, 82, 40, 37, 118, 41, 32, 58, 61, 32, 82, 75, 40, 37, 118, 41, 32, 47, 32, 82, 75, 40, 37, 118, 41]).map FmtText.glue = some [.lit [59, 32, 82, 40], .verb {} 118, .lit [41, 32, 58, 61, 32, 82, 75, 40], .verb {} 118, .lit [41, 32, 47, 32, 82, 75, 40], .verb {} 118, .lit [41]] := by rfl
set_option maxHeartbeats 1000000 in
theorem tail18 (F : Interp) (x : Int) : ∃ r : List UInt8, r.length ≤ 900 ∧ FmtStop.textOf (F.told "fmt.Sprintf" [[59, 32, 82, 40, 37, 118, 41, 32, 58, 61, 32, 82, 75, 40, 37, 118, 41, 32, 47, 32, 82, 75, 40, 37, 118, 41], shape3, digits 8 (AA x % 18446744073709551616).toNat, shape3, digits 8 (BB x % 18446744073709551616).toNat, shape3, digits 8 (CC x % 18446744073709551616).toNat] 0) = ⟨(59 :: 32 :: r).toArray⟩ := by
  have ht : FmtText.text "fmt.Sprintf" [[59, 32, 82, 40, 37, 118, 41, 32, 58, 61, 32, 82, 75, 40, 37, 118, 41, 32, 47, 32, 82, 75, 40, 37, 118, 41], shape3, digits 8 (AA x % 18446744073709551616).toNat, shape3, digits 8 (BB x % 18446744073709551616).toNat, shape3, digits 8 (CC x % 18446744073709551616).toNat] = some (59 :: 32 :: ([82, 40] ++ Lib.itoa (AA x) ++ [41, 32, 58, 61, 32, 82, 75, 40] ++ Lib.itoa (BB x) ++ [41, 32, 47, 32, 82, 75, 40] ++ Lib.itoa (CC x) ++ [41])) := by
    rw [FmtText.text_sprintf_glued p18 (FmtText.operands_cons (FmtText.operand_int_at (sh := shape3) (k := .i64) rfl rfl (AA x) (AA_w x)) (FmtText.operands_cons (FmtText.operand_int_at (sh := shape3) (k := .i64) rfl rfl (BB x) (BB_w x)) (FmtText.operands_cons (FmtText.operand_int_at (sh := shape3) (k := .i64) rfl rfl (CC x) (CC_w x)) FmtText.operands_nil)))]
    simp [FmtText.render, FmtText.printArg_v _ _ (AA_w x), FmtText.printArg_v _ _ (BB_w x), FmtText.printArg_v _ _ (CC_w x)]
  have lAA := FmtText.itoa_length_le (AA_w x)
  have lBB := FmtText.itoa_length_le (BB_w x)
  have lCC := FmtText.itoa_length_le (CC_w x)
  refine ⟨[82, 40] ++ Lib.itoa (AA x) ++ [41, 32, 58, 61, 32, 82, 75, 40] ++ Lib.itoa (BB x) ++ [41, 32, 47, 32, 82, 75, 40] ++ Lib.itoa (CC x) ++ [41], ?_, ?_⟩
  · simp
    omega
  · refine textOf_told F ht ?_
    simp
    omega
theorem p19 : (FmtText.parse [59, 32, 82, 40, 37, 118, 41, 32, 58, 61, 32, 82, 75, 40, 37, 118, 41, 32, 37, 37, 32, 82, 75, 40, 37, 118, 41]).map FmtText.glue = some [.lit [59, 32, 82, 40], .verb {} 118, .lit [41, 32, 58, 61, 32, 82, 75, 40], .verb {} 118, .lit [41, 32, 37, 32, 82, 75, 40], .verb {} 118, .lit [41]] := by rfl
set_option maxHeartbeats 1000000 in
theorem tail19 (F : Interp) (x : Int) : ∃ r : List UInt8, r.length ≤ 900 ∧ FmtStop.textOf (F.told "fmt.Sprintf" [[59, 32, 82, 40, 37, 118, 41, 32, 58, 61, 32, 82, 75, 40, 37, 118, 41, 32, 37, 37, 32, 82, 75, 40, 37, 118, 41], shape3, digits 8 (AA x % 18446744073709551616).toNat, shape3, digits 8 (BB x % 18446744073709551616).toNat, shape3, digits 8 (CC x % 18446744073709551616).toNat] 0) = ⟨(59 :: 32 :: r).toArray⟩ := by
  have ht : FmtText.text "fmt.Sprintf" [[59, 32, 82, 40, 37, 118, 41, 32, 58, 61, 32, 82, 75, 40, 37, 118, 41, 32, 37, 37, 32, 82, 75, 40, 37, 118, 41], shape3, digits 8 (AA x % 18446744073709551616).toNat, shape3, digits 8 (BB x % 18446744073709551616).toNat, shape3, digits 8 (CC x % 18446744073709551616).toNat] = some (59 :: 32 :: ([82, 40] ++ Lib.itoa (AA x) ++ [41, 32, 58, 61, 32, 82, 75, 40] ++ Lib.itoa (BB x) ++ [41, 32, 37, 32, 82, 75, 40] ++ Lib.itoa (CC x) ++ [41])) := by
    rw [FmtText.text_sprintf_glued p19 (FmtText.operands_cons (FmtText.operand_int_at (sh := shape3) (k := .i64) rfl rfl (AA x) (AA_w x)) (FmtText.operands_cons (FmtText.operand_int_at (sh := shape3) (k := .i64) rfl rfl (BB x) (BB_w x)) (FmtText.operands_cons (FmtText.operand_int_at (sh := shape3) (k := .i64) rfl rfl (CC x) (CC_w x)) FmtText.operands_nil)))]
    simp [FmtText.render, FmtText.printArg_v _ _ (AA_w x), FmtText.printArg_v _ _ (BB_w x), FmtText.printArg_v _ _ (CC_w x)]
  have lAA := FmtText.itoa_length_le (AA_w x)
  have lBB := FmtText.itoa_length_le (BB_w x)
  have lCC := FmtText.itoa_length_le (CC_w x)
  refine ⟨[82, 40] ++ Lib.itoa (AA x) ++ [41, 32, 58, 61, 32, 82, 75, 40] ++ Lib.itoa (BB x) ++ [41, 32, 37, 32, 82, 75, 40] ++ Lib.itoa (CC x) ++ [41], ?_, ?_⟩
  · simp
    omega
  · refine textOf_told F ht ?_
    simp
    omega
theorem p20 : (FmtText.parse [59, 32, 82, 40, 37, 118, 41, 32, 58, 61, 32, 82, 75, 40, 37, 118, 41, 32, 94, 32, 82, 75, 40, 37, 118, 41]).map FmtText.glue = some [.lit [59, 32, 82, 40], .verb {} 118, .lit [41, 32, 58, 61, 32, 82, 75, 40], .verb {} 118, .lit [41, 32, 94, 32, 82, 75, 40], .verb {} 118, .lit [41]] := by rfl
set_option maxHeartbeats 1000000 in
theorem tail20 (F : Interp) (x : Int) : ∃ r : List UInt8, r.length ≤ 900 ∧ FmtStop.textOf (F.told "fmt.Sprintf" [[59, 32, 82, 40, 37, 118, 41, 32, 58, 61, 32, 82, 75, 40, 37, 118, 41, 32, 94, 32, 82, 75, 40, 37, 118, 41], shape3, digits 8 (AA x % 18446744073709551616).toNat, shape3, digits 8 (BB x % 18446744073709551616).toNat, shape3, digits 8 (CC x % 18446744073709551616).toNat] 0) = ⟨(59 :: 32 :: r).toArray⟩ := by
  have ht : FmtText.text "fmt.Sprintf" [[59, 32, 82, 40, 37, 118, 41, 32, 58, 61, 32, 82, 75, 40, 37, 118, 41, 32, 94, 32, 82, 75, 40, 37, 118, 41], shape3, digits 8 (AA x % 18446744073709551616).toNat, shape3, digits 8 (BB x % 18446744073709551616).toNat, shape3, digits 8 (CC x % 18446744073709551616).toNat] = some (59 :: 32 :: ([82, 40] ++ Lib.itoa (AA x) ++ [41, 32, 58, 61, 32, 82, 75, 40] ++ Lib.itoa (BB x) ++ [41, 32, 94, 32, 82, 75, 40] ++ Lib.itoa (CC x) ++ [41])) := by
    rw [FmtText.text_sprintf_glued p20 (FmtText.operands_cons (FmtText.operand_int_at (sh := shape3) (k := .i64) rfl rfl (AA x) (AA_w x)) (FmtText.operands_cons (FmtText.operand_int_at (sh := shape3) (k := .i64) rfl rfl (BB x) (BB_w x)) (FmtText.operands_cons (FmtText.operand_int_at (sh := shape3) (k := .i64) rfl rfl (CC x) (CC_w x)) FmtText.operands_nil)))]
    simp [FmtText.render, FmtText.printArg_v _ _ (AA_w x), FmtText.printArg_v _ _ (BB_w x), FmtText.printArg_v _ _ (CC_w x)]
  have lAA := FmtText.itoa_length_le (AA_w x)
  have lBB := FmtText.itoa_length_le (BB_w x)
  have lCC := FmtText.itoa_length_le (CC_w x)
  refine ⟨[82, 40] ++ Lib.itoa (AA x) ++ [41, 32, 58, 61, 32, 82, 75, 40] ++ Lib.itoa (BB x) ++ [41, 32, 94, 32, 82, 75, 40] ++ Lib.itoa (CC x) ++ [41], ?_, ?_⟩
  · simp
    omega
  · refine textOf_told F ht ?_
    simp
    omega
theorem p21 : (FmtText.parse [59, 32, 82, 40, 37, 118, 41, 32, 58, 61, 32, 45, 82, 40, 37, 118, 41]).map FmtText.glue = some [.lit [59, 32, 82, 40], .verb {} 118, .lit [41, 32, 58, 61, 32, 45, 82, 40], .verb {} 118, .lit [41]] := by rfl
set_option maxHeartbeats 1000000 in
theorem tail21 (F : Interp) (x : Int) : ∃ r : List UInt8, r.length ≤ 900 ∧ FmtStop.textOf (F.told "fmt.Sprintf" [[59, 32, 82, 40, 37, 118, 41, 32, 58, 61, 32, 45, 82, 40, 37, 118, 41], shape3, digits 8 (AA x % 18446744073709551616).toNat, shape3, digits 8 (BB x % 18446744073709551616).toNat] 0) = ⟨(59 :: 32 :: r).toArray⟩ := by
  have ht : FmtText.text "fmt.Sprintf" [[59, 32, 82, 40, 37, 118, 41, 32, 58, 61, 32, 45, 82, 40, 37, 118, 41], shape3, digits 8 (AA x % 18446744073709551616).toNat, shape3, digits 8 (BB x % 18446744073709551616).toNat] = some (59 :: 32 :: ([82, 40] ++ Lib.itoa (AA x) ++ [41, 32, 58, 61, 32, 45, 82, 40] ++ Lib.itoa (BB x) ++ [41])) := by
    rw [FmtText.text_sprintf_glued p21 (FmtText.operands_cons (FmtText.operand_int_at (sh := shape3) (k := .i64) rfl rfl (AA x) (AA_w x)) (FmtText.operands_cons (FmtText.operand_int_at (sh := shape3) (k := .i64) rfl rfl (BB x) (BB_w x)) FmtText.operands_nil))]
    simp [FmtText.render, FmtText.printArg_v _ _ (AA_w x), FmtText.printArg_v _ _ (BB_w x)]
  have lAA := FmtText.itoa_length_le (AA_w x)
  have lBB := FmtText.itoa_length_le (BB_w x)
  refine ⟨[82, 40] ++ Lib.itoa (AA x) ++ [41, 32, 58, 61, 32, 45, 82, 40] ++ Lib.itoa (BB x) ++ [41], ?_, ?_⟩
  · simp
    omega
  · refine textOf_told F ht ?_
    simp
    omega
theorem p22 : (FmtText.parse [59, 32, 82, 40, 37, 118, 41, 32, 58, 61, 32, 110, 111, 116, 32, 82, 40, 37, 118, 41]).map FmtText.glue = some [.lit [59, 32, 82, 40], .verb {} 118, .lit [41, 32, 58, 61, 32, 110, 111, 116, 32, 82, 40], .verb {} 118, .lit [41]] := by rfl
set_option maxHeartbeats 1000000 in
theorem tail22 (F : Interp) (x : Int) : ∃ r : List UInt8, r.length ≤ 900 ∧ FmtStop.textOf (F.told "fmt.Sprintf" [[59, 32, 82, 40, 37, 118, 41, 32, 58, 61, 32, 110, 111, 116, 32, 82, 40, 37, 118, 41], shape3, digits 8 (AA x % 18446744073709551616).toNat, shape3, digits 8 (BB x % 18446744073709551616).toNat] 0) = ⟨(59 :: 32 :: r).toArray⟩ := by
  have ht : FmtText.text "fmt.Sprintf" [[59, 32, 82, 40, 37, 118, 41, 32, 58, 61, 32, 110, 111, 116, 32, 82, 40, 37, 118, 41], shape3, digits 8 (AA x % 18446744073709551616).toNat, shape3, digits 8 (BB x % 18446744073709551616).toNat] = some (59 :: 32 :: ([82, 40] ++ Lib.itoa (AA x) ++ [41, 32, 58, 61, 32, 110, 111, 116, 32, 82, 40] ++ Lib.itoa (BB x) ++ [41])) := by
    rw [FmtText.text_sprintf_glued p22 (FmtText.operands_cons (FmtText.operand_int_at (sh := shape3) (k := .i64) rfl rfl (AA x) (AA_w x)) (FmtText.operands_cons (FmtText.operand_int_at (sh := shape3) (k := .i64) rfl rfl (BB x) (BB_w x)) FmtText.operands_nil))]
    simp [FmtText.render, FmtText.printArg_v _ _ (AA_w x), FmtText.printArg_v _ _ (BB_w x)]
  have lAA := FmtText.itoa_length_le (AA_w x)
  have lBB := FmtText.itoa_length_le (BB_w x)
  refine ⟨[82, 40] ++ Lib.itoa (AA x) ++ [41, 32, 58, 61, 32, 110, 111, 116, 32, 82, 40] ++ Lib.itoa (BB x) ++ [41], ?_, ?_⟩
  · simp
    omega
  · refine textOf_told F ht ?_
    simp
    omega
theorem p23 : (FmtText.parse [59, 32, 82, 40, 37, 118, 41, 32, 58, 61, 32, 108, 101, 110, 103, 116, 104, 32, 111, 102, 32, 82, 40, 37, 118, 41]).map FmtText.glue = some [.lit [59, 32, 82, 40], .verb {} 118, .lit [41, 32, 58, 61, 32, 108, 101, 110, 103, 116, 104, 32, 111, 102, 32, 82, 40], .verb {} 118, .lit [41]] := by rfl
set_option maxHeartbeats 1000000 in
theorem tail23 (F : Interp) (x : Int) : ∃ r : List UInt8, r.length ≤ 900 ∧ FmtStop.textOf (F.told "fmt.Sprintf" [[59, 32, 82, 40, 37, 118, 41, 32, 58, 61, 32, 108, 101, 110, 103, 116, 104, 32, 111, 102, 32, 82, 40, 37, 118, 41], shape3, digits 8 (AA x % 18446744073709551616).toNat, shape3, digits 8 (BB x % 18446744073709551616).toNat] 0) = ⟨(59 :: 32 :: r).toArray⟩ := by
  have ht : FmtText.text "fmt.Sprintf" [[59, 32, 82, 40, 37, 118, 41, 32, 58, 61, 32, 108, 101, 110, 103, 116, 104, 32, 111, 102, 32, 82, 40, 37, 118, 41], shape3, digits 8 (AA x % 18446744073709551616).toNat, shape3, digits 8 (BB x % 18446744073709551616).toNat] = some (59 :: 32 :: ([82, 40] ++ Lib.itoa (AA x) ++ [41, 32, 58, 61, 32, 108, 101, 110, 103, 116, 104, 32, 111, 102, 32, 82, 40] ++ Lib.itoa (BB x) ++ [41])) := by
    rw [FmtText.text_sprintf_glued p23 (FmtText.operands_cons (FmtText.operand_int_at (sh := shape3) (k := .i64) rfl rfl (AA x) (AA_w x)) (FmtText.operands_cons (FmtText.operand_int_at (sh := shape3) (k := .i64) rfl rfl (BB x) (BB_w x)) FmtText.operands_nil))]
    simp [FmtText.render, FmtText.printArg_v _ _ (AA_w x), FmtText.printArg_v _ _ (BB_w x)]
  have lAA := FmtText.itoa_length_le (AA_w x)
  have lBB := FmtText.itoa_length_le (BB_w x)
  refine ⟨[82, 40] ++ Lib.itoa (AA x) ++ [41, 32, 58, 61, 32, 108, 101, 110, 103, 116, 104, 32, 111, 102, 32, 82, 40] ++ Lib.itoa (BB x) ++ [41], ?_, ?_⟩
  · simp
    omega
  · refine textOf_told F ht ?_
    simp
    omega
theorem p24 : (FmtText.parse [59, 32, 82, 40, 37, 118, 41, 32, 58, 61, 32, 82, 40, 37, 118, 41, 46, 46, 32, 46, 46, 46, 32, 46, 46, 82, 40, 37, 118, 41]).map FmtText.glue = some [.lit [59, 32, 82, 40], .verb {} 118, .lit [41, 32, 58, 61, 32, 82, 40], .verb {} 118, .lit [41, 46, 46, 32, 46, 46, 46, 32, 46, 46, 82, 40], .verb {} 118, .lit [41]] := by rfl
set_option maxHeartbeats 1000000 in
theorem tail24 (F : Interp) (x : Int) : ∃ r : List UInt8, r.length ≤ 900 ∧ FmtStop.textOf (F.told "fmt.Sprintf" [[59, 32, 82, 40, 37, 118, 41, 32, 58, 61, 32, 82, 40, 37, 118, 41, 46, 46, 32, 46, 46, 46, 32, 46, 46, 82, 40, 37, 118, 41], shape3, digits 8 (AA x % 18446744073709551616).toNat, shape3, digits 8 (BB x % 18446744073709551616).toNat, shape3, digits 8 (CC x % 18446744073709551616).toNat] 0) = ⟨(59 :: 32 :: r).toArray⟩ := by
  have ht : FmtText.text "fmt.Sprintf" [[59, 32, 82, 40, 37, 118, 41, 32, 58, 61, 32, 82, 40, 37, 118, 41, 46, 46, 32, 46, 46, 46, 32, 46, 46, 82, 40, 37, 118, 41], shape3, digits 8 (AA x % 18446744073709551616).toNat, shape3, digits 8 (BB x % 18446744073709551616).toNat, shape3, digits 8 (CC x % 18446744073709551616).toNat] = some (59 :: 32 :: ([82, 40] ++ Lib.itoa (AA x) ++ [41, 32, 58, 61, 32, 82, 40] ++ Lib.itoa (BB x) ++ [41, 46, 46, 32, 46, 46, 46, 32, 46, 46, 82, 40] ++ Lib.itoa (CC x) ++ [41])) := by
    rw [FmtText.text_sprintf_glued p24 (FmtText.operands_cons (FmtText.operand_int_at (sh := shape3) (k := .i64) rfl rfl (AA x) (AA_w x)) (FmtText.operands_cons (FmtText.operand_int_at (sh := shape3) (k := .i64) rfl rfl (BB x) (BB_w x)) (FmtText.operands_cons (FmtText.operand_int_at (sh := shape3) (k := .i64) rfl rfl (CC x) (CC_w x)) FmtText.operands_nil)))]
    simp [FmtText.render, FmtText.printArg_v _ _ (AA_w x), FmtText.printArg_v _ _ (BB_w x), FmtText.printArg_v _ _ (CC_w x)]
  have lAA := FmtText.itoa_length_le (AA_w x)
  have lBB := FmtText.itoa_length_le (BB_w x)
  have lCC := FmtText.itoa_length_le (CC_w x)
  refine ⟨[82, 40] ++ Lib.itoa (AA x) ++ [41, 32, 58, 61, 32, 82, 40] ++ Lib.itoa (BB x) ++ [41, 46, 46, 32, 46, 46, 46, 32, 46, 46, 82, 40] ++ Lib.itoa (CC x) ++ [41], ?_, ?_⟩
  · simp
    omega
  · refine textOf_told F ht ?_
    simp
    omega
theorem p25 : (FmtText.parse [59, 32, 112, 99, 43, 61, 37, 118]).map FmtText.glue = some [.lit [59, 32, 112, 99, 43, 61], .verb {} 118] := by rfl
set_option maxHeartbeats 1000000 in
theorem tail25 (F : Interp) (x : Int) : ∃ r : List UInt8, r.length ≤ 900 ∧ FmtStop.textOf (F.told "fmt.Sprintf" [[59, 32, 112, 99, 43, 61, 37, 118], shape3, digits 8 (SX x % 18446744073709551616).toNat] 0) = ⟨(59 :: 32 :: r).toArray⟩ := by
  have ht : FmtText.text "fmt.Sprintf" [[59, 32, 112, 99, 43, 61, 37, 118], shape3, digits 8 (SX x % 18446744073709551616).toNat] = some (59 :: 32 :: ([112, 99, 43, 61] ++ Lib.itoa (SX x))) := by
    rw [FmtText.text_sprintf_glued p25 (FmtText.operands_cons (FmtText.operand_int_at (sh := shape3) (k := .i64) rfl rfl (SX x) (SX_w x)) FmtText.operands_nil)]
    simp [FmtText.render, FmtText.printArg_v _ _ (SX_w x)]
  have lSX := FmtText.itoa_length_le (SX_w x)
  refine ⟨[112, 99, 43, 61] ++ Lib.itoa (SX x), ?_, ?_⟩
  · simp
    omega
  · refine textOf_told F ht ?_
    simp
    omega
theorem p26 : (FmtText.parse [59, 32, 105, 102, 32, 40, 40, 82, 75, 40, 37, 118, 41, 32, 61, 61, 32, 82, 75, 40, 37, 118, 41, 41, 32, 126, 61, 32, 37, 118, 41, 32, 116, 104, 101, 110, 32, 112, 99, 43, 43]).map FmtText.glue = some [.lit [59, 32, 105, 102, 32, 40, 40, 82, 75, 40], .verb {} 118, .lit [41, 32, 61, 61, 32, 82, 75, 40], .verb {} 118, .lit [41, 41, 32, 126, 61, 32], .verb {} 118, .lit [41, 32, 116, 104, 101, 110, 32, 112, 99, 43, 43]] := by rfl
set_option maxHeartbeats 1000000 in
theorem tail26 (F : Interp) (x : Int) : ∃ r : List UInt8, r.length ≤ 900 ∧ FmtStop.textOf (F.told "fmt.Sprintf" [[59, 32, 105, 102, 32, 40, 40, 82, 75, 40, 37, 118, 41, 32, 61, 61, 32, 82, 75, 40, 37, 118, 41, 41, 32, 126, 61, 32, 37, 118, 41, 32, 116, 104, 101, 110, 32, 112, 99, 43, 43], shape3, digits 8 (BB x % 18446744073709551616).toNat, shape3, digits 8 (CC x % 18446744073709551616).toNat, shape3, digits 8 (AA x % 18446744073709551616).toNat] 0) = ⟨(59 :: 32 :: r).toArray⟩ := by
  have ht : FmtText.text "fmt.Sprintf" [[59, 32, 105, 102, 32, 40, 40, 82, 75, 40, 37, 118, 41, 32, 61, 61, 32, 82, 75, 40, 37, 118, 41, 41, 32, 126, 61, 32, 37, 118, 41, 32, 116, 104, 101, 110, 32, 112, 99, 43, 43], shape3, digits 8 (BB x % 18446744073709551616).toNat, shape3, digits 8 (CC x % 18446744073709551616).toNat, shape3, digits 8 (AA x % 18446744073709551616).toNat] = some (59 :: 32 :: ([105, 102, 32, 40, 40, 82, 75, 40] ++ Lib.itoa (BB x) ++ [41, 32, 61, 61, 32, 82, 75, 40] ++ Lib.itoa (CC x) ++ [41, 41, 32, 126, 61, 32] ++ Lib.itoa (AA x) ++ [41, 32, 116, 104, 101, 110, 32, 112, 99, 43, 43])) := by
    rw [FmtText.text_sprintf_glued p26 (FmtText.operands_cons (FmtText.operand_int_at (sh := shape3) (k := .i64) rfl rfl (BB x) (BB_w x)) (FmtText.operands_cons (FmtText.operand_int_at (sh := shape3) (k := .i64) rfl rfl (CC x) (CC_w x)) (FmtText.operands_cons (FmtText.operand_int_at (sh := shape3) (k := .i64) rfl rfl (AA x) (AA_w x)) FmtText.operands_nil)))]
    simp [FmtText.render, FmtText.printArg_v _ _ (AA_w x), FmtText.printArg_v _ _ (BB_w x), FmtText.printArg_v _ _ (CC_w x)]
  have lAA := FmtText.itoa_length_le (AA_w x)
  have lBB := FmtText.itoa_length_le (BB_w x)
  have lCC := FmtText.itoa_length_le (CC_w x)
  refine ⟨[105, 102, 32, 40, 40, 82, 75, 40] ++ Lib.itoa (BB x) ++ [41, 32, 61, 61, 32, 82, 75, 40] ++ Lib.itoa (CC x) ++ [41, 41, 32, 126, 61, 32] ++ Lib.itoa (AA x) ++ [41, 32, 116, 104, 101, 110, 32, 112, 99, 43, 43], ?_, ?_⟩
  · simp
    omega
  · refine textOf_told F ht ?_
    simp
    omega
theorem p27 : (FmtText.parse [59, 32, 105, 102, 32, 40, 40, 82, 75, 40, 37, 118, 41, 32, 60, 32, 32, 82, 75, 40, 37, 118, 41, 41, 32, 126, 61, 32, 37, 118, 41, 32, 116, 104, 101, 110, 32, 112, 99, 43, 43]).map FmtText.glue = some [.lit [59, 32, 105, 102, 32, 40, 40, 82, 75, 40], .verb {} 118, .lit [41, 32, 60, 32, 32, 82, 75, 40], .verb {} 118, .lit [41, 41, 32, 126, 61, 32], .verb {} 118, .lit [41, 32, 116, 104, 101, 110, 32, 112, 99, 43, 43]] := by rfl
set_option maxHeartbeats 1000000 in
theorem tail27 (F : Interp) (x : Int) : ∃ r : List UInt8, r.length ≤ 900 ∧ FmtStop.textOf (F.told "fmt.Sprintf" [[59, 32, 105, 102, 32, 40, 40, 82, 75, 40, 37, 118, 41, 32, 60, 32, 32, 82, 75, 40, 37, 118, 41, 41, 32, 126, 61, 32, 37, 118, 41, 32, 116, 104, 101, 110, 32, 112, 99, 43, 43], shape3, digits 8 (BB x % 18446744073709551616).toNat, shape3, digits 8 (CC x % 18446744073709551616).toNat, shape3, digits 8 (AA x % 18446744073709551616).toNat] 0) = ⟨(59 :: 32 :: r).toArray⟩ := by
  have ht : FmtText.text "fmt.Sprintf" [[59, 32, 105, 102, 32, 40, 40, 82, 75, 40, 37, 118, 41, 32, 60, 32, 32, 82, 75, 40, 37, 118, 41, 41, 32, 126, 61, 32, 37, 118, 41, 32, 116, 104, 101, 110, 32, 112, 99, 43, 43], shape3, digits 8 (BB x % 18446744073709551616).toNat, shape3, digits 8 (CC x % 18446744073709551616).toNat, shape3, digits 8 (AA x % 18446744073709551616).toNat] = some (59 :: 32 :: ([105, 102, 32, 40, 40, 82, 75, 40] ++ Lib.itoa (BB x) ++ [41, 32, 60, 32, 32, 82, 75, 40] ++ Lib.itoa (CC x) ++ [41, 41, 32, 126, 61, 32] ++ Lib.itoa (AA x) ++ [41, 32, 116, 104, 101, 110, 32, 112, 99, 43, 43])) := by
    rw [FmtText.text_sprintf_glued p27 (FmtText.operands_cons (FmtText.operand_int_at (sh := shape3) (k := .i64) rfl rfl (BB x) (BB_w x)) (FmtText.operands_cons (FmtText.operand_int_at (sh := shape3) (k := .i64) rfl rfl (CC x) (CC_w x)) (FmtText.operands_cons (FmtText.operand_int_at (sh := shape3) (k := .i64) rfl rfl (AA x) (AA_w x)) FmtText.operands_nil)))]
    simp [FmtText.render, FmtText.printArg_v _ _ (AA_w x), FmtText.printArg_v _ _ (BB_w x), FmtText.printArg_v _ _ (CC_w x)]
  have lAA := FmtText.itoa_length_le (AA_w x)
  have lBB := FmtText.itoa_length_le (BB_w x)
  have lCC := FmtText.itoa_length_le (CC_w x)
  refine ⟨[105, 102, 32, 40, 40, 82, 75, 40] ++ Lib.itoa (BB x) ++ [41, 32, 60, 32, 32, 82, 75, 40] ++ Lib.itoa (CC x) ++ [41, 41, 32, 126, 61, 32] ++ Lib.itoa (AA x) ++ [41, 32, 116, 104, 101, 110, 32, 112, 99, 43, 43], ?_, ?_⟩
  · simp
    omega
  · refine textOf_told F ht ?_
    simp
    omega
theorem p28 : (FmtText.parse [59, 32, 105, 102, 32, 40, 40, 82, 75, 40, 37, 118, 41, 32, 60, 61, 32, 82, 75, 40, 37, 118, 41, 41, 32, 126, 61, 32, 37, 118, 41, 32, 116, 104, 101, 110, 32, 112, 99, 43, 43]).map FmtText.glue = some [.lit [59, 32, 105, 102, 32, 40, 40, 82, 75, 40], .verb {} 118, .lit [41, 32, 60, 61, 32, 82, 75, 40], .verb {} 118, .lit [41, 41, 32, 126, 61, 32], .verb {} 118, .lit [41, 32, 116, 104, 101, 110, 32, 112, 99, 43, 43]] := by rfl
set_option maxHeartbeats 1000000 in
theorem tail28 (F : Interp) (x : Int) : ∃ r : List UInt8, r.length ≤ 900 ∧ FmtStop.textOf (F.told "fmt.Sprintf" [[59, 32, 105, 102, 32, 40, 40, 82, 75, 40, 37, 118, 41, 32, 60, 61, 32, 82, 75, 40, 37, 118, 41, 41, 32, 126, 61, 32, 37, 118, 41, 32, 116, 104, 101, 110, 32, 112, 99, 43, 43], shape3, digits 8 (BB x % 18446744073709551616).toNat, shape3, digits 8 (CC x % 18446744073709551616).toNat, shape3, digits 8 (AA x % 18446744073709551616).toNat] 0) = ⟨(59 :: 32 :: r).toArray⟩ := by
  have ht : FmtText.text "fmt.Sprintf" [[59, 32, 105, 102, 32, 40, 40, 82, 75, 40, 37, 118, 41, 32, 60, 61, 32, 82, 75, 40, 37, 118, 41, 41, 32, 126, 61, 32, 37, 118, 41, 32, 116, 104, 101, 110, 32, 112, 99, 43, 43], shape3, digits 8 (BB x % 18446744073709551616).toNat, shape3, digits 8 (CC x % 18446744073709551616).toNat, shape3, digits 8 (AA x % 18446744073709551616).toNat] = some (59 :: 32 :: ([105, 102, 32, 40, 40, 82, 75, 40] ++ Lib.itoa (BB x) ++ [41, 32, 60, 61, 32, 82, 75, 40] ++ Lib.itoa (CC x) ++ [41, 41, 32, 126, 61, 32] ++ Lib.itoa (AA x) ++ [41, 32, 116, 104, 101, 110, 32, 112, 99, 43, 43])) := by
    rw [FmtText.text_sprintf_glued p28 (FmtText.operands_cons (FmtText.operand_int_at (sh := shape3) (k := .i64) rfl rfl (BB x) (BB_w x)) (FmtText.operands_cons (FmtText.operand_int_at (sh := shape3) (k := .i64) rfl rfl (CC x) (CC_w x)) (FmtText.operands_cons (FmtText.operand_int_at (sh := shape3) (k := .i64) rfl rfl (AA x) (AA_w x)) FmtText.operands_nil)))]
    simp [FmtText.render, FmtText.printArg_v _ _ (AA_w x), FmtText.printArg_v _ _ (BB_w x), FmtText.printArg_v _ _ (CC_w x)]
  have lAA := FmtText.itoa_length_le (AA_w x)
  have lBB := FmtText.itoa_length_le (BB_w x)
  have lCC := FmtText.itoa_length_le (CC_w x)
  refine ⟨[105, 102, 32, 40, 40, 82, 75, 40] ++ Lib.itoa (BB x) ++ [41, 32, 60, 61, 32, 82, 75, 40] ++ Lib.itoa (CC x) ++ [41, 41, 32, 126, 61, 32] ++ Lib.itoa (AA x) ++ [41, 32, 116, 104, 101, 110, 32, 112, 99, 43, 43], ?_, ?_⟩
  · simp
    omega
  · refine textOf_told F ht ?_
    simp
    omega
theorem p29 : (FmtText.parse [59, 32, 105, 102, 32, 110, 111, 116, 32, 40, 82, 40, 37, 118, 41, 32, 60, 61, 62, 32, 37, 118, 41, 32, 116, 104, 101, 110, 32, 112, 99, 43, 43]).map FmtText.glue = some [.lit [59, 32, 105, 102, 32, 110, 111, 116, 32, 40, 82, 40], .verb {} 118, .lit [41, 32, 60, 61, 62, 32], .verb {} 118, .lit [41, 32, 116, 104, 101, 110, 32, 112, 99, 43, 43]] := by rfl
set_option maxHeartbeats 1000000 in
theorem tail29 (F : Interp) (x : Int) : ∃ r : List UInt8, r.length ≤ 900 ∧ FmtStop.textOf (F.told "fmt.Sprintf" [[59, 32, 105, 102, 32, 110, 111, 116, 32, 40, 82, 40, 37, 118, 41, 32, 60, 61, 62, 32, 37, 118, 41, 32, 116, 104, 101, 110, 32, 112, 99, 43, 43], shape3, digits 8 (AA x % 18446744073709551616).toNat, shape3, digits 8 (CC x % 18446744073709551616).toNat] 0) = ⟨(59 :: 32 :: r).toArray⟩ := by
  have ht : FmtText.text "fmt.Sprintf" [[59, 32, 105, 102, 32, 110, 111, 116, 32, 40, 82, 40, 37, 118, 41, 32, 60, 61, 62, 32, 37, 118, 41, 32, 116, 104, 101, 110, 32, 112, 99, 43, 43], shape3, digits 8 (AA x % 18446744073709551616).toNat, shape3, digits 8 (CC x % 18446744073709551616).toNat] = some (59 :: 32 :: ([105, 102, 32, 110, 111, 116, 32, 40, 82, 40] ++ Lib.itoa (AA x) ++ [41, 32, 60, 61, 62, 32] ++ Lib.itoa (CC x) ++ [41, 32, 116, 104, 101, 110, 32, 112, 99, 43, 43])) := by
    rw [FmtText.text_sprintf_glued p29 (FmtText.operands_cons (FmtText.operand_int_at (sh := shape3) (k := .i64) rfl rfl (AA x) (AA_w x)) (FmtText.operands_cons (FmtText.operand_int_at (sh := shape3) (k := .i64) rfl rfl (CC x) (CC_w x)) FmtText.operands_nil))]
    simp [FmtText.render, FmtText.printArg_v _ _ (AA_w x), FmtText.printArg_v _ _ (CC_w x)]
  have lAA := FmtText.itoa_length_le (AA_w x)
  have lCC := FmtText.itoa_length_le (CC_w x)
  refine ⟨[105, 102, 32, 110, 111, 116, 32, 40, 82, 40] ++ Lib.itoa (AA x) ++ [41, 32, 60, 61, 62, 32] ++ Lib.itoa (CC x) ++ [41, 32, 116, 104, 101, 110, 32, 112, 99, 43, 43], ?_, ?_⟩
  · simp
    omega
  · refine textOf_told F ht ?_
    simp
    omega
theorem p30 : (FmtText.parse [59, 32, 105, 102, 32, 40, 82, 40, 37, 118, 41, 32, 60, 61, 62, 32, 37, 118, 41, 32, 116, 104, 101, 110, 32, 82, 40, 37, 118, 41, 32, 58, 61, 32, 82, 40, 37, 118, 41, 32, 101, 108, 115, 101, 32, 112, 99, 43, 43]).map FmtText.glue = some [.lit [59, 32, 105, 102, 32, 40, 82, 40], .verb {} 118, .lit [41, 32, 60, 61, 62, 32], .verb {} 118, .lit [41, 32, 116, 104, 101, 110, 32, 82, 40], .verb {} 118, .lit [41, 32, 58, 61, 32, 82, 40], .verb {} 118, .lit [41, 32, 101, 108, 115, 101, 32, 112, 99, 43, 43]] := by rfl
set_option maxHeartbeats 1000000 in
theorem tail30 (F : Interp) (x : Int) : ∃ r : List UInt8, r.length ≤ 900 ∧ FmtStop.textOf (F.told "fmt.Sprintf" [[59, 32, 105, 102, 32, 40, 82, 40, 37, 118, 41, 32, 60, 61, 62, 32, 37, 118, 41, 32, 116, 104, 101, 110, 32, 82, 40, 37, 118, 41, 32, 58, 61, 32, 82, 40, 37, 118, 41, 32, 101, 108, 115, 101, 32, 112, 99, 43, 43], shape3, digits 8 (BB x % 18446744073709551616).toNat, shape3, digits 8 (CC x % 18446744073709551616).toNat, shape3, digits 8 (AA x % 18446744073709551616).toNat, shape3, digits 8 (BB x % 18446744073709551616).toNat] 0) = ⟨(59 :: 32 :: r).toArray⟩ := by
  have ht : FmtText.text "fmt.Sprintf" [[59, 32, 105, 102, 32, 40, 82, 40, 37, 118, 41, 32, 60, 61, 62, 32, 37, 118, 41, 32, 116, 104, 101, 110, 32, 82, 40, 37, 118, 41, 32, 58, 61, 32, 82, 40, 37, 118, 41, 32, 101, 108, 115, 101, 32, 112, 99, 43, 43], shape3, digits 8 (BB x % 18446744073709551616).toNat, shape3, digits 8 (CC x % 18446744073709551616).toNat, shape3, digits 8 (AA x % 18446744073709551616).toNat, shape3, digits 8 (BB x % 18446744073709551616).toNat] = some (59 :: 32 :: ([105, 102, 32, 40, 82, 40] ++ Lib.itoa (BB x) ++ [41, 32, 60, 61, 62, 32] ++ Lib.itoa (CC x) ++ [41, 32, 116, 104, 101, 110, 32, 82, 40] ++ Lib.itoa (AA x) ++ [41, 32, 58, 61, 32, 82, 40] ++ Lib.itoa (BB x) ++ [41, 32, 101, 108, 115, 101, 32, 112, 99, 43, 43])) := by
    rw [FmtText.text_sprintf_glued p30 (FmtText.operands_cons (FmtText.operand_int_at (sh := shape3) (k := .i64) rfl rfl (BB x) (BB_w x)) (FmtText.operands_cons (FmtText.operand_int_at (sh := shape3) (k := .i64) rfl rfl (CC x) (CC_w x)) (FmtText.operands_cons (FmtText.operand_int_at (sh := shape3) (k := .i64) rfl rfl (AA x) (AA_w x)) (FmtText.operands_cons (FmtText.operand_int_at (sh := shape3) (k := .i64) rfl rfl (BB x) (BB_w x)) FmtText.operands_nil))))]
    simp [FmtText.render, FmtText.printArg_v _ _ (AA_w x), FmtText.printArg_v _ _ (BB_w x), FmtText.printArg_v _ _ (CC_w x)]
  have lAA := FmtText.itoa_length_le (AA_w x)
  have lBB := FmtText.itoa_length_le (BB_w x)
  have lCC := FmtText.itoa_length_le (CC_w x)
  refine ⟨[105, 102, 32, 40, 82, 40] ++ Lib.itoa (BB x) ++ [41, 32, 60, 61, 62, 32] ++ Lib.itoa (CC x) ++ [41, 32, 116, 104, 101, 110, 32, 82, 40] ++ Lib.itoa (AA x) ++ [41, 32, 58, 61, 32, 82, 40] ++ Lib.itoa (BB x) ++ [41, 32, 101, 108, 115, 101, 32, 112, 99, 43, 43], ?_, ?_⟩
  · simp
    omega
  · refine textOf_told F ht ?_
    simp
    omega
theorem p31 : (FmtText.parse [59, 32, 82, 40, 37, 118, 41, 32, 46, 46, 46, 32, 82, 40, 37, 118, 43, 37, 118, 45, 50, 41, 32, 58, 61, 32, 82, 40, 37, 118, 41, 40, 82, 40, 37, 118, 43, 49, 41, 32, 46, 46, 46, 32, 82, 40, 37, 118, 43, 37, 118, 45, 49, 41, 41]).map FmtText.glue = some [.lit [59, 32, 82, 40], .verb {} 118, .lit [41, 32, 46, 46, 46, 32, 82, 40], .verb {} 118, .lit [43], .verb {} 118, .lit [45, 50, 41, 32, 58, 61, 32, 82, 40], .verb {} 118, .lit [41, 40, 82, 40], .verb {} 118, .lit [43, 49, 41, 32, 46, 46, 46, 32, 82, 40], .verb {} 118, .lit [43], .verb {} 118, .lit [45, 49, 41, 41]] := by rfl
set_option maxHeartbeats 1000000 in
theorem tail31 (F : Interp) (x : Int) : ∃ r : List UInt8, r.length ≤ 900 ∧ FmtStop.textOf (F.told "fmt.Sprintf" [[59, 32, 82, 40, 37, 118, 41, 32, 46, 46, 46, 32, 82, 40, 37, 118, 43, 37, 118, 45, 50, 41, 32, 58, 61, 32, 82, 40, 37, 118, 41, 40, 82, 40, 37, 118, 43, 49, 41, 32, 46, 46, 46, 32, 82, 40, 37, 118, 43, 37, 118, 45, 49, 41, 41], shape3, digits 8 (AA x % 18446744073709551616).toNat, shape3, digits 8 (AA x % 18446744073709551616).toNat, shape3, digits 8 (CC x % 18446744073709551616).toNat, shape3, digits 8 (AA x % 18446744073709551616).toNat, shape3, digits 8 (AA x % 18446744073709551616).toNat, shape3, digits 8 (AA x % 18446744073709551616).toNat, shape3, digits 8 (BB x % 18446744073709551616).toNat] 0) = ⟨(59 :: 32 :: r).toArray⟩ := by
  have ht : FmtText.text "fmt.Sprintf" [[59, 32, 82, 40, 37, 118, 41, 32, 46, 46, 46, 32, 82, 40, 37, 118, 43, 37, 118, 45, 50, 41, 32, 58, 61, 32, 82, 40, 37, 118, 41, 40, 82, 40, 37, 118, 43, 49, 41, 32, 46, 46, 46, 32, 82, 40, 37, 118, 43, 37, 118, 45, 49, 41, 41], shape3, digits 8 (AA x % 18446744073709551616).toNat, shape3, digits 8 (AA x % 18446744073709551616).toNat, shape3, digits 8 (CC x % 18446744073709551616).toNat, shape3, digits 8 (AA x % 18446744073709551616).toNat, shape3, digits 8 (AA x % 18446744073709551616).toNat, shape3, digits 8 (AA x % 18446744073709551616).toNat, shape3, digits 8 (BB x % 18446744073709551616).toNat] = some (59 :: 32 :: ([82, 40] ++ Lib.itoa (AA x) ++ [41, 32, 46, 46, 46, 32, 82, 40] ++ Lib.itoa (AA x) ++ [43] ++ Lib.itoa (CC x) ++ [45, 50, 41, 32, 58, 61, 32, 82, 40] ++ Lib.itoa (AA x) ++ [41, 40, 82, 40] ++ Lib.itoa (AA x) ++ [43, 49, 41, 32, 46, 46, 46, 32, 82, 40] ++ Lib.itoa (AA x) ++ [43] ++ Lib.itoa (BB x) ++ [45, 49, 41, 41])) := by
    rw [FmtText.text_sprintf_glued p31 (FmtText.operands_cons (FmtText.operand_int_at (sh := shape3) (k := .i64) rfl rfl (AA x) (AA_w x)) (FmtText.operands_cons (FmtText.operand_int_at (sh := shape3) (k := .i64) rfl rfl (AA x) (AA_w x)) (FmtText.operands_cons (FmtText.operand_int_at (sh := shape3) (k := .i64) rfl rfl (CC x) (CC_w x)) (FmtText.operands_cons (FmtText.operand_int_at (sh := shape3) (k := .i64) rfl rfl (AA x) (AA_w x)) (FmtText.operands_cons (FmtText.operand_int_at (sh := shape3) (k := .i64) rfl rfl (AA x) (AA_w x)) (FmtText.operands_cons (FmtText.operand_int_at (sh := shape3) (k := .i64) rfl rfl (AA x) (AA_w x)) (FmtText.operands_cons (FmtText.operand_int_at (sh := shape3) (k := .i64) rfl rfl (BB x) (BB_w x)) FmtText.operands_nil)))))))]
    simp [FmtText.render, FmtText.printArg_v _ _ (AA_w x), FmtText.printArg_v _ _ (BB_w x), FmtText.printArg_v _ _ (CC_w x)]
  have lAA := FmtText.itoa_length_le (AA_w x)
  have lBB := FmtText.itoa_length_le (BB_w x)
  have lCC := FmtText.itoa_length_le (CC_w x)
  refine ⟨[82, 40] ++ Lib.itoa (AA x) ++ [41, 32, 46, 46, 46, 32, 82, 40] ++ Lib.itoa (AA x) ++ [43] ++ Lib.itoa (CC x) ++ [45, 50, 41, 32, 58, 61, 32, 82, 40] ++ Lib.itoa (AA x) ++ [41, 40, 82, 40] ++ Lib.itoa (AA x) ++ [43, 49, 41, 32, 46, 46, 46, 32, 82, 40] ++ Lib.itoa (AA x) ++ [43] ++ Lib.itoa (BB x) ++ [45, 49, 41, 41], ?_, ?_⟩
  · simp
    omega
  · refine textOf_told F ht ?_
    simp
    omega
theorem p32 : (FmtText.parse [59, 32, 114, 101, 116, 117, 114, 110, 32, 82, 40, 37, 118, 41, 40, 82, 40, 37, 118, 43, 49, 41, 32, 46, 46, 46, 32, 82, 40, 37, 118, 43, 37, 118, 45, 49, 41, 41]).map FmtText.glue = some [.lit [59, 32, 114, 101, 116, 117, 114, 110, 32, 82, 40], .verb {} 118, .lit [41, 40, 82, 40], .verb {} 118, .lit [43, 49, 41, 32, 46, 46, 46, 32, 82, 40], .verb {} 118, .lit [43], .verb {} 118, .lit [45, 49, 41, 41]] := by rfl
set_option maxHeartbeats 1000000 in
theorem tail32 (F : Interp) (x : Int) : ∃ r : List UInt8, r.length ≤ 900 ∧ FmtStop.textOf (F.told "fmt.Sprintf" [[59, 32, 114, 101, 116, 117, 114, 110, 32, 82, 40, 37, 118, 41, 40, 82, 40, 37, 118, 43, 49, 41, 32, 46, 46, 46, 32, 82, 40, 37, 118, 43, 37, 118, 45, 49, 41, 41], shape3, digits 8 (AA x % 18446744073709551616).toNat, shape3, digits 8 (AA x % 18446744073709551616).toNat, shape3, digits 8 (AA x % 18446744073709551616).toNat, shape3, digits 8 (BB x % 18446744073709551616).toNat] 0) = ⟨(59 :: 32 :: r).toArray⟩ := by
  have ht : FmtText.text "fmt.Sprintf" [[59, 32, 114, 101, 116, 117, 114, 110, 32, 82, 40, 37, 118, 41, 40, 82, 40, 37, 118, 43, 49, 41, 32, 46, 46, 46, 32, 82, 40, 37, 118, 43, 37, 118, 45, 49, 41, 41], shape3, digits 8 (AA x % 18446744073709551616).toNat, shape3, digits 8 (AA x % 18446744073709551616).toNat, shape3, digits 8 (AA x % 18446744073709551616).toNat, shape3, digits 8 (BB x % 18446744073709551616).toNat] = some (59 :: 32 :: ([114, 101, 116, 117, 114, 110, 32, 82, 40] ++ Lib.itoa (AA x) ++ [41, 40, 82, 40] ++ Lib.itoa (AA x) ++ [43, 49, 41, 32, 46, 46, 46, 32, 82, 40] ++ Lib.itoa (AA x) ++ [43] ++ Lib.itoa (BB x) ++ [45, 49, 41, 41])) := by
    rw [FmtText.text_sprintf_glued p32 (FmtText.operands_cons (FmtText.operand_int_at (sh := shape3) (k := .i64) rfl rfl (AA x) (AA_w x)) (FmtText.operands_cons (FmtText.operand_int_at (sh := shape3) (k := .i64) rfl rfl (AA x) (AA_w x)) (FmtText.operands_cons (FmtText.operand_int_at (sh := shape3) (k := .i64) rfl rfl (AA x) (AA_w x)) (FmtText.operands_cons (FmtText.operand_int_at (sh := shape3) (k := .i64) rfl rfl (BB x) (BB_w x)) FmtText.operands_nil))))]
    simp [FmtText.render, FmtText.printArg_v _ _ (AA_w x), FmtText.printArg_v _ _ (BB_w x)]
  have lAA := FmtText.itoa_length_le (AA_w x)
  have lBB := FmtText.itoa_length_le (BB_w x)
  refine ⟨[114, 101, 116, 117, 114, 110, 32, 82, 40] ++ Lib.itoa (AA x) ++ [41, 40, 82, 40] ++ Lib.itoa (AA x) ++ [43, 49, 41, 32, 46, 46, 46, 32, 82, 40] ++ Lib.itoa (AA x) ++ [43] ++ Lib.itoa (BB x) ++ [45, 49, 41, 41], ?_, ?_⟩
  · simp
    omega
  · refine textOf_told F ht ?_
    simp
    omega
theorem p33 : (FmtText.parse [59, 32, 114, 101, 116, 117, 114, 110, 32, 82, 40, 37, 118, 41, 32, 46, 46, 46, 32, 82, 40, 37, 118, 43, 37, 118, 45, 50, 41]).map FmtText.glue = some [.lit [59, 32, 114, 101, 116, 117, 114, 110, 32, 82, 40], .verb {} 118, .lit [41, 32, 46, 46, 46, 32, 82, 40], .verb {} 118, .lit [43], .verb {} 118, .lit [45, 50, 41]] := by rfl
set_option maxHeartbeats 1000000 in
theorem tail33 (F : Interp) (x : Int) : ∃ r : List UInt8, r.length ≤ 900 ∧ FmtStop.textOf (F.told "fmt.Sprintf" [[59, 32, 114, 101, 116, 117, 114, 110, 32, 82, 40, 37, 118, 41, 32, 46, 46, 46, 32, 82, 40, 37, 118, 43, 37, 118, 45, 50, 41], shape3, digits 8 (AA x % 18446744073709551616).toNat, shape3, digits 8 (AA x % 18446744073709551616).toNat, shape3, digits 8 (BB x % 18446744073709551616).toNat] 0) = ⟨(59 :: 32 :: r).toArray⟩ := by
  have ht : FmtText.text "fmt.Sprintf" [[59, 32, 114, 101, 116, 117, 114, 110, 32, 82, 40, 37, 118, 41, 32, 46, 46, 46, 32, 82, 40, 37, 118, 43, 37, 118, 45, 50, 41], shape3, digits 8 (AA x % 18446744073709551616).toNat, shape3, digits 8 (AA x % 18446744073709551616).toNat, shape3, digits 8 (BB x % 18446744073709551616).toNat] = some (59 :: 32 :: ([114, 101, 116, 117, 114, 110, 32, 82, 40] ++ Lib.itoa (AA x) ++ [41, 32, 46, 46, 46, 32, 82, 40] ++ Lib.itoa (AA x) ++ [43] ++ Lib.itoa (BB x) ++ [45, 50, 41])) := by
    rw [FmtText.text_sprintf_glued p33 (FmtText.operands_cons (FmtText.operand_int_at (sh := shape3) (k := .i64) rfl rfl (AA x) (AA_w x)) (FmtText.operands_cons (FmtText.operand_int_at (sh := shape3) (k := .i64) rfl rfl (AA x) (AA_w x)) (FmtText.operands_cons (FmtText.operand_int_at (sh := shape3) (k := .i64) rfl rfl (BB x) (BB_w x)) FmtText.operands_nil)))]
    simp [FmtText.render, FmtText.printArg_v _ _ (AA_w x), FmtText.printArg_v _ _ (BB_w x)]
  have lAA := FmtText.itoa_length_le (AA_w x)
  have lBB := FmtText.itoa_length_le (BB_w x)
  refine ⟨[114, 101, 116, 117, 114, 110, 32, 82, 40] ++ Lib.itoa (AA x) ++ [41, 32, 46, 46, 46, 32, 82, 40] ++ Lib.itoa (AA x) ++ [43] ++ Lib.itoa (BB x) ++ [45, 50, 41], ?_, ?_⟩
  · simp
    omega
  · refine textOf_told F ht ?_
    simp
    omega
theorem p34 : (FmtText.parse [59, 32, 82, 40, 37, 118, 41, 43, 61, 82, 40, 37, 118, 43, 50, 41, 59, 32, 105, 102, 32, 82, 40, 37, 118, 41, 32, 60, 63, 61, 32, 82, 40, 37, 118, 43, 49, 41, 32, 116, 104, 101, 110, 32, 123, 32, 112, 99, 43, 61, 37, 118, 59, 32, 82, 40, 37, 118, 43, 51, 41, 61, 82, 40, 37, 118, 41, 32, 125]).map FmtText.glue = some [.lit [59, 32, 82, 40], .verb {} 118, .lit [41, 43, 61, 82, 40], .verb {} 118, .lit [43, 50, 41, 59, 32, 105, 102, 32, 82, 40], .verb {} 118, .lit [41, 32, 60, 63, 61, 32, 82, 40], .verb {} 118, .lit [43, 49, 41, 32, 116, 104, 101, 110, 32, 123, 32, 112, 99, 43, 61], .verb {} 118, .lit [59, 32, 82, 40], .verb {} 118, .lit [43, 51, 41, 61, 82, 40], .verb {} 118, .lit [41, 32, 125]] := by rfl
set_option maxHeartbeats 1000000 in
theorem tail34 (F : Interp) (x : Int) : ∃ r : List UInt8, r.length ≤ 900 ∧ FmtStop.textOf (F.told "fmt.Sprintf" [[59, 32, 82, 40, 37, 118, 41, 43, 61, 82, 40, 37, 118, 43, 50, 41, 59, 32, 105, 102, 32, 82, 40, 37, 118, 41, 32, 60, 63, 61, 32, 82, 40, 37, 118, 43, 49, 41, 32, 116, 104, 101, 110, 32, 123, 32, 112, 99, 43, 61, 37, 118, 59, 32, 82, 40, 37, 118, 43, 51, 41, 61, 82, 40, 37, 118, 41, 32, 125], shape3, digits 8 (AA x % 18446744073709551616).toNat, shape3, digits 8 (AA x % 18446744073709551616).toNat, shape3, digits 8 (AA x % 18446744073709551616).toNat, shape3, digits 8 (AA x % 18446744073709551616).toNat, shape3, digits 8 (SX x % 18446744073709551616).toNat, shape3, digits 8 (AA x % 18446744073709551616).toNat, shape3, digits 8 (AA x % 18446744073709551616).toNat] 0) = ⟨(59 :: 32 :: r).toArray⟩ := by
  have ht : FmtText.text "fmt.Sprintf" [[59, 32, 82, 40, 37, 118, 41, 43, 61, 82, 40, 37, 118, 43, 50, 41, 59, 32, 105, 102, 32, 82, 40, 37, 118, 41, 32, 60, 63, 61, 32, 82, 40, 37, 118, 43, 49, 41, 32, 116, 104, 101, 110, 32, 123, 32, 112, 99, 43, 61, 37, 118, 59, 32, 82, 40, 37, 118, 43, 51, 41, 61, 82, 40, 37, 118, 41, 32, 125], shape3, digits 8 (AA x % 18446744073709551616).toNat, shape3, digits 8 (AA x % 18446744073709551616).toNat, shape3, digits 8 (AA x % 18446744073709551616).toNat, shape3, digits 8 (AA x % 18446744073709551616).toNat, shape3, digits 8 (SX x % 18446744073709551616).toNat, shape3, digits 8 (AA x % 18446744073709551616).toNat, shape3, digits 8 (AA x % 18446744073709551616).toNat] = some (59 :: 32 :: ([82, 40] ++ Lib.itoa (AA x) ++ [41, 43, 61, 82, 40] ++ Lib.itoa (AA x) ++ [43, 50, 41, 59, 32, 105, 102, 32, 82, 40] ++ Lib.itoa (AA x) ++ [41, 32, 60, 63, 61, 32, 82, 40] ++ Lib.itoa (AA x) ++ [43, 49, 41, 32, 116, 104, 101, 110, 32, 123, 32, 112, 99, 43, 61] ++ Lib.itoa (SX x) ++ [59, 32, 82, 40] ++ Lib.itoa (AA x) ++ [43, 51, 41, 61, 82, 40] ++ Lib.itoa (AA x) ++ [41, 32, 125])) := by
    rw [FmtText.text_sprintf_glued p34 (FmtText.operands_cons (FmtText.operand_int_at (sh := shape3) (k := .i64) rfl rfl (AA x) (AA_w x)) (FmtText.operands_cons (FmtText.operand_int_at (sh := shape3) (k := .i64) rfl rfl (AA x) (AA_w x)) (FmtText.operands_cons (FmtText.operand_int_at (sh := shape3) (k := .i64) rfl rfl (AA x) (AA_w x)) (FmtText.operands_cons (FmtText.operand_int_at (sh := shape3) (k := .i64) rfl rfl (AA x) (AA_w x)) (FmtText.operands_cons (FmtText.operand_int_at (sh := shape3) (k := .i64) rfl rfl (SX x) (SX_w x)) (FmtText.operands_cons (FmtText.operand_int_at (sh := shape3) (k := .i64) rfl rfl (AA x) (AA_w x)) (FmtText.operands_cons (FmtText.operand_int_at (sh := shape3) (k := .i64) rfl rfl (AA x) (AA_w x)) FmtText.operands_nil)))))))]
    simp [FmtText.render, FmtText.printArg_v _ _ (AA_w x), FmtText.printArg_v _ _ (SX_w x)]
  have lAA := FmtText.itoa_length_le (AA_w x)
  have lSX := FmtText.itoa_length_le (SX_w x)
  refine ⟨[82, 40] ++ Lib.itoa (AA x) ++ [41, 43, 61, 82, 40] ++ Lib.itoa (AA x) ++ [43, 50, 41, 59, 32, 105, 102, 32, 82, 40] ++ Lib.itoa (AA x) ++ [41, 32, 60, 63, 61, 32, 82, 40] ++ Lib.itoa (AA x) ++ [43, 49, 41, 32, 116, 104, 101, 110, 32, 123, 32, 112, 99, 43, 61] ++ Lib.itoa (SX x) ++ [59, 32, 82, 40] ++ Lib.itoa (AA x) ++ [43, 51, 41, 61, 82, 40] ++ Lib.itoa (AA x) ++ [41, 32, 125], ?_, ?_⟩
  · simp
    omega
  · refine textOf_told F ht ?_
    simp
    omega
theorem p35 : (FmtText.parse [59, 32, 82, 40, 37, 118, 41, 45, 61, 82, 40, 37, 118, 43, 50, 41, 59, 32, 112, 99, 43, 61, 37, 118]).map FmtText.glue = some [.lit [59, 32, 82, 40], .verb {} 118, .lit [41, 45, 61, 82, 40], .verb {} 118, .lit [43, 50, 41, 59, 32, 112, 99, 43, 61], .verb {} 118] := by rfl
set_option maxHeartbeats 1000000 in
theorem tail35 (F : Interp) (x : Int) : ∃ r : List UInt8, r.length ≤ 900 ∧ FmtStop.textOf (F.told "fmt.Sprintf" [[59, 32, 82, 40, 37, 118, 41, 45, 61, 82, 40, 37, 118, 43, 50, 41, 59, 32, 112, 99, 43, 61, 37, 118], shape3, digits 8 (AA x % 18446744073709551616).toNat, shape3, digits 8 (AA x % 18446744073709551616).toNat, shape3, digits 8 (SX x % 18446744073709551616).toNat] 0) = ⟨(59 :: 32 :: r).toArray⟩ := by
  have ht : FmtText.text "fmt.Sprintf" [[59, 32, 82, 40, 37, 118, 41, 45, 61, 82, 40, 37, 118, 43, 50, 41, 59, 32, 112, 99, 43, 61, 37, 118], shape3, digits 8 (AA x % 18446744073709551616).toNat, shape3, digits 8 (AA x % 18446744073709551616).toNat, shape3, digits 8 (SX x % 18446744073709551616).toNat] = some (59 :: 32 :: ([82, 40] ++ Lib.itoa (AA x) ++ [41, 45, 61, 82, 40] ++ Lib.itoa (AA x) ++ [43, 50, 41, 59, 32, 112, 99, 43, 61] ++ Lib.itoa (SX x))) := by
    rw [FmtText.text_sprintf_glued p35 (FmtText.operands_cons (FmtText.operand_int_at (sh := shape3) (k := .i64) rfl rfl (AA x) (AA_w x)) (FmtText.operands_cons (FmtText.operand_int_at (sh := shape3) (k := .i64) rfl rfl (AA x) (AA_w x)) (FmtText.operands_cons (FmtText.operand_int_at (sh := shape3) (k := .i64) rfl rfl (SX x) (SX_w x)) FmtText.operands_nil)))]
    simp [FmtText.render, FmtText.printArg_v _ _ (AA_w x), FmtText.printArg_v _ _ (SX_w x)]
  have lAA := FmtText.itoa_length_le (AA_w x)
  have lSX := FmtText.itoa_length_le (SX_w x)
  refine ⟨[82, 40] ++ Lib.itoa (AA x) ++ [41, 45, 61, 82, 40] ++ Lib.itoa (AA x) ++ [43, 50, 41, 59, 32, 112, 99, 43, 61] ++ Lib.itoa (SX x), ?_, ?_⟩
  · simp
    omega
  · refine textOf_told F ht ?_
    simp
    omega
theorem p36 : (FmtText.parse [59, 32, 82, 40, 37, 118, 43, 51, 41, 32, 46, 46, 46, 32, 82, 40, 37, 118, 43, 51, 43, 37, 118, 41, 32, 58, 61, 32, 82, 40, 37, 118, 41, 40, 82, 40, 37, 118, 43, 49, 41, 32, 82, 40, 37, 118, 43, 50, 41, 41, 59, 32, 105, 102, 32, 82, 40, 37, 118, 43, 51, 41, 32, 126, 61, 32, 110, 105, 108, 32, 116, 104, 101, 110, 32, 123, 32, 112, 99, 43, 43, 59, 32, 82, 40, 37, 118, 43, 50, 41, 61, 82, 40, 37, 118, 43, 51, 41, 59, 32, 125]).map FmtText.glue = some [.lit [59, 32, 82, 40], .verb {} 118, .lit [43, 51, 41, 32, 46, 46, 46, 32, 82, 40], .verb {} 118, .lit [43, 51, 43], .verb {} 118, .lit [41, 32, 58, 61, 32, 82, 40], .verb {} 118, .lit [41, 40, 82, 40], .verb {} 118, .lit [43, 49, 41, 32, 82, 40], .verb {} 118, .lit [43, 50, 41, 41, 59, 32, 105, 102, 32, 82, 40], .verb {} 118, .lit [43, 51, 41, 32, 126, 61, 32, 110, 105, 108, 32, 116, 104, 101, 110, 32, 123, 32, 112, 99, 43, 43, 59, 32, 82, 40], .verb {} 118, .lit [43, 50, 41, 61, 82, 40], .verb {} 118, .lit [43, 51, 41, 59, 32, 125]] := by rfl
set_option maxHeartbeats 1000000 in
theorem tail36 (F : Interp) (x : Int) : ∃ r : List UInt8, r.length ≤ 900 ∧ FmtStop.textOf (F.told "fmt.Sprintf" [[59, 32, 82, 40, 37, 118, 43, 51, 41, 32, 46, 46, 46, 32, 82, 40, 37, 118, 43, 51, 43, 37, 118, 41, 32, 58, 61, 32, 82, 40, 37, 118, 41, 40, 82, 40, 37, 118, 43, 49, 41, 32, 82, 40, 37, 118, 43, 50, 41, 41, 59, 32, 105, 102, 32, 82, 40, 37, 118, 43, 51, 41, 32, 126, 61, 32, 110, 105, 108, 32, 116, 104, 101, 110, 32, 123, 32, 112, 99, 43, 43, 59, 32, 82, 40, 37, 118, 43, 50, 41, 61, 82, 40, 37, 118, 43, 51, 41, 59, 32, 125], shape3, digits 8 (AA x % 18446744073709551616).toNat, shape3, digits 8 (AA x % 18446744073709551616).toNat, shape3, digits 8 (CC x % 18446744073709551616).toNat, shape3, digits 8 (AA x % 18446744073709551616).toNat, shape3, digits 8 (AA x % 18446744073709551616).toNat, shape3, digits 8 (AA x % 18446744073709551616).toNat, shape3, digits 8 (AA x % 18446744073709551616).toNat, shape3, digits 8 (AA x % 18446744073709551616).toNat, shape3, digits 8 (AA x % 18446744073709551616).toNat] 0) = ⟨(59 :: 32 :: r).toArray⟩ := by
  have ht : FmtText.text "fmt.Sprintf" [[59, 32, 82, 40, 37, 118, 43, 51, 41, 32, 46, 46, 46, 32, 82, 40, 37, 118, 43, 51, 43, 37, 118, 41, 32, 58, 61, 32, 82, 40, 37, 118, 41, 40, 82, 40, 37, 118, 43, 49, 41, 32, 82, 40, 37, 118, 43, 50, 41, 41, 59, 32, 105, 102, 32, 82, 40, 37, 118, 43, 51, 41, 32, 126, 61, 32, 110, 105, 108, 32, 116, 104, 101, 110, 32, 123, 32, 112, 99, 43, 43, 59, 32, 82, 40, 37, 118, 43, 50, 41, 61, 82, 40, 37, 118, 43, 51, 41, 59, 32, 125], shape3, digits 8 (AA x % 18446744073709551616).toNat, shape3, digits 8 (AA x % 18446744073709551616).toNat, shape3, digits 8 (CC x % 18446744073709551616).toNat, shape3, digits 8 (AA x % 18446744073709551616).toNat, shape3, digits 8 (AA x % 18446744073709551616).toNat, shape3, digits 8 (AA x % 18446744073709551616).toNat, shape3, digits 8 (AA x % 18446744073709551616).toNat, shape3, digits 8 (AA x % 18446744073709551616).toNat, shape3, digits 8 (AA x % 18446744073709551616).toNat] = some (59 :: 32 :: ([82, 40] ++ Lib.itoa (AA x) ++ [43, 51, 41, 32, 46, 46, 46, 32, 82, 40] ++ Lib.itoa (AA x) ++ [43, 51, 43] ++ Lib.itoa (CC x) ++ [41, 32, 58, 61, 32, 82, 40] ++ Lib.itoa (AA x) ++ [41, 40, 82, 40] ++ Lib.itoa (AA x) ++ [43, 49, 41, 32, 82, 40] ++ Lib.itoa (AA x) ++ [43, 50, 41, 41, 59, 32, 105, 102, 32, 82, 40] ++ Lib.itoa (AA x) ++ [43, 51, 41, 32, 126, 61, 32, 110, 105, 108, 32, 116, 104, 101, 110, 32, 123, 32, 112, 99, 43, 43, 59, 32, 82, 40] ++ Lib.itoa (AA x) ++ [43, 50, 41, 61, 82, 40] ++ Lib.itoa (AA x) ++ [43, 51, 41, 59, 32, 125])) := by
    rw [FmtText.text_sprintf_glued p36 (FmtText.operands_cons (FmtText.operand_int_at (sh := shape3) (k := .i64) rfl rfl (AA x) (AA_w x)) (FmtText.operands_cons (FmtText.operand_int_at (sh := shape3) (k := .i64) rfl rfl (AA x) (AA_w x)) (FmtText.operands_cons (FmtText.operand_int_at (sh := shape3) (k := .i64) rfl rfl (CC x) (CC_w x)) (FmtText.operands_cons (FmtText.operand_int_at (sh := shape3) (k := .i64) rfl rfl (AA x) (AA_w x)) (FmtText.operands_cons (FmtText.operand_int_at (sh := shape3) (k := .i64) rfl rfl (AA x) (AA_w x)) (FmtText.operands_cons (FmtText.operand_int_at (sh := shape3) (k := .i64) rfl rfl (AA x) (AA_w x)) (FmtText.operands_cons (FmtText.operand_int_at (sh := shape3) (k := .i64) rfl rfl (AA x) (AA_w x)) (FmtText.operands_cons (FmtText.operand_int_at (sh := shape3) (k := .i64) rfl rfl (AA x) (AA_w x)) (FmtText.operands_cons (FmtText.operand_int_at (sh := shape3) (k := .i64) rfl rfl (AA x) (AA_w x)) FmtText.operands_nil)))))))))]
    simp [FmtText.render, FmtText.printArg_v _ _ (AA_w x), FmtText.printArg_v _ _ (CC_w x)]
  have lAA := FmtText.itoa_length_le (AA_w x)
  have lCC := FmtText.itoa_length_le (CC_w x)
  refine ⟨[82, 40] ++ Lib.itoa (AA x) ++ [43, 51, 41, 32, 46, 46, 46, 32, 82, 40] ++ Lib.itoa (AA x) ++ [43, 51, 43] ++ Lib.itoa (CC x) ++ [41, 32, 58, 61, 32, 82, 40] ++ Lib.itoa (AA x) ++ [41, 40, 82, 40] ++ Lib.itoa (AA x) ++ [43, 49, 41, 32, 82, 40] ++ Lib.itoa (AA x) ++ [43, 50, 41, 41, 59, 32, 105, 102, 32, 82, 40] ++ Lib.itoa (AA x) ++ [43, 51, 41, 32, 126, 61, 32, 110, 105, 108, 32, 116, 104, 101, 110, 32, 123, 32, 112, 99, 43, 43, 59, 32, 82, 40] ++ Lib.itoa (AA x) ++ [43, 50, 41, 61, 82, 40] ++ Lib.itoa (AA x) ++ [43, 51, 41, 59, 32, 125], ?_, ?_⟩
  · simp
    omega
  · refine textOf_told F ht ?_
    simp
    omega
theorem p37 : (FmtText.parse [59, 32, 82, 40, 37, 118, 41, 91, 40, 37, 118, 45, 49, 41, 42, 70, 80, 70, 43, 105, 93, 32, 58, 61, 32, 82, 40, 37, 118, 43, 105, 41, 32, 49, 32, 60, 61, 32, 105, 32, 60, 61, 32, 37, 118]).map FmtText.glue = some [.lit [59, 32, 82, 40], .verb {} 118, .lit [41, 91, 40], .verb {} 118, .lit [45, 49, 41, 42, 70, 80, 70, 43, 105, 93, 32, 58, 61, 32, 82, 40], .verb {} 118, .lit [43, 105, 41, 32, 49, 32, 60, 61, 32, 105, 32, 60, 61, 32], .verb {} 118] := by rfl
set_option maxHeartbeats 1000000 in
theorem tail37 (F : Interp) (x : Int) : ∃ r : List UInt8, r.length ≤ 900 ∧ FmtStop.textOf (F.told "fmt.Sprintf" [[59, 32, 82, 40, 37, 118, 41, 91, 40, 37, 118, 45, 49, 41, 42, 70, 80, 70, 43, 105, 93, 32, 58, 61, 32, 82, 40, 37, 118, 43, 105, 41, 32, 49, 32, 60, 61, 32, 105, 32, 60, 61, 32, 37, 118], shape3, digits 8 (AA x % 18446744073709551616).toNat, shape3, digits 8 (CC x % 18446744073709551616).toNat, shape3, digits 8 (AA x % 18446744073709551616).toNat, shape3, digits 8 (BB x % 18446744073709551616).toNat] 0) = ⟨(59 :: 32 :: r).toArray⟩ := by
  have ht : FmtText.text "fmt.Sprintf" [[59, 32, 82, 40, 37, 118, 41, 91, 40, 37, 118, 45, 49, 41, 42, 70, 80, 70, 43, 105, 93, 32, 58, 61, 32, 82, 40, 37, 118, 43, 105, 41, 32, 49, 32, 60, 61, 32, 105, 32, 60, 61, 32, 37, 118], shape3, digits 8 (AA x % 18446744073709551616).toNat, shape3, digits 8 (CC x % 18446744073709551616).toNat, shape3, digits 8 (AA x % 18446744073709551616).toNat, shape3, digits 8 (BB x % 18446744073709551616).toNat] = some (59 :: 32 :: ([82, 40] ++ Lib.itoa (AA x) ++ [41, 91, 40] ++ Lib.itoa (CC x) ++ [45, 49, 41, 42, 70, 80, 70, 43, 105, 93, 32, 58, 61, 32, 82, 40] ++ Lib.itoa (AA x) ++ [43, 105, 41, 32, 49, 32, 60, 61, 32, 105, 32, 60, 61, 32] ++ Lib.itoa (BB x))) := by
    rw [FmtText.text_sprintf_glued p37 (FmtText.operands_cons (FmtText.operand_int_at (sh := shape3) (k := .i64) rfl rfl (AA x) (AA_w x)) (FmtText.operands_cons (FmtText.operand_int_at (sh := shape3) (k := .i64) rfl rfl (CC x) (CC_w x)) (FmtText.operands_cons (FmtText.operand_int_at (sh := shape3) (k := .i64) rfl rfl (AA x) (AA_w x)) (FmtText.operands_cons (FmtText.operand_int_at (sh := shape3) (k := .i64) rfl rfl (BB x) (BB_w x)) FmtText.operands_nil))))]
    simp [FmtText.render, FmtText.printArg_v _ _ (AA_w x), FmtText.printArg_v _ _ (BB_w x), FmtText.printArg_v _ _ (CC_w x)]
  have lAA := FmtText.itoa_length_le (AA_w x)
  have lBB := FmtText.itoa_length_le (BB_w x)
  have lCC := FmtText.itoa_length_le (CC_w x)
  refine ⟨[82, 40] ++ Lib.itoa (AA x) ++ [41, 91, 40] ++ Lib.itoa (CC x) ++ [45, 49, 41, 42, 70, 80, 70, 43, 105, 93, 32, 58, 61, 32, 82, 40] ++ Lib.itoa (AA x) ++ [43, 105, 41, 32, 49, 32, 60, 61, 32, 105, 32, 60, 61, 32] ++ Lib.itoa (BB x), ?_, ?_⟩
  · simp
    omega
  · refine textOf_told F ht ?_
    simp
    omega
theorem p38 : (FmtText.parse [59, 32, 99, 108, 111, 115, 101, 32, 97, 108, 108, 32, 118, 97, 114, 105, 97, 98, 108, 101, 115, 32, 105, 110, 32, 116, 104, 101, 32, 115, 116, 97, 99, 107, 32, 117, 112, 32, 116, 111, 32, 40, 62, 61, 41, 32, 82, 40, 37, 118, 41]).map FmtText.glue = some [.lit [59, 32, 99, 108, 111, 115, 101, 32, 97, 108, 108, 32, 118, 97, 114, 105, 97, 98, 108, 101, 115, 32, 105, 110, 32, 116, 104, 101, 32, 115, 116, 97, 99, 107, 32, 117, 112, 32, 116, 111, 32, 40, 62, 61, 41, 32, 82, 40], .verb {} 118, .lit [41]] := by rfl
set_option maxHeartbeats 1000000 in
theorem tail38 (F : Interp) (x : Int) : ∃ r : List UInt8, r.length ≤ 900 ∧ FmtStop.textOf (F.told "fmt.Sprintf" [[59, 32, 99, 108, 111, 115, 101, 32, 97, 108, 108, 32, 118, 97, 114, 105, 97, 98, 108, 101, 115, 32, 105, 110, 32, 116, 104, 101, 32, 115, 116, 97, 99, 107, 32, 117, 112, 32, 116, 111, 32, 40, 62, 61, 41, 32, 82, 40, 37, 118, 41], shape3, digits 8 (AA x % 18446744073709551616).toNat] 0) = ⟨(59 :: 32 :: r).toArray⟩ := by
  have ht : FmtText.text "fmt.Sprintf" [[59, 32, 99, 108, 111, 115, 101, 32, 97, 108, 108, 32, 118, 97, 114, 105, 97, 98, 108, 101, 115, 32, 105, 110, 32, 116, 104, 101, 32, 115, 116, 97, 99, 107, 32, 117, 112, 32, 116, 111, 32, 40, 62, 61, 41, 32, 82, 40, 37, 118, 41], shape3, digits 8 (AA x % 18446744073709551616).toNat] = some (59 :: 32 :: ([99, 108, 111, 115, 101, 32, 97, 108, 108, 32, 118, 97, 114, 105, 97, 98, 108, 101, 115, 32, 105, 110, 32, 116, 104, 101, 32, 115, 116, 97, 99, 107, 32, 117, 112, 32, 116, 111, 32, 40, 62, 61, 41, 32, 82, 40] ++ Lib.itoa (AA x) ++ [41])) := by
    rw [FmtText.text_sprintf_glued p38 (FmtText.operands_cons (FmtText.operand_int_at (sh := shape3) (k := .i64) rfl rfl (AA x) (AA_w x)) FmtText.operands_nil)]
    simp [FmtText.render, FmtText.printArg_v _ _ (AA_w x)]
  have lAA := FmtText.itoa_length_le (AA_w x)
  refine ⟨[99, 108, 111, 115, 101, 32, 97, 108, 108, 32, 118, 97, 114, 105, 97, 98, 108, 101, 115, 32, 105, 110, 32, 116, 104, 101, 32, 115, 116, 97, 99, 107, 32, 117, 112, 32, 116, 111, 32, 40, 62, 61, 41, 32, 82, 40] ++ Lib.itoa (AA x) ++ [41], ?_, ?_⟩
  · simp
    omega
  · refine textOf_told F ht ?_
    simp
    omega
theorem p39 : (FmtText.parse [59, 32, 82, 40, 37, 118, 41, 32, 58, 61, 32, 99, 108, 111, 115, 117, 114, 101, 40, 75, 80, 82, 79, 84, 79, 91, 37, 118, 93, 32, 82, 40, 37, 118, 41, 32, 46, 46, 46, 32, 82, 40, 37, 118, 43, 110, 41, 41]).map FmtText.glue = some [.lit [59, 32, 82, 40], .verb {} 118, .lit [41, 32, 58, 61, 32, 99, 108, 111, 115, 117, 114, 101, 40, 75, 80, 82, 79, 84, 79, 91], .verb {} 118, .lit [93, 32, 82, 40], .verb {} 118, .lit [41, 32, 46, 46, 46, 32, 82, 40], .verb {} 118, .lit [43, 110, 41, 41]] := by rfl
set_option maxHeartbeats 1000000 in
theorem tail39 (F : Interp) (x : Int) : ∃ r : List UInt8, r.length ≤ 900 ∧ FmtStop.textOf (F.told "fmt.Sprintf" [[59, 32, 82, 40, 37, 118, 41, 32, 58, 61, 32, 99, 108, 111, 115, 117, 114, 101, 40, 75, 80, 82, 79, 84, 79, 91, 37, 118, 93, 32, 82, 40, 37, 118, 41, 32, 46, 46, 46, 32, 82, 40, 37, 118, 43, 110, 41, 41], shape3, digits 8 (AA x % 18446744073709551616).toNat, shape3, digits 8 (BX x % 18446744073709551616).toNat, shape3, digits 8 (AA x % 18446744073709551616).toNat, shape3, digits 8 (AA x % 18446744073709551616).toNat] 0) = ⟨(59 :: 32 :: r).toArray⟩ := by
  have ht : FmtText.text "fmt.Sprintf" [[59, 32, 82, 40, 37, 118, 41, 32, 58, 61, 32, 99, 108, 111, 115, 117, 114, 101, 40, 75, 80, 82, 79, 84, 79, 91, 37, 118, 93, 32, 82, 40, 37, 118, 41, 32, 46, 46, 46, 32, 82, 40, 37, 118, 43, 110, 41, 41], shape3, digits 8 (AA x % 18446744073709551616).toNat, shape3, digits 8 (BX x % 18446744073709551616).toNat, shape3, digits 8 (AA x % 18446744073709551616).toNat, shape3, digits 8 (AA x % 18446744073709551616).toNat] = some (59 :: 32 :: ([82, 40] ++ Lib.itoa (AA x) ++ [41, 32, 58, 61, 32, 99, 108, 111, 115, 117, 114, 101, 40, 75, 80, 82, 79, 84, 79, 91] ++ Lib.itoa (BX x) ++ [93, 32, 82, 40] ++ Lib.itoa (AA x) ++ [41, 32, 46, 46, 46, 32, 82, 40] ++ Lib.itoa (AA x) ++ [43, 110, 41, 41])) := by
    rw [FmtText.text_sprintf_glued p39 (FmtText.operands_cons (FmtText.operand_int_at (sh := shape3) (k := .i64) rfl rfl (AA x) (AA_w x)) (FmtText.operands_cons (FmtText.operand_int_at (sh := shape3) (k := .i64) rfl rfl (BX x) (BX_w x)) (FmtText.operands_cons (FmtText.operand_int_at (sh := shape3) (k := .i64) rfl rfl (AA x) (AA_w x)) (FmtText.operands_cons (FmtText.operand_int_at (sh := shape3) (k := .i64) rfl rfl (AA x) (AA_w x)) FmtText.operands_nil))))]
    simp [FmtText.render, FmtText.printArg_v _ _ (AA_w x), FmtText.printArg_v _ _ (BX_w x)]
  have lAA := FmtText.itoa_length_le (AA_w x)
  have lBX := FmtText.itoa_length_le (BX_w x)
  refine ⟨[82, 40] ++ Lib.itoa (AA x) ++ [41, 32, 58, 61, 32, 99, 108, 111, 115, 117, 114, 101, 40, 75, 80, 82, 79, 84, 79, 91] ++ Lib.itoa (BX x) ++ [93, 32, 82, 40] ++ Lib.itoa (AA x) ++ [41, 32, 46, 46, 46, 32, 82, 40] ++ Lib.itoa (AA x) ++ [43, 110, 41, 41], ?_, ?_⟩
  · simp
    omega
  · refine textOf_told F ht ?_
    simp
    omega
theorem p40 : (FmtText.parse [59, 32, 32, 82, 40, 37, 118, 41, 32, 82, 40, 37, 118, 43, 49, 41, 32, 46, 46, 46, 32, 82, 40, 37, 118, 43, 37, 118, 45, 49, 41, 32, 61, 32, 118, 97, 114, 97, 114, 103]).map FmtText.glue = some [.lit [59, 32, 32, 82, 40], .verb {} 118, .lit [41, 32, 82, 40], .verb {} 118, .lit [43, 49, 41, 32, 46, 46, 46, 32, 82, 40], .verb {} 118, .lit [43], .verb {} 118, .lit [45, 49, 41, 32, 61, 32, 118, 97, 114, 97, 114, 103]] := by rfl
set_option maxHeartbeats 1000000 in
theorem tail40 (F : Interp) (x : Int) : ∃ r : List UInt8, r.length ≤ 900 ∧ FmtStop.textOf (F.told "fmt.Sprintf" [[59, 32, 32, 82, 40, 37, 118, 41, 32, 82, 40, 37, 118, 43, 49, 41, 32, 46, 46, 46, 32, 82, 40, 37, 118, 43, 37, 118, 45, 49, 41, 32, 61, 32, 118, 97, 114, 97, 114, 103], shape3, digits 8 (AA x % 18446744073709551616).toNat, shape3, digits 8 (AA x % 18446744073709551616).toNat, shape3, digits 8 (AA x % 18446744073709551616).toNat, shape3, digits 8 (BB x % 18446744073709551616).toNat] 0) = ⟨(59 :: 32 :: r).toArray⟩ := by
  have ht : FmtText.text "fmt.Sprintf" [[59, 32, 32, 82, 40, 37, 118, 41, 32, 82, 40, 37, 118, 43, 49, 41, 32, 46, 46, 46, 32, 82, 40, 37, 118, 43, 37, 118, 45, 49, 41, 32, 61, 32, 118, 97, 114, 97, 114, 103], shape3, digits 8 (AA x % 18446744073709551616).toNat, shape3, digits 8 (AA x % 18446744073709551616).toNat, shape3, digits 8 (AA x % 18446744073709551616).toNat, shape3, digits 8 (BB x % 18446744073709551616).toNat] = some (59 :: 32 :: ([32, 82, 40] ++ Lib.itoa (AA x) ++ [41, 32, 82, 40] ++ Lib.itoa (AA x) ++ [43, 49, 41, 32, 46, 46, 46, 32, 82, 40] ++ Lib.itoa (AA x) ++ [43] ++ Lib.itoa (BB x) ++ [45, 49, 41, 32, 61, 32, 118, 97, 114, 97, 114, 103])) := by
    rw [FmtText.text_sprintf_glued p40 (FmtText.operands_cons (FmtText.operand_int_at (sh := shape3) (k := .i64) rfl rfl (AA x) (AA_w x)) (FmtText.operands_cons (FmtText.operand_int_at (sh := shape3) (k := .i64) rfl rfl (AA x) (AA_w x)) (FmtText.operands_cons (FmtText.operand_int_at (sh := shape3) (k := .i64) rfl rfl (AA x) (AA_w x)) (FmtText.operands_cons (FmtText.operand_int_at (sh := shape3) (k := .i64) rfl rfl (BB x) (BB_w x)) FmtText.operands_nil))))]
    simp [FmtText.render, FmtText.printArg_v _ _ (AA_w x), FmtText.printArg_v _ _ (BB_w x)]
  have lAA := FmtText.itoa_length_le (AA_w x)
  have lBB := FmtText.itoa_length_le (BB_w x)
  refine ⟨[32, 82, 40] ++ Lib.itoa (AA x) ++ [41, 32, 82, 40] ++ Lib.itoa (AA x) ++ [43, 49, 41, 32, 46, 46, 46, 32, 82, 40] ++ Lib.itoa (AA x) ++ [43] ++ Lib.itoa (BB x) ++ [45, 49, 41, 32, 61, 32, 118, 97, 114, 97, 114, 103], ?_, ?_⟩
  · simp
    omega
  · refine textOf_told F ht ?_
    simp
    omega
end Go.Proofs.YtddojkdaajfmcaaFmt
