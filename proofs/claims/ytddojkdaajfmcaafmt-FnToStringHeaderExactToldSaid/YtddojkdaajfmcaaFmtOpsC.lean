/- opToString, walked at each opcode: written by our program wip/mk74.py. -/
import Derived.Test.YtddojkdaajfmcaaFmtTell
import Derived.Handy
namespace Go.Proofs.YtddojkdaajfmcaaFmt
set_option linter.unusedVariables false
open Go.RowKit Go.Extern.Stop Go.Stop Go.Extern Go.Kit
set_option maxRecDepth 100000 in
set_option maxHeartbeats 4000000 in
theorem op2 (F : Interp) (x : Int) (h : 0 ≤ x ∧ x ≤ 4294967295) (w : World) (hF : F.told.answers w.tape) (b off cap : Nat) (hg : w.cell? ⟨0, 0, none⟩ = some (.slice (some ⟨b, off, none⟩) 42 cap))
    (hn : w.cell? ⟨b, off + 12, none⟩ = some (.string ⟨#[76, 79, 65, 68, 75]⟩)) (ht : w.cell? ⟨b, off + 17, none⟩ = some (.int .i64 1)) (hlt : b < w.heap.size) (hop : OP x = 2) :
    Calls Tryf.prog 7 #[.int .u32 x] w (TS [76, 79, 65, 68, 75] 1 true x w) := by
  have hF' := answers_open hF
  have g8 := get8 x h w
  rw [hop] at g8
  obtain ⟨T1, hT1⟩ : ∃ T1 : ByteArray, (⟨(HD [76, 79, 65, 68, 75] 1 x).toArray⟩ : ByteArray) = T1 := ⟨_, rfl⟩
  have t1 : FmtStop.textOf (F.told "fmt.Sprintf" [[37, 115, 32, 32, 32, 32, 32, 32, 124, 32, 32, 37, 100, 44, 32, 37, 100], shape9, FmtStop.pack [76, 79, 65, 68, 75], shape3, digits 8 (AA x % 18446744073709551616).toNat, shape3, digits 8 (BX x % 18446744073709551616).toNat] 0) = T1 := (head1 F [76, 79, 65, 68, 75] (by decide) x).trans hT1
  have s1 : T1.size ≤ 1000 := HD_size _ _ _ (by decide) hT1
  have HT1 := Lib.hid hT1
  clear hF hop hT1
  obtain ⟨r, hr, hT2⟩ := tail2 F x
  obtain ⟨T2, hT2e⟩ : ∃ T2 : ByteArray, (⟨(59 :: 32 :: r).toArray⟩ : ByteArray) = T2 := ⟨_, rfl⟩
  have t2 : FmtStop.textOf (F.told "fmt.Sprintf" [[59, 32, 82, 40, 37, 118, 41, 32, 58, 61, 32, 75, 115, 116, 40, 37, 118, 41], shape3, digits 8 (AA x % 18446744073709551616).toNat, shape3, digits 8 (BX x % 18446744073709551616).toNat] 0) = T2 := hT2.trans hT2e
  have s2 : T2.size ≤ 1000 := by rw [← hT2e]; simp only [ByteArray.size, List.size_toArray, List.length_cons]; omega
  have s3 : ¬ 9223372036854775807 < T1.size + T2.size := by omega
  have HT2 := Lib.hid hT2e
  have HR := Lib.hid hr
  clear hT2 hT2e hr s1 s2
  go_enter Tryf.func7, Tryf.ntmps7
  go_wp2_with fail
  refine g8.mono ?_
  clear g8
  rintro e w1 ⟨rfl, rfl⟩
  go_wp2_with (first | (go_at_call 9; refine (get9 x h _).mono ?_; rintro e w1 ⟨rfl, rfl⟩) | (go_at_call 10; refine (get10 x h _).mono ?_; rintro e w1 ⟨rfl, rfl⟩) | (go_at_call 11; refine (get11 x h _).mono ?_; rintro e w1 ⟨rfl, rfl⟩) | (go_at_call 12; refine (get12 x h _).mono ?_; rintro e w1 ⟨rfl, rfl⟩) | (go_at_call 13; refine (get13 x h _).mono ?_; rintro e w1 ⟨rfl, rfl⟩))
  go_ret
  refine ⟨59 :: 32 :: r, ?_, ?_, by simp only [List.length_cons]; have := HR.out; omega, .inl ⟨rfl, r, rfl⟩⟩
  · rw [← HT1.out, ← HT2.out]
    exact congrArg (fun z => Ending.returned (.string z)) (app_lists _ _)
  · go_grown
set_option maxRecDepth 100000 in
set_option maxHeartbeats 4000000 in
theorem op6 (F : Interp) (x : Int) (h : 0 ≤ x ∧ x ≤ 4294967295) (w : World) (hF : F.told.answers w.tape) (b off cap : Nat) (hg : w.cell? ⟨0, 0, none⟩ = some (.slice (some ⟨b, off, none⟩) 42 cap))
    (hn : w.cell? ⟨b, off + 36, none⟩ = some (.string ⟨#[71, 69, 84, 71, 76, 79, 66, 65, 76]⟩)) (ht : w.cell? ⟨b, off + 41, none⟩ = some (.int .i64 1)) (hlt : b < w.heap.size) (hop : OP x = 6) :
    Calls Tryf.prog 7 #[.int .u32 x] w (TS [71, 69, 84, 71, 76, 79, 66, 65, 76] 1 true x w) := by
  have hF' := answers_open hF
  have g8 := get8 x h w
  rw [hop] at g8
  obtain ⟨T1, hT1⟩ : ∃ T1 : ByteArray, (⟨(HD [71, 69, 84, 71, 76, 79, 66, 65, 76] 1 x).toArray⟩ : ByteArray) = T1 := ⟨_, rfl⟩
  have t1 : FmtStop.textOf (F.told "fmt.Sprintf" [[37, 115, 32, 32, 32, 32, 32, 32, 124, 32, 32, 37, 100, 44, 32, 37, 100], shape9, FmtStop.pack [71, 69, 84, 71, 76, 79, 66, 65, 76], shape3, digits 8 (AA x % 18446744073709551616).toNat, shape3, digits 8 (BX x % 18446744073709551616).toNat] 0) = T1 := (head1 F [71, 69, 84, 71, 76, 79, 66, 65, 76] (by decide) x).trans hT1
  have s1 : T1.size ≤ 1000 := HD_size _ _ _ (by decide) hT1
  have HT1 := Lib.hid hT1
  clear hF hop hT1
  obtain ⟨r, hr, hT2⟩ := tail6 F x
  obtain ⟨T2, hT2e⟩ : ∃ T2 : ByteArray, (⟨(59 :: 32 :: r).toArray⟩ : ByteArray) = T2 := ⟨_, rfl⟩
  have t2 : FmtStop.textOf (F.told "fmt.Sprintf" [[59, 32, 82, 40, 37, 118, 41, 32, 58, 61, 32, 71, 98, 108, 91, 75, 115, 116, 40, 37, 118, 41, 93], shape3, digits 8 (AA x % 18446744073709551616).toNat, shape3, digits 8 (BX x % 18446744073709551616).toNat] 0) = T2 := hT2.trans hT2e
  have s2 : T2.size ≤ 1000 := by rw [← hT2e]; simp only [ByteArray.size, List.size_toArray, List.length_cons]; omega
  have s3 : ¬ 9223372036854775807 < T1.size + T2.size := by omega
  have HT2 := Lib.hid hT2e
  have HR := Lib.hid hr
  clear hT2 hT2e hr s1 s2
  go_enter Tryf.func7, Tryf.ntmps7
  go_wp2_with fail
  refine g8.mono ?_
  clear g8
  rintro e w1 ⟨rfl, rfl⟩
  go_wp2_with (first | (go_at_call 9; refine (get9 x h _).mono ?_; rintro e w1 ⟨rfl, rfl⟩) | (go_at_call 10; refine (get10 x h _).mono ?_; rintro e w1 ⟨rfl, rfl⟩) | (go_at_call 11; refine (get11 x h _).mono ?_; rintro e w1 ⟨rfl, rfl⟩) | (go_at_call 12; refine (get12 x h _).mono ?_; rintro e w1 ⟨rfl, rfl⟩) | (go_at_call 13; refine (get13 x h _).mono ?_; rintro e w1 ⟨rfl, rfl⟩))
  go_ret
  refine ⟨59 :: 32 :: r, ?_, ?_, by simp only [List.length_cons]; have := HR.out; omega, .inl ⟨rfl, r, rfl⟩⟩
  · rw [← HT1.out, ← HT2.out]
    exact congrArg (fun z => Ending.returned (.string z)) (app_lists _ _)
  · go_grown
set_option maxRecDepth 100000 in
set_option maxHeartbeats 4000000 in
theorem op10 (F : Interp) (x : Int) (h : 0 ≤ x ∧ x ≤ 4294967295) (w : World) (hF : F.told.answers w.tape) (b off cap : Nat) (hg : w.cell? ⟨0, 0, none⟩ = some (.slice (some ⟨b, off, none⟩) 42 cap))
    (hn : w.cell? ⟨b, off + 60, none⟩ = some (.string ⟨#[83, 69, 84, 85, 80, 86, 65, 76]⟩)) (ht : w.cell? ⟨b, off + 65, none⟩ = some (.int .i64 0)) (hlt : b < w.heap.size) (hop : OP x = 10) :
    Calls Tryf.prog 7 #[.int .u32 x] w (TS [83, 69, 84, 85, 80, 86, 65, 76] 0 true x w) := by
  have hF' := answers_open hF
  have g8 := get8 x h w
  rw [hop] at g8
  obtain ⟨T1, hT1⟩ : ∃ T1 : ByteArray, (⟨(HD [83, 69, 84, 85, 80, 86, 65, 76] 0 x).toArray⟩ : ByteArray) = T1 := ⟨_, rfl⟩
  have t1 : FmtStop.textOf (F.told "fmt.Sprintf" [[37, 115, 32, 32, 32, 32, 32, 32, 124, 32, 32, 37, 100, 44, 32, 37, 100, 44, 32, 37, 100], shape9, FmtStop.pack [83, 69, 84, 85, 80, 86, 65, 76], shape3, digits 8 (AA x % 18446744073709551616).toNat, shape3, digits 8 (BB x % 18446744073709551616).toNat, shape3, digits 8 (CC x % 18446744073709551616).toNat] 0) = T1 := (head0 F [83, 69, 84, 85, 80, 86, 65, 76] (by decide) x).trans hT1
  have s1 : T1.size ≤ 1000 := HD_size _ _ _ (by decide) hT1
  have HT1 := Lib.hid hT1
  clear hF hop hT1
  obtain ⟨r, hr, hT2⟩ := tail10 F x
  obtain ⟨T2, hT2e⟩ : ∃ T2 : ByteArray, (⟨(59 :: 32 :: r).toArray⟩ : ByteArray) = T2 := ⟨_, rfl⟩
  have t2 : FmtStop.textOf (F.told "fmt.Sprintf" [[59, 32, 85, 112, 86, 97, 108, 117, 101, 91, 37, 118, 93, 32, 58, 61, 32, 82, 40, 37, 118, 41], shape3, digits 8 (BB x % 18446744073709551616).toNat, shape3, digits 8 (AA x % 18446744073709551616).toNat] 0) = T2 := hT2.trans hT2e
  have s2 : T2.size ≤ 1000 := by rw [← hT2e]; simp only [ByteArray.size, List.size_toArray, List.length_cons]; omega
  have s3 : ¬ 9223372036854775807 < T1.size + T2.size := by omega
  have HT2 := Lib.hid hT2e
  have HR := Lib.hid hr
  clear hT2 hT2e hr s1 s2
  go_enter Tryf.func7, Tryf.ntmps7
  go_wp2_with fail
  refine g8.mono ?_
  clear g8
  rintro e w1 ⟨rfl, rfl⟩
  go_wp2_with (first | (go_at_call 9; refine (get9 x h _).mono ?_; rintro e w1 ⟨rfl, rfl⟩) | (go_at_call 10; refine (get10 x h _).mono ?_; rintro e w1 ⟨rfl, rfl⟩) | (go_at_call 11; refine (get11 x h _).mono ?_; rintro e w1 ⟨rfl, rfl⟩) | (go_at_call 12; refine (get12 x h _).mono ?_; rintro e w1 ⟨rfl, rfl⟩) | (go_at_call 13; refine (get13 x h _).mono ?_; rintro e w1 ⟨rfl, rfl⟩))
  go_ret
  refine ⟨59 :: 32 :: r, ?_, ?_, by simp only [List.length_cons]; have := HR.out; omega, .inl ⟨rfl, r, rfl⟩⟩
  · rw [← HT1.out, ← HT2.out]
    exact congrArg (fun z => Ending.returned (.string z)) (app_lists _ _)
  · go_grown
set_option maxRecDepth 100000 in
set_option maxHeartbeats 4000000 in
theorem op14 (F : Interp) (x : Int) (h : 0 ≤ x ∧ x ≤ 4294967295) (w : World) (hF : F.told.answers w.tape) (b off cap : Nat) (hg : w.cell? ⟨0, 0, none⟩ = some (.slice (some ⟨b, off, none⟩) 42 cap))
    (hn : w.cell? ⟨b, off + 84, none⟩ = some (.string ⟨#[83, 69, 76, 70]⟩)) (ht : w.cell? ⟨b, off + 89, none⟩ = some (.int .i64 0)) (hlt : b < w.heap.size) (hop : OP x = 14) :
    Calls Tryf.prog 7 #[.int .u32 x] w (TS [83, 69, 76, 70] 0 true x w) := by
  have hF' := answers_open hF
  have g8 := get8 x h w
  rw [hop] at g8
  obtain ⟨T1, hT1⟩ : ∃ T1 : ByteArray, (⟨(HD [83, 69, 76, 70] 0 x).toArray⟩ : ByteArray) = T1 := ⟨_, rfl⟩
  have t1 : FmtStop.textOf (F.told "fmt.Sprintf" [[37, 115, 32, 32, 32, 32, 32, 32, 124, 32, 32, 37, 100, 44, 32, 37, 100, 44, 32, 37, 100], shape9, FmtStop.pack [83, 69, 76, 70], shape3, digits 8 (AA x % 18446744073709551616).toNat, shape3, digits 8 (BB x % 18446744073709551616).toNat, shape3, digits 8 (CC x % 18446744073709551616).toNat] 0) = T1 := (head0 F [83, 69, 76, 70] (by decide) x).trans hT1
  have s1 : T1.size ≤ 1000 := HD_size _ _ _ (by decide) hT1
  have HT1 := Lib.hid hT1
  clear hF hop hT1
  obtain ⟨r, hr, hT2⟩ := tail14 F x
  obtain ⟨T2, hT2e⟩ : ∃ T2 : ByteArray, (⟨(59 :: 32 :: r).toArray⟩ : ByteArray) = T2 := ⟨_, rfl⟩
  have t2 : FmtStop.textOf (F.told "fmt.Sprintf" [[59, 32, 82, 40, 37, 118, 43, 49, 41, 32, 58, 61, 32, 82, 40, 37, 118, 41, 59, 32, 82, 40, 37, 118, 41, 32, 58, 61, 32, 82, 40, 37, 118, 41, 91, 82, 75, 40, 37, 118, 41, 93], shape3, digits 8 (AA x % 18446744073709551616).toNat, shape3, digits 8 (BB x % 18446744073709551616).toNat, shape3, digits 8 (AA x % 18446744073709551616).toNat, shape3, digits 8 (BB x % 18446744073709551616).toNat, shape3, digits 8 (CC x % 18446744073709551616).toNat] 0) = T2 := hT2.trans hT2e
  have s2 : T2.size ≤ 1000 := by rw [← hT2e]; simp only [ByteArray.size, List.size_toArray, List.length_cons]; omega
  have s3 : ¬ 9223372036854775807 < T1.size + T2.size := by omega
  have HT2 := Lib.hid hT2e
  have HR := Lib.hid hr
  clear hT2 hT2e hr s1 s2
  go_enter Tryf.func7, Tryf.ntmps7
  go_wp2_with fail
  refine g8.mono ?_
  clear g8
  rintro e w1 ⟨rfl, rfl⟩
  go_wp2_with (first | (go_at_call 9; refine (get9 x h _).mono ?_; rintro e w1 ⟨rfl, rfl⟩) | (go_at_call 10; refine (get10 x h _).mono ?_; rintro e w1 ⟨rfl, rfl⟩) | (go_at_call 11; refine (get11 x h _).mono ?_; rintro e w1 ⟨rfl, rfl⟩) | (go_at_call 12; refine (get12 x h _).mono ?_; rintro e w1 ⟨rfl, rfl⟩) | (go_at_call 13; refine (get13 x h _).mono ?_; rintro e w1 ⟨rfl, rfl⟩))
  go_ret
  refine ⟨59 :: 32 :: r, ?_, ?_, by simp only [List.length_cons]; have := HR.out; omega, .inl ⟨rfl, r, rfl⟩⟩
  · rw [← HT1.out, ← HT2.out]
    exact congrArg (fun z => Ending.returned (.string z)) (app_lists _ _)
  · go_grown
set_option maxRecDepth 100000 in
set_option maxHeartbeats 4000000 in
theorem op18 (F : Interp) (x : Int) (h : 0 ≤ x ∧ x ≤ 4294967295) (w : World) (hF : F.told.answers w.tape) (b off cap : Nat) (hg : w.cell? ⟨0, 0, none⟩ = some (.slice (some ⟨b, off, none⟩) 42 cap))
    (hn : w.cell? ⟨b, off + 108, none⟩ = some (.string ⟨#[68, 73, 86]⟩)) (ht : w.cell? ⟨b, off + 113, none⟩ = some (.int .i64 0)) (hlt : b < w.heap.size) (hop : OP x = 18) :
    Calls Tryf.prog 7 #[.int .u32 x] w (TS [68, 73, 86] 0 true x w) := by
  have hF' := answers_open hF
  have g8 := get8 x h w
  rw [hop] at g8
  obtain ⟨T1, hT1⟩ : ∃ T1 : ByteArray, (⟨(HD [68, 73, 86] 0 x).toArray⟩ : ByteArray) = T1 := ⟨_, rfl⟩
  have t1 : FmtStop.textOf (F.told "fmt.Sprintf" [[37, 115, 32, 32, 32, 32, 32, 32, 124, 32, 32, 37, 100, 44, 32, 37, 100, 44, 32, 37, 100], shape9, FmtStop.pack [68, 73, 86], shape3, digits 8 (AA x % 18446744073709551616).toNat, shape3, digits 8 (BB x % 18446744073709551616).toNat, shape3, digits 8 (CC x % 18446744073709551616).toNat] 0) = T1 := (head0 F [68, 73, 86] (by decide) x).trans hT1
  have s1 : T1.size ≤ 1000 := HD_size _ _ _ (by decide) hT1
  have HT1 := Lib.hid hT1
  clear hF hop hT1
  obtain ⟨r, hr, hT2⟩ := tail18 F x
  obtain ⟨T2, hT2e⟩ : ∃ T2 : ByteArray, (⟨(59 :: 32 :: r).toArray⟩ : ByteArray) = T2 := ⟨_, rfl⟩
  have t2 : FmtStop.textOf (F.told "fmt.Sprintf" [[59, 32, 82, 40, 37, 118, 41, 32, 58, 61, 32, 82, 75, 40, 37, 118, 41, 32, 47, 32, 82, 75, 40, 37, 118, 41], shape3, digits 8 (AA x % 18446744073709551616).toNat, shape3, digits 8 (BB x % 18446744073709551616).toNat, shape3, digits 8 (CC x % 18446744073709551616).toNat] 0) = T2 := hT2.trans hT2e
  have s2 : T2.size ≤ 1000 := by rw [← hT2e]; simp only [ByteArray.size, List.size_toArray, List.length_cons]; omega
  have s3 : ¬ 9223372036854775807 < T1.size + T2.size := by omega
  have HT2 := Lib.hid hT2e
  have HR := Lib.hid hr
  clear hT2 hT2e hr s1 s2
  go_enter Tryf.func7, Tryf.ntmps7
  go_wp2_with fail
  refine g8.mono ?_
  clear g8
  rintro e w1 ⟨rfl, rfl⟩
  go_wp2_with (first | (go_at_call 9; refine (get9 x h _).mono ?_; rintro e w1 ⟨rfl, rfl⟩) | (go_at_call 10; refine (get10 x h _).mono ?_; rintro e w1 ⟨rfl, rfl⟩) | (go_at_call 11; refine (get11 x h _).mono ?_; rintro e w1 ⟨rfl, rfl⟩) | (go_at_call 12; refine (get12 x h _).mono ?_; rintro e w1 ⟨rfl, rfl⟩) | (go_at_call 13; refine (get13 x h _).mono ?_; rintro e w1 ⟨rfl, rfl⟩))
  go_ret
  refine ⟨59 :: 32 :: r, ?_, ?_, by simp only [List.length_cons]; have := HR.out; omega, .inl ⟨rfl, r, rfl⟩⟩
  · rw [← HT1.out, ← HT2.out]
    exact congrArg (fun z => Ending.returned (.string z)) (app_lists _ _)
  · go_grown
set_option maxRecDepth 100000 in
set_option maxHeartbeats 4000000 in
theorem op22 (F : Interp) (x : Int) (h : 0 ≤ x ∧ x ≤ 4294967295) (w : World) (hF : F.told.answers w.tape) (b off cap : Nat) (hg : w.cell? ⟨0, 0, none⟩ = some (.slice (some ⟨b, off, none⟩) 42 cap))
    (hn : w.cell? ⟨b, off + 132, none⟩ = some (.string ⟨#[78, 79, 84]⟩)) (ht : w.cell? ⟨b, off + 137, none⟩ = some (.int .i64 0)) (hlt : b < w.heap.size) (hop : OP x = 22) :
    Calls Tryf.prog 7 #[.int .u32 x] w (TS [78, 79, 84] 0 true x w) := by
  have hF' := answers_open hF
  have g8 := get8 x h w
  rw [hop] at g8
  obtain ⟨T1, hT1⟩ : ∃ T1 : ByteArray, (⟨(HD [78, 79, 84] 0 x).toArray⟩ : ByteArray) = T1 := ⟨_, rfl⟩
  have t1 : FmtStop.textOf (F.told "fmt.Sprintf" [[37, 115, 32, 32, 32, 32, 32, 32, 124, 32, 32, 37, 100, 44, 32, 37, 100, 44, 32, 37, 100], shape9, FmtStop.pack [78, 79, 84], shape3, digits 8 (AA x % 18446744073709551616).toNat, shape3, digits 8 (BB x % 18446744073709551616).toNat, shape3, digits 8 (CC x % 18446744073709551616).toNat] 0) = T1 := (head0 F [78, 79, 84] (by decide) x).trans hT1
  have s1 : T1.size ≤ 1000 := HD_size _ _ _ (by decide) hT1
  have HT1 := Lib.hid hT1
  clear hF hop hT1
  obtain ⟨r, hr, hT2⟩ := tail22 F x
  obtain ⟨T2, hT2e⟩ : ∃ T2 : ByteArray, (⟨(59 :: 32 :: r).toArray⟩ : ByteArray) = T2 := ⟨_, rfl⟩
  have t2 : FmtStop.textOf (F.told "fmt.Sprintf" [[59, 32, 82, 40, 37, 118, 41, 32, 58, 61, 32, 110, 111, 116, 32, 82, 40, 37, 118, 41], shape3, digits 8 (AA x % 18446744073709551616).toNat, shape3, digits 8 (BB x % 18446744073709551616).toNat] 0) = T2 := hT2.trans hT2e
  have s2 : T2.size ≤ 1000 := by rw [← hT2e]; simp only [ByteArray.size, List.size_toArray, List.length_cons]; omega
  have s3 : ¬ 9223372036854775807 < T1.size + T2.size := by omega
  have HT2 := Lib.hid hT2e
  have HR := Lib.hid hr
  clear hT2 hT2e hr s1 s2
  go_enter Tryf.func7, Tryf.ntmps7
  go_wp2_with fail
  refine g8.mono ?_
  clear g8
  rintro e w1 ⟨rfl, rfl⟩
  go_wp2_with (first | (go_at_call 9; refine (get9 x h _).mono ?_; rintro e w1 ⟨rfl, rfl⟩) | (go_at_call 10; refine (get10 x h _).mono ?_; rintro e w1 ⟨rfl, rfl⟩) | (go_at_call 11; refine (get11 x h _).mono ?_; rintro e w1 ⟨rfl, rfl⟩) | (go_at_call 12; refine (get12 x h _).mono ?_; rintro e w1 ⟨rfl, rfl⟩) | (go_at_call 13; refine (get13 x h _).mono ?_; rintro e w1 ⟨rfl, rfl⟩))
  go_ret
  refine ⟨59 :: 32 :: r, ?_, ?_, by simp only [List.length_cons]; have := HR.out; omega, .inl ⟨rfl, r, rfl⟩⟩
  · rw [← HT1.out, ← HT2.out]
    exact congrArg (fun z => Ending.returned (.string z)) (app_lists _ _)
  · go_grown
set_option maxRecDepth 100000 in
set_option maxHeartbeats 4000000 in
theorem op26 (F : Interp) (x : Int) (h : 0 ≤ x ∧ x ≤ 4294967295) (w : World) (hF : F.told.answers w.tape) (b off cap : Nat) (hg : w.cell? ⟨0, 0, none⟩ = some (.slice (some ⟨b, off, none⟩) 42 cap))
    (hn : w.cell? ⟨b, off + 156, none⟩ = some (.string ⟨#[69, 81]⟩)) (ht : w.cell? ⟨b, off + 161, none⟩ = some (.int .i64 0)) (hlt : b < w.heap.size) (hop : OP x = 26) :
    Calls Tryf.prog 7 #[.int .u32 x] w (TS [69, 81] 0 true x w) := by
  have hF' := answers_open hF
  have g8 := get8 x h w
  rw [hop] at g8
  obtain ⟨T1, hT1⟩ : ∃ T1 : ByteArray, (⟨(HD [69, 81] 0 x).toArray⟩ : ByteArray) = T1 := ⟨_, rfl⟩
  have t1 : FmtStop.textOf (F.told "fmt.Sprintf" [[37, 115, 32, 32, 32, 32, 32, 32, 124, 32, 32, 37, 100, 44, 32, 37, 100, 44, 32, 37, 100], shape9, FmtStop.pack [69, 81], shape3, digits 8 (AA x % 18446744073709551616).toNat, shape3, digits 8 (BB x % 18446744073709551616).toNat, shape3, digits 8 (CC x % 18446744073709551616).toNat] 0) = T1 := (head0 F [69, 81] (by decide) x).trans hT1
  have s1 : T1.size ≤ 1000 := HD_size _ _ _ (by decide) hT1
  have HT1 := Lib.hid hT1
  clear hF hop hT1
  obtain ⟨r, hr, hT2⟩ := tail26 F x
  obtain ⟨T2, hT2e⟩ : ∃ T2 : ByteArray, (⟨(59 :: 32 :: r).toArray⟩ : ByteArray) = T2 := ⟨_, rfl⟩
  have t2 : FmtStop.textOf (F.told "fmt.Sprintf" [[59, 32, 105, 102, 32, 40, 40, 82, 75, 40, 37, 118, 41, 32, 61, 61, 32, 82, 75, 40, 37, 118, 41, 41, 32, 126, 61, 32, 37, 118, 41, 32, 116, 104, 101, 110, 32, 112, 99, 43, 43], shape3, digits 8 (BB x % 18446744073709551616).toNat, shape3, digits 8 (CC x % 18446744073709551616).toNat, shape3, digits 8 (AA x % 18446744073709551616).toNat] 0) = T2 := hT2.trans hT2e
  have s2 : T2.size ≤ 1000 := by rw [← hT2e]; simp only [ByteArray.size, List.size_toArray, List.length_cons]; omega
  have s3 : ¬ 9223372036854775807 < T1.size + T2.size := by omega
  have HT2 := Lib.hid hT2e
  have HR := Lib.hid hr
  clear hT2 hT2e hr s1 s2
  go_enter Tryf.func7, Tryf.ntmps7
  go_wp2_with fail
  refine g8.mono ?_
  clear g8
  rintro e w1 ⟨rfl, rfl⟩
  go_wp2_with (first | (go_at_call 9; refine (get9 x h _).mono ?_; rintro e w1 ⟨rfl, rfl⟩) | (go_at_call 10; refine (get10 x h _).mono ?_; rintro e w1 ⟨rfl, rfl⟩) | (go_at_call 11; refine (get11 x h _).mono ?_; rintro e w1 ⟨rfl, rfl⟩) | (go_at_call 12; refine (get12 x h _).mono ?_; rintro e w1 ⟨rfl, rfl⟩) | (go_at_call 13; refine (get13 x h _).mono ?_; rintro e w1 ⟨rfl, rfl⟩))
  go_ret
  refine ⟨59 :: 32 :: r, ?_, ?_, by simp only [List.length_cons]; have := HR.out; omega, .inl ⟨rfl, r, rfl⟩⟩
  · rw [← HT1.out, ← HT2.out]
    exact congrArg (fun z => Ending.returned (.string z)) (app_lists _ _)
  · go_grown
set_option maxRecDepth 100000 in
set_option maxHeartbeats 4000000 in
theorem op30 (F : Interp) (x : Int) (h : 0 ≤ x ∧ x ≤ 4294967295) (w : World) (hF : F.told.answers w.tape) (b off cap : Nat) (hg : w.cell? ⟨0, 0, none⟩ = some (.slice (some ⟨b, off, none⟩) 42 cap))
    (hn : w.cell? ⟨b, off + 180, none⟩ = some (.string ⟨#[84, 69, 83, 84, 83, 69, 84]⟩)) (ht : w.cell? ⟨b, off + 185, none⟩ = some (.int .i64 0)) (hlt : b < w.heap.size) (hop : OP x = 30) :
    Calls Tryf.prog 7 #[.int .u32 x] w (TS [84, 69, 83, 84, 83, 69, 84] 0 true x w) := by
  have hF' := answers_open hF
  have g8 := get8 x h w
  rw [hop] at g8
  obtain ⟨T1, hT1⟩ : ∃ T1 : ByteArray, (⟨(HD [84, 69, 83, 84, 83, 69, 84] 0 x).toArray⟩ : ByteArray) = T1 := ⟨_, rfl⟩
  have t1 : FmtStop.textOf (F.told "fmt.Sprintf" [[37, 115, 32, 32, 32, 32, 32, 32, 124, 32, 32, 37, 100, 44, 32, 37, 100, 44, 32, 37, 100], shape9, FmtStop.pack [84, 69, 83, 84, 83, 69, 84], shape3, digits 8 (AA x % 18446744073709551616).toNat, shape3, digits 8 (BB x % 18446744073709551616).toNat, shape3, digits 8 (CC x % 18446744073709551616).toNat] 0) = T1 := (head0 F [84, 69, 83, 84, 83, 69, 84] (by decide) x).trans hT1
  have s1 : T1.size ≤ 1000 := HD_size _ _ _ (by decide) hT1
  have HT1 := Lib.hid hT1
  clear hF hop hT1
  obtain ⟨r, hr, hT2⟩ := tail30 F x
  obtain ⟨T2, hT2e⟩ : ∃ T2 : ByteArray, (⟨(59 :: 32 :: r).toArray⟩ : ByteArray) = T2 := ⟨_, rfl⟩
  have t2 : FmtStop.textOf (F.told "fmt.Sprintf" [[59, 32, 105, 102, 32, 40, 82, 40, 37, 118, 41, 32, 60, 61, 62, 32, 37, 118, 41, 32, 116, 104, 101, 110, 32, 82, 40, 37, 118, 41, 32, 58, 61, 32, 82, 40, 37, 118, 41, 32, 101, 108, 115, 101, 32, 112, 99, 43, 43], shape3, digits 8 (BB x % 18446744073709551616).toNat, shape3, digits 8 (CC x % 18446744073709551616).toNat, shape3, digits 8 (AA x % 18446744073709551616).toNat, shape3, digits 8 (BB x % 18446744073709551616).toNat] 0) = T2 := hT2.trans hT2e
  have s2 : T2.size ≤ 1000 := by rw [← hT2e]; simp only [ByteArray.size, List.size_toArray, List.length_cons]; omega
  have s3 : ¬ 9223372036854775807 < T1.size + T2.size := by omega
  have HT2 := Lib.hid hT2e
  have HR := Lib.hid hr
  clear hT2 hT2e hr s1 s2
  go_enter Tryf.func7, Tryf.ntmps7
  go_wp2_with fail
  refine g8.mono ?_
  clear g8
  rintro e w1 ⟨rfl, rfl⟩
  go_wp2_with (first | (go_at_call 9; refine (get9 x h _).mono ?_; rintro e w1 ⟨rfl, rfl⟩) | (go_at_call 10; refine (get10 x h _).mono ?_; rintro e w1 ⟨rfl, rfl⟩) | (go_at_call 11; refine (get11 x h _).mono ?_; rintro e w1 ⟨rfl, rfl⟩) | (go_at_call 12; refine (get12 x h _).mono ?_; rintro e w1 ⟨rfl, rfl⟩) | (go_at_call 13; refine (get13 x h _).mono ?_; rintro e w1 ⟨rfl, rfl⟩))
  go_ret
  refine ⟨59 :: 32 :: r, ?_, ?_, by simp only [List.length_cons]; have := HR.out; omega, .inl ⟨rfl, r, rfl⟩⟩
  · rw [← HT1.out, ← HT2.out]
    exact congrArg (fun z => Ending.returned (.string z)) (app_lists _ _)
  · go_grown
set_option maxRecDepth 100000 in
set_option maxHeartbeats 4000000 in
theorem op34 (F : Interp) (x : Int) (h : 0 ≤ x ∧ x ≤ 4294967295) (w : World) (hF : F.told.answers w.tape) (b off cap : Nat) (hg : w.cell? ⟨0, 0, none⟩ = some (.slice (some ⟨b, off, none⟩) 42 cap))
    (hn : w.cell? ⟨b, off + 204, none⟩ = some (.string ⟨#[70, 79, 82, 76, 79, 79, 80]⟩)) (ht : w.cell? ⟨b, off + 209, none⟩ = some (.int .i64 2)) (hlt : b < w.heap.size) (hop : OP x = 34) :
    Calls Tryf.prog 7 #[.int .u32 x] w (TS [70, 79, 82, 76, 79, 79, 80] 2 true x w) := by
  have hF' := answers_open hF
  have g8 := get8 x h w
  rw [hop] at g8
  obtain ⟨T1, hT1⟩ : ∃ T1 : ByteArray, (⟨(HD [70, 79, 82, 76, 79, 79, 80] 2 x).toArray⟩ : ByteArray) = T1 := ⟨_, rfl⟩
  have t1 : FmtStop.textOf (F.told "fmt.Sprintf" [[37, 115, 32, 32, 32, 32, 32, 32, 124, 32, 32, 37, 100, 44, 32, 37, 100], shape9, FmtStop.pack [70, 79, 82, 76, 79, 79, 80], shape3, digits 8 (AA x % 18446744073709551616).toNat, shape3, digits 8 (SX x % 18446744073709551616).toNat] 0) = T1 := (head2 F [70, 79, 82, 76, 79, 79, 80] (by decide) x).trans hT1
  have s1 : T1.size ≤ 1000 := HD_size _ _ _ (by decide) hT1
  have HT1 := Lib.hid hT1
  clear hF hop hT1
  obtain ⟨r, hr, hT2⟩ := tail34 F x
  obtain ⟨T2, hT2e⟩ : ∃ T2 : ByteArray, (⟨(59 :: 32 :: r).toArray⟩ : ByteArray) = T2 := ⟨_, rfl⟩
  have t2 : FmtStop.textOf (F.told "fmt.Sprintf" [[59, 32, 82, 40, 37, 118, 41, 43, 61, 82, 40, 37, 118, 43, 50, 41, 59, 32, 105, 102, 32, 82, 40, 37, 118, 41, 32, 60, 63, 61, 32, 82, 40, 37, 118, 43, 49, 41, 32, 116, 104, 101, 110, 32, 123, 32, 112, 99, 43, 61, 37, 118, 59, 32, 82, 40, 37, 118, 43, 51, 41, 61, 82, 40, 37, 118, 41, 32, 125], shape3, digits 8 (AA x % 18446744073709551616).toNat, shape3, digits 8 (AA x % 18446744073709551616).toNat, shape3, digits 8 (AA x % 18446744073709551616).toNat, shape3, digits 8 (AA x % 18446744073709551616).toNat, shape3, digits 8 (SX x % 18446744073709551616).toNat, shape3, digits 8 (AA x % 18446744073709551616).toNat, shape3, digits 8 (AA x % 18446744073709551616).toNat] 0) = T2 := hT2.trans hT2e
  have s2 : T2.size ≤ 1000 := by rw [← hT2e]; simp only [ByteArray.size, List.size_toArray, List.length_cons]; omega
  have s3 : ¬ 9223372036854775807 < T1.size + T2.size := by omega
  have HT2 := Lib.hid hT2e
  have HR := Lib.hid hr
  clear hT2 hT2e hr s1 s2
  go_enter Tryf.func7, Tryf.ntmps7
  go_wp2_with fail
  refine g8.mono ?_
  clear g8
  rintro e w1 ⟨rfl, rfl⟩
  go_wp2_with (first | (go_at_call 9; refine (get9 x h _).mono ?_; rintro e w1 ⟨rfl, rfl⟩) | (go_at_call 10; refine (get10 x h _).mono ?_; rintro e w1 ⟨rfl, rfl⟩) | (go_at_call 11; refine (get11 x h _).mono ?_; rintro e w1 ⟨rfl, rfl⟩) | (go_at_call 12; refine (get12 x h _).mono ?_; rintro e w1 ⟨rfl, rfl⟩) | (go_at_call 13; refine (get13 x h _).mono ?_; rintro e w1 ⟨rfl, rfl⟩))
  go_ret
  refine ⟨59 :: 32 :: r, ?_, ?_, by simp only [List.length_cons]; have := HR.out; omega, .inl ⟨rfl, r, rfl⟩⟩
  · rw [← HT1.out, ← HT2.out]
    exact congrArg (fun z => Ending.returned (.string z)) (app_lists _ _)
  · go_grown
set_option maxRecDepth 100000 in
set_option maxHeartbeats 4000000 in
theorem op38 (F : Interp) (x : Int) (h : 0 ≤ x ∧ x ≤ 4294967295) (w : World) (hF : F.told.answers w.tape) (b off cap : Nat) (hg : w.cell? ⟨0, 0, none⟩ = some (.slice (some ⟨b, off, none⟩) 42 cap))
    (hn : w.cell? ⟨b, off + 228, none⟩ = some (.string ⟨#[67, 76, 79, 83, 69]⟩)) (ht : w.cell? ⟨b, off + 233, none⟩ = some (.int .i64 0)) (hlt : b < w.heap.size) (hop : OP x = 38) :
    Calls Tryf.prog 7 #[.int .u32 x] w (TS [67, 76, 79, 83, 69] 0 true x w) := by
  have hF' := answers_open hF
  have g8 := get8 x h w
  rw [hop] at g8
  obtain ⟨T1, hT1⟩ : ∃ T1 : ByteArray, (⟨(HD [67, 76, 79, 83, 69] 0 x).toArray⟩ : ByteArray) = T1 := ⟨_, rfl⟩
  have t1 : FmtStop.textOf (F.told "fmt.Sprintf" [[37, 115, 32, 32, 32, 32, 32, 32, 124, 32, 32, 37, 100, 44, 32, 37, 100, 44, 32, 37, 100], shape9, FmtStop.pack [67, 76, 79, 83, 69], shape3, digits 8 (AA x % 18446744073709551616).toNat, shape3, digits 8 (BB x % 18446744073709551616).toNat, shape3, digits 8 (CC x % 18446744073709551616).toNat] 0) = T1 := (head0 F [67, 76, 79, 83, 69] (by decide) x).trans hT1
  have s1 : T1.size ≤ 1000 := HD_size _ _ _ (by decide) hT1
  have HT1 := Lib.hid hT1
  clear hF hop hT1
  obtain ⟨r, hr, hT2⟩ := tail38 F x
  obtain ⟨T2, hT2e⟩ : ∃ T2 : ByteArray, (⟨(59 :: 32 :: r).toArray⟩ : ByteArray) = T2 := ⟨_, rfl⟩
  have t2 : FmtStop.textOf (F.told "fmt.Sprintf" [[59, 32, 99, 108, 111, 115, 101, 32, 97, 108, 108, 32, 118, 97, 114, 105, 97, 98, 108, 101, 115, 32, 105, 110, 32, 116, 104, 101, 32, 115, 116, 97, 99, 107, 32, 117, 112, 32, 116, 111, 32, 40, 62, 61, 41, 32, 82, 40, 37, 118, 41], shape3, digits 8 (AA x % 18446744073709551616).toNat] 0) = T2 := hT2.trans hT2e
  have s2 : T2.size ≤ 1000 := by rw [← hT2e]; simp only [ByteArray.size, List.size_toArray, List.length_cons]; omega
  have s3 : ¬ 9223372036854775807 < T1.size + T2.size := by omega
  have HT2 := Lib.hid hT2e
  have HR := Lib.hid hr
  clear hT2 hT2e hr s1 s2
  go_enter Tryf.func7, Tryf.ntmps7
  go_wp2_with fail
  refine g8.mono ?_
  clear g8
  rintro e w1 ⟨rfl, rfl⟩
  go_wp2_with (first | (go_at_call 9; refine (get9 x h _).mono ?_; rintro e w1 ⟨rfl, rfl⟩) | (go_at_call 10; refine (get10 x h _).mono ?_; rintro e w1 ⟨rfl, rfl⟩) | (go_at_call 11; refine (get11 x h _).mono ?_; rintro e w1 ⟨rfl, rfl⟩) | (go_at_call 12; refine (get12 x h _).mono ?_; rintro e w1 ⟨rfl, rfl⟩) | (go_at_call 13; refine (get13 x h _).mono ?_; rintro e w1 ⟨rfl, rfl⟩))
  go_ret
  refine ⟨59 :: 32 :: r, ?_, ?_, by simp only [List.length_cons]; have := HR.out; omega, .inl ⟨rfl, r, rfl⟩⟩
  · rw [← HT1.out, ← HT2.out]
    exact congrArg (fun z => Ending.returned (.string z)) (app_lists _ _)
  · go_grown
end Go.Proofs.YtddojkdaajfmcaaFmt
