/- opToString, walked at each opcode: written by our program wip/mk74.py. -/
import Derived.Test.YtddojkdaajfmcaaFmtTell
import Derived.Handy
namespace Go.Proofs.YtddojkdaajfmcaaFmt
set_option linter.unusedVariables false
open Go.RowKit Go.Extern.Stop Go.Stop Go.Extern Go.Kit
set_option maxRecDepth 100000 in
set_option maxHeartbeats 4000000 in
theorem op1 (F : Interp) (x : Int) (h : 0 ≤ x ∧ x ≤ 4294967295) (w : World) (hF : F.told.answers w.tape) (b off cap : Nat) (hg : w.cell? ⟨0, 0, none⟩ = some (.slice (some ⟨b, off, none⟩) 42 cap))
    (hn : w.cell? ⟨b, off + 6, none⟩ = some (.string ⟨#[77, 79, 86, 69, 78]⟩)) (ht : w.cell? ⟨b, off + 11, none⟩ = some (.int .i64 0)) (hlt : b < w.heap.size) (hop : OP x = 1) :
    Calls Tryf.prog 7 #[.int .u32 x] w (TS [77, 79, 86, 69, 78] 0 true x w) := by
  have hF' := answers_open hF
  have g8 := get8 x h w
  rw [hop] at g8
  obtain ⟨T1, hT1⟩ : ∃ T1 : ByteArray, (⟨(HD [77, 79, 86, 69, 78] 0 x).toArray⟩ : ByteArray) = T1 := ⟨_, rfl⟩
  have t1 : FmtStop.textOf (F.told "fmt.Sprintf" [[37, 115, 32, 32, 32, 32, 32, 32, 124, 32, 32, 37, 100, 44, 32, 37, 100, 44, 32, 37, 100], shape9, FmtStop.pack [77, 79, 86, 69, 78], shape3, digits 8 (AA x % 18446744073709551616).toNat, shape3, digits 8 (BB x % 18446744073709551616).toNat, shape3, digits 8 (CC x % 18446744073709551616).toNat] 0) = T1 := (head0 F [77, 79, 86, 69, 78] (by decide) x).trans hT1
  have s1 : T1.size ≤ 1000 := HD_size _ _ _ (by decide) hT1
  have HT1 := Lib.hid hT1
  clear hF hop hT1
  obtain ⟨r, hr, hT2⟩ := tail1 F x
  obtain ⟨T2, hT2e⟩ : ∃ T2 : ByteArray, (⟨(59 :: 32 :: r).toArray⟩ : ByteArray) = T2 := ⟨_, rfl⟩
  have t2 : FmtStop.textOf (F.told "fmt.Sprintf" [[59, 32, 82, 40, 37, 118, 41, 32, 58, 61, 32, 82, 40, 37, 118, 41, 59, 32, 102, 111, 108, 108, 111, 119, 101, 100, 32, 98, 121, 32, 37, 118, 32, 77, 79, 86, 69, 32, 111, 112, 115], shape3, digits 8 (AA x % 18446744073709551616).toNat, shape3, digits 8 (BB x % 18446744073709551616).toNat, shape3, digits 8 (CC x % 18446744073709551616).toNat] 0) = T2 := hT2.trans hT2e
  have s2 : T2.size ≤ 1000 := by rw [← hT2e]; simp only [ByteArray.size, List.size_toArray, List.length_cons]; omega
  have s3 : ¬ 9223372036854775807 < T1.size + T2.size := by omega
  have HT2 := Lib.hid hT2e
  have HR := Lib.hid hr
  clear hT2 hT2e hr s1 s2
  go_enter Tryf.func7, Tryf.ntmps7
  go_wp2_with fail
  refine g8.mono ?_
  clear g8
  rintro e w1 ⟨rfl, rfl⟩
  go_wp2_with (first | (go_at_call 9; refine (get9 x h _).mono ?_; rintro e w1 ⟨rfl, rfl⟩) | (go_at_call 10; refine (get10 x h _).mono ?_; rintro e w1 ⟨rfl, rfl⟩) | (go_at_call 11; refine (get11 x h _).mono ?_; rintro e w1 ⟨rfl, rfl⟩) | (go_at_call 12; refine (get12 x h _).mono ?_; rintro e w1 ⟨rfl, rfl⟩) | (go_at_call 13; refine (get13 x h _).mono ?_; rintro e w1 ⟨rfl, rfl⟩))
  go_ret
  refine ⟨59 :: 32 :: r, ?_, ?_, by simp only [List.length_cons]; have := HR.out; omega, .inl ⟨rfl, r, rfl⟩⟩
  · rw [← HT1.out, ← HT2.out]
    exact congrArg (fun z => Ending.returned (.string z)) (app_lists _ _)
  · go_grown
set_option maxRecDepth 100000 in
set_option maxHeartbeats 4000000 in
theorem op5 (F : Interp) (x : Int) (h : 0 ≤ x ∧ x ≤ 4294967295) (w : World) (hF : F.told.answers w.tape) (b off cap : Nat) (hg : w.cell? ⟨0, 0, none⟩ = some (.slice (some ⟨b, off, none⟩) 42 cap))
    (hn : w.cell? ⟨b, off + 30, none⟩ = some (.string ⟨#[71, 69, 84, 85, 80, 86, 65, 76]⟩)) (ht : w.cell? ⟨b, off + 35, none⟩ = some (.int .i64 0)) (hlt : b < w.heap.size) (hop : OP x = 5) :
    Calls Tryf.prog 7 #[.int .u32 x] w (TS [71, 69, 84, 85, 80, 86, 65, 76] 0 true x w) := by
  have hF' := answers_open hF
  have g8 := get8 x h w
  rw [hop] at g8
  obtain ⟨T1, hT1⟩ : ∃ T1 : ByteArray, (⟨(HD [71, 69, 84, 85, 80, 86, 65, 76] 0 x).toArray⟩ : ByteArray) = T1 := ⟨_, rfl⟩
  have t1 : FmtStop.textOf (F.told "fmt.Sprintf" [[37, 115, 32, 32, 32, 32, 32, 32, 124, 32, 32, 37, 100, 44, 32, 37, 100, 44, 32, 37, 100], shape9, FmtStop.pack [71, 69, 84, 85, 80, 86, 65, 76], shape3, digits 8 (AA x % 18446744073709551616).toNat, shape3, digits 8 (BB x % 18446744073709551616).toNat, shape3, digits 8 (CC x % 18446744073709551616).toNat] 0) = T1 := (head0 F [71, 69, 84, 85, 80, 86, 65, 76] (by decide) x).trans hT1
  have s1 : T1.size ≤ 1000 := HD_size _ _ _ (by decide) hT1
  have HT1 := Lib.hid hT1
  clear hF hop hT1
  obtain ⟨r, hr, hT2⟩ := tail5 F x
  obtain ⟨T2, hT2e⟩ : ∃ T2 : ByteArray, (⟨(59 :: 32 :: r).toArray⟩ : ByteArray) = T2 := ⟨_, rfl⟩
  have t2 : FmtStop.textOf (F.told "fmt.Sprintf" [[59, 32, 82, 40, 37, 118, 41, 32, 58, 61, 32, 85, 112, 86, 97, 108, 117, 101, 91, 37, 118, 93], shape3, digits 8 (AA x % 18446744073709551616).toNat, shape3, digits 8 (BB x % 18446744073709551616).toNat] 0) = T2 := hT2.trans hT2e
  have s2 : T2.size ≤ 1000 := by rw [← hT2e]; simp only [ByteArray.size, List.size_toArray, List.length_cons]; omega
  have s3 : ¬ 9223372036854775807 < T1.size + T2.size := by omega
  have HT2 := Lib.hid hT2e
  have HR := Lib.hid hr
  clear hT2 hT2e hr s1 s2
  go_enter Tryf.func7, Tryf.ntmps7
  go_wp2_with fail
  refine g8.mono ?_
  clear g8
  rintro e w1 ⟨rfl, rfl⟩
  go_wp2_with (first | (go_at_call 9; refine (get9 x h _).mono ?_; rintro e w1 ⟨rfl, rfl⟩) | (go_at_call 10; refine (get10 x h _).mono ?_; rintro e w1 ⟨rfl, rfl⟩) | (go_at_call 11; refine (get11 x h _).mono ?_; rintro e w1 ⟨rfl, rfl⟩) | (go_at_call 12; refine (get12 x h _).mono ?_; rintro e w1 ⟨rfl, rfl⟩) | (go_at_call 13; refine (get13 x h _).mono ?_; rintro e w1 ⟨rfl, rfl⟩))
  go_ret
  refine ⟨59 :: 32 :: r, ?_, ?_, by simp only [List.length_cons]; have := HR.out; omega, .inl ⟨rfl, r, rfl⟩⟩
  · rw [← HT1.out, ← HT2.out]
    exact congrArg (fun z => Ending.returned (.string z)) (app_lists _ _)
  · go_grown
set_option maxRecDepth 100000 in
set_option maxHeartbeats 4000000 in
theorem op9 (F : Interp) (x : Int) (h : 0 ≤ x ∧ x ≤ 4294967295) (w : World) (hF : F.told.answers w.tape) (b off cap : Nat) (hg : w.cell? ⟨0, 0, none⟩ = some (.slice (some ⟨b, off, none⟩) 42 cap))
    (hn : w.cell? ⟨b, off + 54, none⟩ = some (.string ⟨#[83, 69, 84, 71, 76, 79, 66, 65, 76]⟩)) (ht : w.cell? ⟨b, off + 59, none⟩ = some (.int .i64 1)) (hlt : b < w.heap.size) (hop : OP x = 9) :
    Calls Tryf.prog 7 #[.int .u32 x] w (TS [83, 69, 84, 71, 76, 79, 66, 65, 76] 1 true x w) := by
  have hF' := answers_open hF
  have g8 := get8 x h w
  rw [hop] at g8
  obtain ⟨T1, hT1⟩ : ∃ T1 : ByteArray, (⟨(HD [83, 69, 84, 71, 76, 79, 66, 65, 76] 1 x).toArray⟩ : ByteArray) = T1 := ⟨_, rfl⟩
  have t1 : FmtStop.textOf (F.told "fmt.Sprintf" [[37, 115, 32, 32, 32, 32, 32, 32, 124, 32, 32, 37, 100, 44, 32, 37, 100], shape9, FmtStop.pack [83, 69, 84, 71, 76, 79, 66, 65, 76], shape3, digits 8 (AA x % 18446744073709551616).toNat, shape3, digits 8 (BX x % 18446744073709551616).toNat] 0) = T1 := (head1 F [83, 69, 84, 71, 76, 79, 66, 65, 76] (by decide) x).trans hT1
  have s1 : T1.size ≤ 1000 := HD_size _ _ _ (by decide) hT1
  have HT1 := Lib.hid hT1
  clear hF hop hT1
  obtain ⟨r, hr, hT2⟩ := tail9 F x
  obtain ⟨T2, hT2e⟩ : ∃ T2 : ByteArray, (⟨(59 :: 32 :: r).toArray⟩ : ByteArray) = T2 := ⟨_, rfl⟩
  have t2 : FmtStop.textOf (F.told "fmt.Sprintf" [[59, 32, 71, 98, 108, 91, 75, 115, 116, 40, 37, 118, 41, 93, 32, 58, 61, 32, 82, 40, 37, 118, 41], shape3, digits 8 (BX x % 18446744073709551616).toNat, shape3, digits 8 (AA x % 18446744073709551616).toNat] 0) = T2 := hT2.trans hT2e
  have s2 : T2.size ≤ 1000 := by rw [← hT2e]; simp only [ByteArray.size, List.size_toArray, List.length_cons]; omega
  have s3 : ¬ 9223372036854775807 < T1.size + T2.size := by omega
  have HT2 := Lib.hid hT2e
  have HR := Lib.hid hr
  clear hT2 hT2e hr s1 s2
  go_enter Tryf.func7, Tryf.ntmps7
  go_wp2_with fail
  refine g8.mono ?_
  clear g8
  rintro e w1 ⟨rfl, rfl⟩
  go_wp2_with (first | (go_at_call 9; refine (get9 x h _).mono ?_; rintro e w1 ⟨rfl, rfl⟩) | (go_at_call 10; refine (get10 x h _).mono ?_; rintro e w1 ⟨rfl, rfl⟩) | (go_at_call 11; refine (get11 x h _).mono ?_; rintro e w1 ⟨rfl, rfl⟩) | (go_at_call 12; refine (get12 x h _).mono ?_; rintro e w1 ⟨rfl, rfl⟩) | (go_at_call 13; refine (get13 x h _).mono ?_; rintro e w1 ⟨rfl, rfl⟩))
  go_ret
  refine ⟨59 :: 32 :: r, ?_, ?_, by simp only [List.length_cons]; have := HR.out; omega, .inl ⟨rfl, r, rfl⟩⟩
  · rw [← HT1.out, ← HT2.out]
    exact congrArg (fun z => Ending.returned (.string z)) (app_lists _ _)
  · go_grown
set_option maxRecDepth 100000 in
set_option maxHeartbeats 4000000 in
theorem op13 (F : Interp) (x : Int) (h : 0 ≤ x ∧ x ≤ 4294967295) (w : World) (hF : F.told.answers w.tape) (b off cap : Nat) (hg : w.cell? ⟨0, 0, none⟩ = some (.slice (some ⟨b, off, none⟩) 42 cap))
    (hn : w.cell? ⟨b, off + 78, none⟩ = some (.string ⟨#[78, 69, 87, 84, 65, 66, 76, 69]⟩)) (ht : w.cell? ⟨b, off + 83, none⟩ = some (.int .i64 0)) (hlt : b < w.heap.size) (hop : OP x = 13) :
    Calls Tryf.prog 7 #[.int .u32 x] w (TS [78, 69, 87, 84, 65, 66, 76, 69] 0 true x w) := by
  have hF' := answers_open hF
  have g8 := get8 x h w
  rw [hop] at g8
  obtain ⟨T1, hT1⟩ : ∃ T1 : ByteArray, (⟨(HD [78, 69, 87, 84, 65, 66, 76, 69] 0 x).toArray⟩ : ByteArray) = T1 := ⟨_, rfl⟩
  have t1 : FmtStop.textOf (F.told "fmt.Sprintf" [[37, 115, 32, 32, 32, 32, 32, 32, 124, 32, 32, 37, 100, 44, 32, 37, 100, 44, 32, 37, 100], shape9, FmtStop.pack [78, 69, 87, 84, 65, 66, 76, 69], shape3, digits 8 (AA x % 18446744073709551616).toNat, shape3, digits 8 (BB x % 18446744073709551616).toNat, shape3, digits 8 (CC x % 18446744073709551616).toNat] 0) = T1 := (head0 F [78, 69, 87, 84, 65, 66, 76, 69] (by decide) x).trans hT1
  have s1 : T1.size ≤ 1000 := HD_size _ _ _ (by decide) hT1
  have HT1 := Lib.hid hT1
  clear hF hop hT1
  obtain ⟨r, hr, hT2⟩ := tail13 F x
  obtain ⟨T2, hT2e⟩ : ∃ T2 : ByteArray, (⟨(59 :: 32 :: r).toArray⟩ : ByteArray) = T2 := ⟨_, rfl⟩
  have t2 : FmtStop.textOf (F.told "fmt.Sprintf" [[59, 32, 82, 40, 37, 118, 41, 32, 58, 61, 32, 123, 125, 32, 40, 115, 105, 122, 101, 32, 61, 32, 66, 67, 41], shape3, digits 8 (AA x % 18446744073709551616).toNat] 0) = T2 := hT2.trans hT2e
  have s2 : T2.size ≤ 1000 := by rw [← hT2e]; simp only [ByteArray.size, List.size_toArray, List.length_cons]; omega
  have s3 : ¬ 9223372036854775807 < T1.size + T2.size := by omega
  have HT2 := Lib.hid hT2e
  have HR := Lib.hid hr
  clear hT2 hT2e hr s1 s2
  go_enter Tryf.func7, Tryf.ntmps7
  go_wp2_with fail
  refine g8.mono ?_
  clear g8
  rintro e w1 ⟨rfl, rfl⟩
  go_wp2_with (first | (go_at_call 9; refine (get9 x h _).mono ?_; rintro e w1 ⟨rfl, rfl⟩) | (go_at_call 10; refine (get10 x h _).mono ?_; rintro e w1 ⟨rfl, rfl⟩) | (go_at_call 11; refine (get11 x h _).mono ?_; rintro e w1 ⟨rfl, rfl⟩) | (go_at_call 12; refine (get12 x h _).mono ?_; rintro e w1 ⟨rfl, rfl⟩) | (go_at_call 13; refine (get13 x h _).mono ?_; rintro e w1 ⟨rfl, rfl⟩))
  go_ret
  refine ⟨59 :: 32 :: r, ?_, ?_, by simp only [List.length_cons]; have := HR.out; omega, .inl ⟨rfl, r, rfl⟩⟩
  · rw [← HT1.out, ← HT2.out]
    exact congrArg (fun z => Ending.returned (.string z)) (app_lists _ _)
  · go_grown
set_option maxRecDepth 100000 in
set_option maxHeartbeats 4000000 in
theorem op17 (F : Interp) (x : Int) (h : 0 ≤ x ∧ x ≤ 4294967295) (w : World) (hF : F.told.answers w.tape) (b off cap : Nat) (hg : w.cell? ⟨0, 0, none⟩ = some (.slice (some ⟨b, off, none⟩) 42 cap))
    (hn : w.cell? ⟨b, off + 102, none⟩ = some (.string ⟨#[77, 85, 76]⟩)) (ht : w.cell? ⟨b, off + 107, none⟩ = some (.int .i64 0)) (hlt : b < w.heap.size) (hop : OP x = 17) :
    Calls Tryf.prog 7 #[.int .u32 x] w (TS [77, 85, 76] 0 true x w) := by
  have hF' := answers_open hF
  have g8 := get8 x h w
  rw [hop] at g8
  obtain ⟨T1, hT1⟩ : ∃ T1 : ByteArray, (⟨(HD [77, 85, 76] 0 x).toArray⟩ : ByteArray) = T1 := ⟨_, rfl⟩
  have t1 : FmtStop.textOf (F.told "fmt.Sprintf" [[37, 115, 32, 32, 32, 32, 32, 32, 124, 32, 32, 37, 100, 44, 32, 37, 100, 44, 32, 37, 100], shape9, FmtStop.pack [77, 85, 76], shape3, digits 8 (AA x % 18446744073709551616).toNat, shape3, digits 8 (BB x % 18446744073709551616).toNat, shape3, digits 8 (CC x % 18446744073709551616).toNat] 0) = T1 := (head0 F [77, 85, 76] (by decide) x).trans hT1
  have s1 : T1.size ≤ 1000 := HD_size _ _ _ (by decide) hT1
  have HT1 := Lib.hid hT1
  clear hF hop hT1
  obtain ⟨r, hr, hT2⟩ := tail17 F x
  obtain ⟨T2, hT2e⟩ : ∃ T2 : ByteArray, (⟨(59 :: 32 :: r).toArray⟩ : ByteArray) = T2 := ⟨_, rfl⟩
  have t2 : FmtStop.textOf (F.told "fmt.Sprintf" [[59, 32, 82, 40, 37, 118, 41, 32, 58, 61, 32, 82, 75, 40, 37, 118, 41, 32, 42, 32, 82, 75, 40, 37, 118, 41], shape3, digits 8 (AA x % 18446744073709551616).toNat, shape3, digits 8 (BB x % 18446744073709551616).toNat, shape3, digits 8 (CC x % 18446744073709551616).toNat] 0) = T2 := hT2.trans hT2e
  have s2 : T2.size ≤ 1000 := by rw [← hT2e]; simp only [ByteArray.size, List.size_toArray, List.length_cons]; omega
  have s3 : ¬ 9223372036854775807 < T1.size + T2.size := by omega
  have HT2 := Lib.hid hT2e
  have HR := Lib.hid hr
  clear hT2 hT2e hr s1 s2
  go_enter Tryf.func7, Tryf.ntmps7
  go_wp2_with fail
  refine g8.mono ?_
  clear g8
  rintro e w1 ⟨rfl, rfl⟩
  go_wp2_with (first | (go_at_call 9; refine (get9 x h _).mono ?_; rintro e w1 ⟨rfl, rfl⟩) | (go_at_call 10; refine (get10 x h _).mono ?_; rintro e w1 ⟨rfl, rfl⟩) | (go_at_call 11; refine (get11 x h _).mono ?_; rintro e w1 ⟨rfl, rfl⟩) | (go_at_call 12; refine (get12 x h _).mono ?_; rintro e w1 ⟨rfl, rfl⟩) | (go_at_call 13; refine (get13 x h _).mono ?_; rintro e w1 ⟨rfl, rfl⟩))
  go_ret
  refine ⟨59 :: 32 :: r, ?_, ?_, by simp only [List.length_cons]; have := HR.out; omega, .inl ⟨rfl, r, rfl⟩⟩
  · rw [← HT1.out, ← HT2.out]
    exact congrArg (fun z => Ending.returned (.string z)) (app_lists _ _)
  · go_grown
set_option maxRecDepth 100000 in
set_option maxHeartbeats 4000000 in
theorem op21 (F : Interp) (x : Int) (h : 0 ≤ x ∧ x ≤ 4294967295) (w : World) (hF : F.told.answers w.tape) (b off cap : Nat) (hg : w.cell? ⟨0, 0, none⟩ = some (.slice (some ⟨b, off, none⟩) 42 cap))
    (hn : w.cell? ⟨b, off + 126, none⟩ = some (.string ⟨#[85, 78, 77]⟩)) (ht : w.cell? ⟨b, off + 131, none⟩ = some (.int .i64 0)) (hlt : b < w.heap.size) (hop : OP x = 21) :
    Calls Tryf.prog 7 #[.int .u32 x] w (TS [85, 78, 77] 0 true x w) := by
  have hF' := answers_open hF
  have g8 := get8 x h w
  rw [hop] at g8
  obtain ⟨T1, hT1⟩ : ∃ T1 : ByteArray, (⟨(HD [85, 78, 77] 0 x).toArray⟩ : ByteArray) = T1 := ⟨_, rfl⟩
  have t1 : FmtStop.textOf (F.told "fmt.Sprintf" [[37, 115, 32, 32, 32, 32, 32, 32, 124, 32, 32, 37, 100, 44, 32, 37, 100, 44, 32, 37, 100], shape9, FmtStop.pack [85, 78, 77], shape3, digits 8 (AA x % 18446744073709551616).toNat, shape3, digits 8 (BB x % 18446744073709551616).toNat, shape3, digits 8 (CC x % 18446744073709551616).toNat] 0) = T1 := (head0 F [85, 78, 77] (by decide) x).trans hT1
  have s1 : T1.size ≤ 1000 := HD_size _ _ _ (by decide) hT1
  have HT1 := Lib.hid hT1
  clear hF hop hT1
  obtain ⟨r, hr, hT2⟩ := tail21 F x
  obtain ⟨T2, hT2e⟩ : ∃ T2 : ByteArray, (⟨(59 :: 32 :: r).toArray⟩ : ByteArray) = T2 := ⟨_, rfl⟩
  have t2 : FmtStop.textOf (F.told "fmt.Sprintf" [[59, 32, 82, 40, 37, 118, 41, 32, 58, 61, 32, 45, 82, 40, 37, 118, 41], shape3, digits 8 (AA x % 18446744073709551616).toNat, shape3, digits 8 (BB x % 18446744073709551616).toNat] 0) = T2 := hT2.trans hT2e
  have s2 : T2.size ≤ 1000 := by rw [← hT2e]; simp only [ByteArray.size, List.size_toArray, List.length_cons]; omega
  have s3 : ¬ 9223372036854775807 < T1.size + T2.size := by omega
  have HT2 := Lib.hid hT2e
  have HR := Lib.hid hr
  clear hT2 hT2e hr s1 s2
  go_enter Tryf.func7, Tryf.ntmps7
  go_wp2_with fail
  refine g8.mono ?_
  clear g8
  rintro e w1 ⟨rfl, rfl⟩
  go_wp2_with (first | (go_at_call 9; refine (get9 x h _).mono ?_; rintro e w1 ⟨rfl, rfl⟩) | (go_at_call 10; refine (get10 x h _).mono ?_; rintro e w1 ⟨rfl, rfl⟩) | (go_at_call 11; refine (get11 x h _).mono ?_; rintro e w1 ⟨rfl, rfl⟩) | (go_at_call 12; refine (get12 x h _).mono ?_; rintro e w1 ⟨rfl, rfl⟩) | (go_at_call 13; refine (get13 x h _).mono ?_; rintro e w1 ⟨rfl, rfl⟩))
  go_ret
  refine ⟨59 :: 32 :: r, ?_, ?_, by simp only [List.length_cons]; have := HR.out; omega, .inl ⟨rfl, r, rfl⟩⟩
  · rw [← HT1.out, ← HT2.out]
    exact congrArg (fun z => Ending.returned (.string z)) (app_lists _ _)
  · go_grown
set_option maxRecDepth 100000 in
set_option maxHeartbeats 4000000 in
theorem op25 (F : Interp) (x : Int) (h : 0 ≤ x ∧ x ≤ 4294967295) (w : World) (hF : F.told.answers w.tape) (b off cap : Nat) (hg : w.cell? ⟨0, 0, none⟩ = some (.slice (some ⟨b, off, none⟩) 42 cap))
    (hn : w.cell? ⟨b, off + 150, none⟩ = some (.string ⟨#[74, 77, 80]⟩)) (ht : w.cell? ⟨b, off + 155, none⟩ = some (.int .i64 2)) (hlt : b < w.heap.size) (hop : OP x = 25) :
    Calls Tryf.prog 7 #[.int .u32 x] w (TS [74, 77, 80] 2 true x w) := by
  have hF' := answers_open hF
  have g8 := get8 x h w
  rw [hop] at g8
  obtain ⟨T1, hT1⟩ : ∃ T1 : ByteArray, (⟨(HD [74, 77, 80] 2 x).toArray⟩ : ByteArray) = T1 := ⟨_, rfl⟩
  have t1 : FmtStop.textOf (F.told "fmt.Sprintf" [[37, 115, 32, 32, 32, 32, 32, 32, 124, 32, 32, 37, 100, 44, 32, 37, 100], shape9, FmtStop.pack [74, 77, 80], shape3, digits 8 (AA x % 18446744073709551616).toNat, shape3, digits 8 (SX x % 18446744073709551616).toNat] 0) = T1 := (head2 F [74, 77, 80] (by decide) x).trans hT1
  have s1 : T1.size ≤ 1000 := HD_size _ _ _ (by decide) hT1
  have HT1 := Lib.hid hT1
  clear hF hop hT1
  obtain ⟨r, hr, hT2⟩ := tail25 F x
  obtain ⟨T2, hT2e⟩ : ∃ T2 : ByteArray, (⟨(59 :: 32 :: r).toArray⟩ : ByteArray) = T2 := ⟨_, rfl⟩
  have t2 : FmtStop.textOf (F.told "fmt.Sprintf" [[59, 32, 112, 99, 43, 61, 37, 118], shape3, digits 8 (SX x % 18446744073709551616).toNat] 0) = T2 := hT2.trans hT2e
  have s2 : T2.size ≤ 1000 := by rw [← hT2e]; simp only [ByteArray.size, List.size_toArray, List.length_cons]; omega
  have s3 : ¬ 9223372036854775807 < T1.size + T2.size := by omega
  have HT2 := Lib.hid hT2e
  have HR := Lib.hid hr
  clear hT2 hT2e hr s1 s2
  go_enter Tryf.func7, Tryf.ntmps7
  go_wp2_with fail
  refine g8.mono ?_
  clear g8
  rintro e w1 ⟨rfl, rfl⟩
  go_wp2_with (first | (go_at_call 9; refine (get9 x h _).mono ?_; rintro e w1 ⟨rfl, rfl⟩) | (go_at_call 10; refine (get10 x h _).mono ?_; rintro e w1 ⟨rfl, rfl⟩) | (go_at_call 11; refine (get11 x h _).mono ?_; rintro e w1 ⟨rfl, rfl⟩) | (go_at_call 12; refine (get12 x h _).mono ?_; rintro e w1 ⟨rfl, rfl⟩) | (go_at_call 13; refine (get13 x h _).mono ?_; rintro e w1 ⟨rfl, rfl⟩))
  go_ret
  refine ⟨59 :: 32 :: r, ?_, ?_, by simp only [List.length_cons]; have := HR.out; omega, .inl ⟨rfl, r, rfl⟩⟩
  · rw [← HT1.out, ← HT2.out]
    exact congrArg (fun z => Ending.returned (.string z)) (app_lists _ _)
  · go_grown
set_option maxRecDepth 100000 in
set_option maxHeartbeats 4000000 in
theorem op29 (F : Interp) (x : Int) (h : 0 ≤ x ∧ x ≤ 4294967295) (w : World) (hF : F.told.answers w.tape) (b off cap : Nat) (hg : w.cell? ⟨0, 0, none⟩ = some (.slice (some ⟨b, off, none⟩) 42 cap))
    (hn : w.cell? ⟨b, off + 174, none⟩ = some (.string ⟨#[84, 69, 83, 84]⟩)) (ht : w.cell? ⟨b, off + 179, none⟩ = some (.int .i64 0)) (hlt : b < w.heap.size) (hop : OP x = 29) :
    Calls Tryf.prog 7 #[.int .u32 x] w (TS [84, 69, 83, 84] 0 true x w) := by
  have hF' := answers_open hF
  have g8 := get8 x h w
  rw [hop] at g8
  obtain ⟨T1, hT1⟩ : ∃ T1 : ByteArray, (⟨(HD [84, 69, 83, 84] 0 x).toArray⟩ : ByteArray) = T1 := ⟨_, rfl⟩
  have t1 : FmtStop.textOf (F.told "fmt.Sprintf" [[37, 115, 32, 32, 32, 32, 32, 32, 124, 32, 32, 37, 100, 44, 32, 37, 100, 44, 32, 37, 100], shape9, FmtStop.pack [84, 69, 83, 84], shape3, digits 8 (AA x % 18446744073709551616).toNat, shape3, digits 8 (BB x % 18446744073709551616).toNat, shape3, digits 8 (CC x % 18446744073709551616).toNat] 0) = T1 := (head0 F [84, 69, 83, 84] (by decide) x).trans hT1
  have s1 : T1.size ≤ 1000 := HD_size _ _ _ (by decide) hT1
  have HT1 := Lib.hid hT1
  clear hF hop hT1
  obtain ⟨r, hr, hT2⟩ := tail29 F x
  obtain ⟨T2, hT2e⟩ : ∃ T2 : ByteArray, (⟨(59 :: 32 :: r).toArray⟩ : ByteArray) = T2 := ⟨_, rfl⟩
  have t2 : FmtStop.textOf (F.told "fmt.Sprintf" [[59, 32, 105, 102, 32, 110, 111, 116, 32, 40, 82, 40, 37, 118, 41, 32, 60, 61, 62, 32, 37, 118, 41, 32, 116, 104, 101, 110, 32, 112, 99, 43, 43], shape3, digits 8 (AA x % 18446744073709551616).toNat, shape3, digits 8 (CC x % 18446744073709551616).toNat] 0) = T2 := hT2.trans hT2e
  have s2 : T2.size ≤ 1000 := by rw [← hT2e]; simp only [ByteArray.size, List.size_toArray, List.length_cons]; omega
  have s3 : ¬ 9223372036854775807 < T1.size + T2.size := by omega
  have HT2 := Lib.hid hT2e
  have HR := Lib.hid hr
  clear hT2 hT2e hr s1 s2
  go_enter Tryf.func7, Tryf.ntmps7
  go_wp2_with fail
  refine g8.mono ?_
  clear g8
  rintro e w1 ⟨rfl, rfl⟩
  go_wp2_with (first | (go_at_call 9; refine (get9 x h _).mono ?_; rintro e w1 ⟨rfl, rfl⟩) | (go_at_call 10; refine (get10 x h _).mono ?_; rintro e w1 ⟨rfl, rfl⟩) | (go_at_call 11; refine (get11 x h _).mono ?_; rintro e w1 ⟨rfl, rfl⟩) | (go_at_call 12; refine (get12 x h _).mono ?_; rintro e w1 ⟨rfl, rfl⟩) | (go_at_call 13; refine (get13 x h _).mono ?_; rintro e w1 ⟨rfl, rfl⟩))
  go_ret
  refine ⟨59 :: 32 :: r, ?_, ?_, by simp only [List.length_cons]; have := HR.out; omega, .inl ⟨rfl, r, rfl⟩⟩
  · rw [← HT1.out, ← HT2.out]
    exact congrArg (fun z => Ending.returned (.string z)) (app_lists _ _)
  · go_grown
set_option maxRecDepth 100000 in
set_option maxHeartbeats 4000000 in
theorem op33 (F : Interp) (x : Int) (h : 0 ≤ x ∧ x ≤ 4294967295) (w : World) (hF : F.told.answers w.tape) (b off cap : Nat) (hg : w.cell? ⟨0, 0, none⟩ = some (.slice (some ⟨b, off, none⟩) 42 cap))
    (hn : w.cell? ⟨b, off + 198, none⟩ = some (.string ⟨#[82, 69, 84, 85, 82, 78]⟩)) (ht : w.cell? ⟨b, off + 203, none⟩ = some (.int .i64 0)) (hlt : b < w.heap.size) (hop : OP x = 33) :
    Calls Tryf.prog 7 #[.int .u32 x] w (TS [82, 69, 84, 85, 82, 78] 0 true x w) := by
  have hF' := answers_open hF
  have g8 := get8 x h w
  rw [hop] at g8
  obtain ⟨T1, hT1⟩ : ∃ T1 : ByteArray, (⟨(HD [82, 69, 84, 85, 82, 78] 0 x).toArray⟩ : ByteArray) = T1 := ⟨_, rfl⟩
  have t1 : FmtStop.textOf (F.told "fmt.Sprintf" [[37, 115, 32, 32, 32, 32, 32, 32, 124, 32, 32, 37, 100, 44, 32, 37, 100, 44, 32, 37, 100], shape9, FmtStop.pack [82, 69, 84, 85, 82, 78], shape3, digits 8 (AA x % 18446744073709551616).toNat, shape3, digits 8 (BB x % 18446744073709551616).toNat, shape3, digits 8 (CC x % 18446744073709551616).toNat] 0) = T1 := (head0 F [82, 69, 84, 85, 82, 78] (by decide) x).trans hT1
  have s1 : T1.size ≤ 1000 := HD_size _ _ _ (by decide) hT1
  have HT1 := Lib.hid hT1
  clear hF hop hT1
  obtain ⟨r, hr, hT2⟩ := tail33 F x
  obtain ⟨T2, hT2e⟩ : ∃ T2 : ByteArray, (⟨(59 :: 32 :: r).toArray⟩ : ByteArray) = T2 := ⟨_, rfl⟩
  have t2 : FmtStop.textOf (F.told "fmt.Sprintf" [[59, 32, 114, 101, 116, 117, 114, 110, 32, 82, 40, 37, 118, 41, 32, 46, 46, 46, 32, 82, 40, 37, 118, 43, 37, 118, 45, 50, 41], shape3, digits 8 (AA x % 18446744073709551616).toNat, shape3, digits 8 (AA x % 18446744073709551616).toNat, shape3, digits 8 (BB x % 18446744073709551616).toNat] 0) = T2 := hT2.trans hT2e
  have s2 : T2.size ≤ 1000 := by rw [← hT2e]; simp only [ByteArray.size, List.size_toArray, List.length_cons]; omega
  have s3 : ¬ 9223372036854775807 < T1.size + T2.size := by omega
  have HT2 := Lib.hid hT2e
  have HR := Lib.hid hr
  clear hT2 hT2e hr s1 s2
  go_enter Tryf.func7, Tryf.ntmps7
  go_wp2_with fail
  refine g8.mono ?_
  clear g8
  rintro e w1 ⟨rfl, rfl⟩
  go_wp2_with (first | (go_at_call 9; refine (get9 x h _).mono ?_; rintro e w1 ⟨rfl, rfl⟩) | (go_at_call 10; refine (get10 x h _).mono ?_; rintro e w1 ⟨rfl, rfl⟩) | (go_at_call 11; refine (get11 x h _).mono ?_; rintro e w1 ⟨rfl, rfl⟩) | (go_at_call 12; refine (get12 x h _).mono ?_; rintro e w1 ⟨rfl, rfl⟩) | (go_at_call 13; refine (get13 x h _).mono ?_; rintro e w1 ⟨rfl, rfl⟩))
  go_ret
  refine ⟨59 :: 32 :: r, ?_, ?_, by simp only [List.length_cons]; have := HR.out; omega, .inl ⟨rfl, r, rfl⟩⟩
  · rw [← HT1.out, ← HT2.out]
    exact congrArg (fun z => Ending.returned (.string z)) (app_lists _ _)
  · go_grown
set_option maxRecDepth 100000 in
set_option maxHeartbeats 4000000 in
theorem op37 (F : Interp) (x : Int) (h : 0 ≤ x ∧ x ≤ 4294967295) (w : World) (hF : F.told.answers w.tape) (b off cap : Nat) (hg : w.cell? ⟨0, 0, none⟩ = some (.slice (some ⟨b, off, none⟩) 42 cap))
    (hn : w.cell? ⟨b, off + 222, none⟩ = some (.string ⟨#[83, 69, 84, 76, 73, 83, 84]⟩)) (ht : w.cell? ⟨b, off + 227, none⟩ = some (.int .i64 0)) (hlt : b < w.heap.size) (hop : OP x = 37) :
    Calls Tryf.prog 7 #[.int .u32 x] w (TS [83, 69, 84, 76, 73, 83, 84] 0 true x w) := by
  have hF' := answers_open hF
  have g8 := get8 x h w
  rw [hop] at g8
  obtain ⟨T1, hT1⟩ : ∃ T1 : ByteArray, (⟨(HD [83, 69, 84, 76, 73, 83, 84] 0 x).toArray⟩ : ByteArray) = T1 := ⟨_, rfl⟩
  have t1 : FmtStop.textOf (F.told "fmt.Sprintf" [[37, 115, 32, 32, 32, 32, 32, 32, 124, 32, 32, 37, 100, 44, 32, 37, 100, 44, 32, 37, 100], shape9, FmtStop.pack [83, 69, 84, 76, 73, 83, 84], shape3, digits 8 (AA x % 18446744073709551616).toNat, shape3, digits 8 (BB x % 18446744073709551616).toNat, shape3, digits 8 (CC x % 18446744073709551616).toNat] 0) = T1 := (head0 F [83, 69, 84, 76, 73, 83, 84] (by decide) x).trans hT1
  have s1 : T1.size ≤ 1000 := HD_size _ _ _ (by decide) hT1
  have HT1 := Lib.hid hT1
  clear hF hop hT1
  obtain ⟨r, hr, hT2⟩ := tail37 F x
  obtain ⟨T2, hT2e⟩ : ∃ T2 : ByteArray, (⟨(59 :: 32 :: r).toArray⟩ : ByteArray) = T2 := ⟨_, rfl⟩
  have t2 : FmtStop.textOf (F.told "fmt.Sprintf" [[59, 32, 82, 40, 37, 118, 41, 91, 40, 37, 118, 45, 49, 41, 42, 70, 80, 70, 43, 105, 93, 32, 58, 61, 32, 82, 40, 37, 118, 43, 105, 41, 32, 49, 32, 60, 61, 32, 105, 32, 60, 61, 32, 37, 118], shape3, digits 8 (AA x % 18446744073709551616).toNat, shape3, digits 8 (CC x % 18446744073709551616).toNat, shape3, digits 8 (AA x % 18446744073709551616).toNat, shape3, digits 8 (BB x % 18446744073709551616).toNat] 0) = T2 := hT2.trans hT2e
  have s2 : T2.size ≤ 1000 := by rw [← hT2e]; simp only [ByteArray.size, List.size_toArray, List.length_cons]; omega
  have s3 : ¬ 9223372036854775807 < T1.size + T2.size := by omega
  have HT2 := Lib.hid hT2e
  have HR := Lib.hid hr
  clear hT2 hT2e hr s1 s2
  go_enter Tryf.func7, Tryf.ntmps7
  go_wp2_with fail
  refine g8.mono ?_
  clear g8
  rintro e w1 ⟨rfl, rfl⟩
  go_wp2_with (first | (go_at_call 9; refine (get9 x h _).mono ?_; rintro e w1 ⟨rfl, rfl⟩) | (go_at_call 10; refine (get10 x h _).mono ?_; rintro e w1 ⟨rfl, rfl⟩) | (go_at_call 11; refine (get11 x h _).mono ?_; rintro e w1 ⟨rfl, rfl⟩) | (go_at_call 12; refine (get12 x h _).mono ?_; rintro e w1 ⟨rfl, rfl⟩) | (go_at_call 13; refine (get13 x h _).mono ?_; rintro e w1 ⟨rfl, rfl⟩))
  go_ret
  refine ⟨59 :: 32 :: r, ?_, ?_, by simp only [List.length_cons]; have := HR.out; omega, .inl ⟨rfl, r, rfl⟩⟩
  · rw [← HT1.out, ← HT2.out]
    exact congrArg (fun z => Ending.returned (.string z)) (app_lists _ _)
  · go_grown
end Go.Proofs.YtddojkdaajfmcaaFmt
