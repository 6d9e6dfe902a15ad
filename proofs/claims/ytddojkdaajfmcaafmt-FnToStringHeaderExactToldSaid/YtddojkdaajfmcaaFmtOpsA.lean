/- opToString, walked at each opcode: written by our program wip/mk74.py. -/
import Derived.Test.YtddojkdaajfmcaaFmtTell
import Derived.Handy
namespace Go.Proofs.YtddojkdaajfmcaaFmt
set_option linter.unusedVariables false
open Go.RowKit Go.Extern.Stop Go.Stop Go.Extern Go.Kit
set_option maxRecDepth 100000 in
set_option maxHeartbeats 4000000 in
theorem op0 (F : Interp) (x : Int) (h : 0 ≤ x ∧ x ≤ 4294967295) (w : World) (hF : F.told.answers w.tape) (b off cap : Nat) (hg : w.cell? ⟨0, 0, none⟩ = some (.slice (some ⟨b, off, none⟩) 42 cap))
    (hn : w.cell? ⟨b, off, none⟩ = some (.string ⟨#[77, 79, 86, 69]⟩)) (ht : w.cell? ⟨b, off + 5, none⟩ = some (.int .i64 0)) (hlt : b < w.heap.size) (hop : OP x = 0) :
    Calls Tryf.prog 7 #[.int .u32 x] w (TS [77, 79, 86, 69] 0 true x w) := by
  have hF' := answers_open hF
  have g8 := get8 x h w
  rw [hop] at g8
  obtain ⟨T1, hT1⟩ : ∃ T1 : ByteArray, (⟨(HD [77, 79, 86, 69] 0 x).toArray⟩ : ByteArray) = T1 := ⟨_, rfl⟩
  have t1 : FmtStop.textOf (F.told "fmt.Sprintf" [[37, 115, 32, 32, 32, 32, 32, 32, 124, 32, 32, 37, 100, 44, 32, 37, 100, 44, 32, 37, 100], shape9, FmtStop.pack [77, 79, 86, 69], shape3, digits 8 (AA x % 18446744073709551616).toNat, shape3, digits 8 (BB x % 18446744073709551616).toNat, shape3, digits 8 (CC x % 18446744073709551616).toNat] 0) = T1 := (head0 F [77, 79, 86, 69] (by decide) x).trans hT1
  have s1 : T1.size ≤ 1000 := HD_size _ _ _ (by decide) hT1
  have HT1 := Lib.hid hT1
  clear hF hop hT1
  obtain ⟨r, hr, hT2⟩ := tail0 F x
  obtain ⟨T2, hT2e⟩ : ∃ T2 : ByteArray, (⟨(59 :: 32 :: r).toArray⟩ : ByteArray) = T2 := ⟨_, rfl⟩
  have t2 : FmtStop.textOf (F.told "fmt.Sprintf" [[59, 32, 82, 40, 37, 118, 41, 32, 58, 61, 32, 82, 40, 37, 118, 41], shape3, digits 8 (AA x % 18446744073709551616).toNat, shape3, digits 8 (BB x % 18446744073709551616).toNat] 0) = T2 := hT2.trans hT2e
  have s2 : T2.size ≤ 1000 := by rw [← hT2e]; simp only [ByteArray.size, List.size_toArray, List.length_cons]; omega
  have s3 : ¬ 9223372036854775807 < T1.size + T2.size := by omega
  have HT2 := Lib.hid hT2e
  have HR := Lib.hid hr
  clear hT2 hT2e hr s1 s2
  go_enter Tryf.func7, Tryf.ntmps7
  go_wp2_with fail
  refine g8.mono ?_
  clear g8
  rintro e w1 ⟨rfl, rfl⟩
  go_wp2_with (first | (go_at_call 9; refine (get9 x h _).mono ?_; rintro e w1 ⟨rfl, rfl⟩) | (go_at_call 10; refine (get10 x h _).mono ?_; rintro e w1 ⟨rfl, rfl⟩) | (go_at_call 11; refine (get11 x h _).mono ?_; rintro e w1 ⟨rfl, rfl⟩) | (go_at_call 12; refine (get12 x h _).mono ?_; rintro e w1 ⟨rfl, rfl⟩) | (go_at_call 13; refine (get13 x h _).mono ?_; rintro e w1 ⟨rfl, rfl⟩))
  go_ret
  refine ⟨59 :: 32 :: r, ?_, ?_, by simp only [List.length_cons]; have := HR.out; omega, .inl ⟨rfl, r, rfl⟩⟩
  · rw [← HT1.out, ← HT2.out]
    exact congrArg (fun z => Ending.returned (.string z)) (app_lists _ _)
  · go_grown
set_option maxRecDepth 100000 in
set_option maxHeartbeats 4000000 in
theorem op4 (F : Interp) (x : Int) (h : 0 ≤ x ∧ x ≤ 4294967295) (w : World) (hF : F.told.answers w.tape) (b off cap : Nat) (hg : w.cell? ⟨0, 0, none⟩ = some (.slice (some ⟨b, off, none⟩) 42 cap))
    (hn : w.cell? ⟨b, off + 24, none⟩ = some (.string ⟨#[76, 79, 65, 68, 78, 73, 76]⟩)) (ht : w.cell? ⟨b, off + 29, none⟩ = some (.int .i64 0)) (hlt : b < w.heap.size) (hop : OP x = 4) :
    Calls Tryf.prog 7 #[.int .u32 x] w (TS [76, 79, 65, 68, 78, 73, 76] 0 true x w) := by
  have hF' := answers_open hF
  have g8 := get8 x h w
  rw [hop] at g8
  obtain ⟨T1, hT1⟩ : ∃ T1 : ByteArray, (⟨(HD [76, 79, 65, 68, 78, 73, 76] 0 x).toArray⟩ : ByteArray) = T1 := ⟨_, rfl⟩
  have t1 : FmtStop.textOf (F.told "fmt.Sprintf" [[37, 115, 32, 32, 32, 32, 32, 32, 124, 32, 32, 37, 100, 44, 32, 37, 100, 44, 32, 37, 100], shape9, FmtStop.pack [76, 79, 65, 68, 78, 73, 76], shape3, digits 8 (AA x % 18446744073709551616).toNat, shape3, digits 8 (BB x % 18446744073709551616).toNat, shape3, digits 8 (CC x % 18446744073709551616).toNat] 0) = T1 := (head0 F [76, 79, 65, 68, 78, 73, 76] (by decide) x).trans hT1
  have s1 : T1.size ≤ 1000 := HD_size _ _ _ (by decide) hT1
  have HT1 := Lib.hid hT1
  clear hF hop hT1
  obtain ⟨r, hr, hT2⟩ := tail4 F x
  obtain ⟨T2, hT2e⟩ : ∃ T2 : ByteArray, (⟨(59 :: 32 :: r).toArray⟩ : ByteArray) = T2 := ⟨_, rfl⟩
  have t2 : FmtStop.textOf (F.told "fmt.Sprintf" [[59, 32, 82, 40, 37, 118, 41, 32, 58, 61, 32, 46, 46, 46, 32, 58, 61, 32, 82, 40, 37, 118, 41, 32, 58, 61, 32, 110, 105, 108], shape3, digits 8 (AA x % 18446744073709551616).toNat, shape3, digits 8 (BB x % 18446744073709551616).toNat] 0) = T2 := hT2.trans hT2e
  have s2 : T2.size ≤ 1000 := by rw [← hT2e]; simp only [ByteArray.size, List.size_toArray, List.length_cons]; omega
  have s3 : ¬ 9223372036854775807 < T1.size + T2.size := by omega
  have HT2 := Lib.hid hT2e
  have HR := Lib.hid hr
  clear hT2 hT2e hr s1 s2
  go_enter Tryf.func7, Tryf.ntmps7
  go_wp2_with fail
  refine g8.mono ?_
  clear g8
  rintro e w1 ⟨rfl, rfl⟩
  go_wp2_with (first | (go_at_call 9; refine (get9 x h _).mono ?_; rintro e w1 ⟨rfl, rfl⟩) | (go_at_call 10; refine (get10 x h _).mono ?_; rintro e w1 ⟨rfl, rfl⟩) | (go_at_call 11; refine (get11 x h _).mono ?_; rintro e w1 ⟨rfl, rfl⟩) | (go_at_call 12; refine (get12 x h _).mono ?_; rintro e w1 ⟨rfl, rfl⟩) | (go_at_call 13; refine (get13 x h _).mono ?_; rintro e w1 ⟨rfl, rfl⟩))
  go_ret
  refine ⟨59 :: 32 :: r, ?_, ?_, by simp only [List.length_cons]; have := HR.out; omega, .inl ⟨rfl, r, rfl⟩⟩
  · rw [← HT1.out, ← HT2.out]
    exact congrArg (fun z => Ending.returned (.string z)) (app_lists _ _)
  · go_grown
set_option maxRecDepth 100000 in
set_option maxHeartbeats 4000000 in
theorem op8 (F : Interp) (x : Int) (h : 0 ≤ x ∧ x ≤ 4294967295) (w : World) (hF : F.told.answers w.tape) (b off cap : Nat) (hg : w.cell? ⟨0, 0, none⟩ = some (.slice (some ⟨b, off, none⟩) 42 cap))
    (hn : w.cell? ⟨b, off + 48, none⟩ = some (.string ⟨#[71, 69, 84, 84, 65, 66, 76, 69, 75, 83]⟩)) (ht : w.cell? ⟨b, off + 53, none⟩ = some (.int .i64 0)) (hlt : b < w.heap.size) (hop : OP x = 8) :
    Calls Tryf.prog 7 #[.int .u32 x] w (TS [71, 69, 84, 84, 65, 66, 76, 69, 75, 83] 0 true x w) := by
  have hF' := answers_open hF
  have g8 := get8 x h w
  rw [hop] at g8
  obtain ⟨T1, hT1⟩ : ∃ T1 : ByteArray, (⟨(HD [71, 69, 84, 84, 65, 66, 76, 69, 75, 83] 0 x).toArray⟩ : ByteArray) = T1 := ⟨_, rfl⟩
  have t1 : FmtStop.textOf (F.told "fmt.Sprintf" [[37, 115, 32, 32, 32, 32, 32, 32, 124, 32, 32, 37, 100, 44, 32, 37, 100, 44, 32, 37, 100], shape9, FmtStop.pack [71, 69, 84, 84, 65, 66, 76, 69, 75, 83], shape3, digits 8 (AA x % 18446744073709551616).toNat, shape3, digits 8 (BB x % 18446744073709551616).toNat, shape3, digits 8 (CC x % 18446744073709551616).toNat] 0) = T1 := (head0 F [71, 69, 84, 84, 65, 66, 76, 69, 75, 83] (by decide) x).trans hT1
  have s1 : T1.size ≤ 1000 := HD_size _ _ _ (by decide) hT1
  have HT1 := Lib.hid hT1
  clear hF hop hT1
  obtain ⟨r, hr, hT2⟩ := tail8 F x
  obtain ⟨T2, hT2e⟩ : ∃ T2 : ByteArray, (⟨(59 :: 32 :: r).toArray⟩ : ByteArray) = T2 := ⟨_, rfl⟩
  have t2 : FmtStop.textOf (F.told "fmt.Sprintf" [[59, 32, 82, 40, 37, 118, 41, 32, 58, 61, 32, 82, 40, 37, 118, 41, 91, 82, 75, 40, 37, 118, 41, 93, 32, 59, 32, 82, 75, 40, 37, 118, 41, 32, 105, 115, 32, 99, 111, 110, 115, 116, 97, 110, 116, 32, 115, 116, 114, 105, 110, 103], shape3, digits 8 (AA x % 18446744073709551616).toNat, shape3, digits 8 (BB x % 18446744073709551616).toNat, shape3, digits 8 (CC x % 18446744073709551616).toNat, shape3, digits 8 (CC x % 18446744073709551616).toNat] 0) = T2 := hT2.trans hT2e
  have s2 : T2.size ≤ 1000 := by rw [← hT2e]; simp only [ByteArray.size, List.size_toArray, List.length_cons]; omega
  have s3 : ¬ 9223372036854775807 < T1.size + T2.size := by omega
  have HT2 := Lib.hid hT2e
  have HR := Lib.hid hr
  clear hT2 hT2e hr s1 s2
  go_enter Tryf.func7, Tryf.ntmps7
  go_wp2_with fail
  refine g8.mono ?_
  clear g8
  rintro e w1 ⟨rfl, rfl⟩
  go_wp2_with (first | (go_at_call 9; refine (get9 x h _).mono ?_; rintro e w1 ⟨rfl, rfl⟩) | (go_at_call 10; refine (get10 x h _).mono ?_; rintro e w1 ⟨rfl, rfl⟩) | (go_at_call 11; refine (get11 x h _).mono ?_; rintro e w1 ⟨rfl, rfl⟩) | (go_at_call 12; refine (get12 x h _).mono ?_; rintro e w1 ⟨rfl, rfl⟩) | (go_at_call 13; refine (get13 x h _).mono ?_; rintro e w1 ⟨rfl, rfl⟩))
  go_ret
  refine ⟨59 :: 32 :: r, ?_, ?_, by simp only [List.length_cons]; have := HR.out; omega, .inl ⟨rfl, r, rfl⟩⟩
  · rw [← HT1.out, ← HT2.out]
    exact congrArg (fun z => Ending.returned (.string z)) (app_lists _ _)
  · go_grown
set_option maxRecDepth 100000 in
set_option maxHeartbeats 4000000 in
theorem op12 (F : Interp) (x : Int) (h : 0 ≤ x ∧ x ≤ 4294967295) (w : World) (hF : F.told.answers w.tape) (b off cap : Nat) (hg : w.cell? ⟨0, 0, none⟩ = some (.slice (some ⟨b, off, none⟩) 42 cap))
    (hn : w.cell? ⟨b, off + 72, none⟩ = some (.string ⟨#[83, 69, 84, 84, 65, 66, 76, 69, 75, 83]⟩)) (ht : w.cell? ⟨b, off + 77, none⟩ = some (.int .i64 0)) (hlt : b < w.heap.size) (hop : OP x = 12) :
    Calls Tryf.prog 7 #[.int .u32 x] w (TS [83, 69, 84, 84, 65, 66, 76, 69, 75, 83] 0 true x w) := by
  have hF' := answers_open hF
  have g8 := get8 x h w
  rw [hop] at g8
  obtain ⟨T1, hT1⟩ : ∃ T1 : ByteArray, (⟨(HD [83, 69, 84, 84, 65, 66, 76, 69, 75, 83] 0 x).toArray⟩ : ByteArray) = T1 := ⟨_, rfl⟩
  have t1 : FmtStop.textOf (F.told "fmt.Sprintf" [[37, 115, 32, 32, 32, 32, 32, 32, 124, 32, 32, 37, 100, 44, 32, 37, 100, 44, 32, 37, 100], shape9, FmtStop.pack [83, 69, 84, 84, 65, 66, 76, 69, 75, 83], shape3, digits 8 (AA x % 18446744073709551616).toNat, shape3, digits 8 (BB x % 18446744073709551616).toNat, shape3, digits 8 (CC x % 18446744073709551616).toNat] 0) = T1 := (head0 F [83, 69, 84, 84, 65, 66, 76, 69, 75, 83] (by decide) x).trans hT1
  have s1 : T1.size ≤ 1000 := HD_size _ _ _ (by decide) hT1
  have HT1 := Lib.hid hT1
  clear hF hop hT1
  obtain ⟨r, hr, hT2⟩ := tail12 F x
  obtain ⟨T2, hT2e⟩ : ∃ T2 : ByteArray, (⟨(59 :: 32 :: r).toArray⟩ : ByteArray) = T2 := ⟨_, rfl⟩
  have t2 : FmtStop.textOf (F.told "fmt.Sprintf" [[59, 32, 82, 40, 37, 118, 41, 91, 82, 75, 40, 37, 118, 41, 93, 32, 58, 61, 32, 82, 75, 40, 37, 118, 41, 32, 59, 32, 82, 75, 40, 37, 118, 41, 32, 105, 115, 32, 99, 111, 110, 115, 116, 97, 110, 116, 32, 115, 116, 114, 105, 110, 103], shape3, digits 8 (AA x % 18446744073709551616).toNat, shape3, digits 8 (BB x % 18446744073709551616).toNat, shape3, digits 8 (CC x % 18446744073709551616).toNat, shape3, digits 8 (BB x % 18446744073709551616).toNat] 0) = T2 := hT2.trans hT2e
  have s2 : T2.size ≤ 1000 := by rw [← hT2e]; simp only [ByteArray.size, List.size_toArray, List.length_cons]; omega
  have s3 : ¬ 9223372036854775807 < T1.size + T2.size := by omega
  have HT2 := Lib.hid hT2e
  have HR := Lib.hid hr
  clear hT2 hT2e hr s1 s2
  go_enter Tryf.func7, Tryf.ntmps7
  go_wp2_with fail
  refine g8.mono ?_
  clear g8
  rintro e w1 ⟨rfl, rfl⟩
  go_wp2_with (first | (go_at_call 9; refine (get9 x h _).mono ?_; rintro e w1 ⟨rfl, rfl⟩) | (go_at_call 10; refine (get10 x h _).mono ?_; rintro e w1 ⟨rfl, rfl⟩) | (go_at_call 11; refine (get11 x h _).mono ?_; rintro e w1 ⟨rfl, rfl⟩) | (go_at_call 12; refine (get12 x h _).mono ?_; rintro e w1 ⟨rfl, rfl⟩) | (go_at_call 13; refine (get13 x h _).mono ?_; rintro e w1 ⟨rfl, rfl⟩))
  go_ret
  refine ⟨59 :: 32 :: r, ?_, ?_, by simp only [List.length_cons]; have := HR.out; omega, .inl ⟨rfl, r, rfl⟩⟩
  · rw [← HT1.out, ← HT2.out]
    exact congrArg (fun z => Ending.returned (.string z)) (app_lists _ _)
  · go_grown
set_option maxRecDepth 100000 in
set_option maxHeartbeats 4000000 in
theorem op16 (F : Interp) (x : Int) (h : 0 ≤ x ∧ x ≤ 4294967295) (w : World) (hF : F.told.answers w.tape) (b off cap : Nat) (hg : w.cell? ⟨0, 0, none⟩ = some (.slice (some ⟨b, off, none⟩) 42 cap))
    (hn : w.cell? ⟨b, off + 96, none⟩ = some (.string ⟨#[83, 85, 66]⟩)) (ht : w.cell? ⟨b, off + 101, none⟩ = some (.int .i64 0)) (hlt : b < w.heap.size) (hop : OP x = 16) :
    Calls Tryf.prog 7 #[.int .u32 x] w (TS [83, 85, 66] 0 true x w) := by
  have hF' := answers_open hF
  have g8 := get8 x h w
  rw [hop] at g8
  obtain ⟨T1, hT1⟩ : ∃ T1 : ByteArray, (⟨(HD [83, 85, 66] 0 x).toArray⟩ : ByteArray) = T1 := ⟨_, rfl⟩
  have t1 : FmtStop.textOf (F.told "fmt.Sprintf" [[37, 115, 32, 32, 32, 32, 32, 32, 124, 32, 32, 37, 100, 44, 32, 37, 100, 44, 32, 37, 100], shape9, FmtStop.pack [83, 85, 66], shape3, digits 8 (AA x % 18446744073709551616).toNat, shape3, digits 8 (BB x % 18446744073709551616).toNat, shape3, digits 8 (CC x % 18446744073709551616).toNat] 0) = T1 := (head0 F [83, 85, 66] (by decide) x).trans hT1
  have s1 : T1.size ≤ 1000 := HD_size _ _ _ (by decide) hT1
  have HT1 := Lib.hid hT1
  clear hF hop hT1
  obtain ⟨r, hr, hT2⟩ := tail16 F x
  obtain ⟨T2, hT2e⟩ : ∃ T2 : ByteArray, (⟨(59 :: 32 :: r).toArray⟩ : ByteArray) = T2 := ⟨_, rfl⟩
  have t2 : FmtStop.textOf (F.told "fmt.Sprintf" [[59, 32, 82, 40, 37, 118, 41, 32, 58, 61, 32, 82, 75, 40, 37, 118, 41, 32, 45, 32, 82, 75, 40, 37, 118, 41], shape3, digits 8 (AA x % 18446744073709551616).toNat, shape3, digits 8 (BB x % 18446744073709551616).toNat, shape3, digits 8 (CC x % 18446744073709551616).toNat] 0) = T2 := hT2.trans hT2e
  have s2 : T2.size ≤ 1000 := by rw [← hT2e]; simp only [ByteArray.size, List.size_toArray, List.length_cons]; omega
  have s3 : ¬ 9223372036854775807 < T1.size + T2.size := by omega
  have HT2 := Lib.hid hT2e
  have HR := Lib.hid hr
  clear hT2 hT2e hr s1 s2
  go_enter Tryf.func7, Tryf.ntmps7
  go_wp2_with fail
  refine g8.mono ?_
  clear g8
  rintro e w1 ⟨rfl, rfl⟩
  go_wp2_with (first | (go_at_call 9; refine (get9 x h _).mono ?_; rintro e w1 ⟨rfl, rfl⟩) | (go_at_call 10; refine (get10 x h _).mono ?_; rintro e w1 ⟨rfl, rfl⟩) | (go_at_call 11; refine (get11 x h _).mono ?_; rintro e w1 ⟨rfl, rfl⟩) | (go_at_call 12; refine (get12 x h _).mono ?_; rintro e w1 ⟨rfl, rfl⟩) | (go_at_call 13; refine (get13 x h _).mono ?_; rintro e w1 ⟨rfl, rfl⟩))
  go_ret
  refine ⟨59 :: 32 :: r, ?_, ?_, by simp only [List.length_cons]; have := HR.out; omega, .inl ⟨rfl, r, rfl⟩⟩
  · rw [← HT1.out, ← HT2.out]
    exact congrArg (fun z => Ending.returned (.string z)) (app_lists _ _)
  · go_grown
set_option maxRecDepth 100000 in
set_option maxHeartbeats 4000000 in
theorem op20 (F : Interp) (x : Int) (h : 0 ≤ x ∧ x ≤ 4294967295) (w : World) (hF : F.told.answers w.tape) (b off cap : Nat) (hg : w.cell? ⟨0, 0, none⟩ = some (.slice (some ⟨b, off, none⟩) 42 cap))
    (hn : w.cell? ⟨b, off + 120, none⟩ = some (.string ⟨#[80, 79, 87]⟩)) (ht : w.cell? ⟨b, off + 125, none⟩ = some (.int .i64 0)) (hlt : b < w.heap.size) (hop : OP x = 20) :
    Calls Tryf.prog 7 #[.int .u32 x] w (TS [80, 79, 87] 0 true x w) := by
  have hF' := answers_open hF
  have g8 := get8 x h w
  rw [hop] at g8
  obtain ⟨T1, hT1⟩ : ∃ T1 : ByteArray, (⟨(HD [80, 79, 87] 0 x).toArray⟩ : ByteArray) = T1 := ⟨_, rfl⟩
  have t1 : FmtStop.textOf (F.told "fmt.Sprintf" [[37, 115, 32, 32, 32, 32, 32, 32, 124, 32, 32, 37, 100, 44, 32, 37, 100, 44, 32, 37, 100], shape9, FmtStop.pack [80, 79, 87], shape3, digits 8 (AA x % 18446744073709551616).toNat, shape3, digits 8 (BB x % 18446744073709551616).toNat, shape3, digits 8 (CC x % 18446744073709551616).toNat] 0) = T1 := (head0 F [80, 79, 87] (by decide) x).trans hT1
  have s1 : T1.size ≤ 1000 := HD_size _ _ _ (by decide) hT1
  have HT1 := Lib.hid hT1
  clear hF hop hT1
  obtain ⟨r, hr, hT2⟩ := tail20 F x
  obtain ⟨T2, hT2e⟩ : ∃ T2 : ByteArray, (⟨(59 :: 32 :: r).toArray⟩ : ByteArray) = T2 := ⟨_, rfl⟩
  have t2 : FmtStop.textOf (F.told "fmt.Sprintf" [[59, 32, 82, 40, 37, 118, 41, 32, 58, 61, 32, 82, 75, 40, 37, 118, 41, 32, 94, 32, 82, 75, 40, 37, 118, 41], shape3, digits 8 (AA x % 18446744073709551616).toNat, shape3, digits 8 (BB x % 18446744073709551616).toNat, shape3, digits 8 (CC x % 18446744073709551616).toNat] 0) = T2 := hT2.trans hT2e
  have s2 : T2.size ≤ 1000 := by rw [← hT2e]; simp only [ByteArray.size, List.size_toArray, List.length_cons]; omega
  have s3 : ¬ 9223372036854775807 < T1.size + T2.size := by omega
  have HT2 := Lib.hid hT2e
  have HR := Lib.hid hr
  clear hT2 hT2e hr s1 s2
  go_enter Tryf.func7, Tryf.ntmps7
  go_wp2_with fail
  refine g8.mono ?_
  clear g8
  rintro e w1 ⟨rfl, rfl⟩
  go_wp2_with (first | (go_at_call 9; refine (get9 x h _).mono ?_; rintro e w1 ⟨rfl, rfl⟩) | (go_at_call 10; refine (get10 x h _).mono ?_; rintro e w1 ⟨rfl, rfl⟩) | (go_at_call 11; refine (get11 x h _).mono ?_; rintro e w1 ⟨rfl, rfl⟩) | (go_at_call 12; refine (get12 x h _).mono ?_; rintro e w1 ⟨rfl, rfl⟩) | (go_at_call 13; refine (get13 x h _).mono ?_; rintro e w1 ⟨rfl, rfl⟩))
  go_ret
  refine ⟨59 :: 32 :: r, ?_, ?_, by simp only [List.length_cons]; have := HR.out; omega, .inl ⟨rfl, r, rfl⟩⟩
  · rw [← HT1.out, ← HT2.out]
    exact congrArg (fun z => Ending.returned (.string z)) (app_lists _ _)
  · go_grown
set_option maxRecDepth 100000 in
set_option maxHeartbeats 4000000 in
theorem op24 (F : Interp) (x : Int) (h : 0 ≤ x ∧ x ≤ 4294967295) (w : World) (hF : F.told.answers w.tape) (b off cap : Nat) (hg : w.cell? ⟨0, 0, none⟩ = some (.slice (some ⟨b, off, none⟩) 42 cap))
    (hn : w.cell? ⟨b, off + 144, none⟩ = some (.string ⟨#[67, 79, 78, 67, 65, 84]⟩)) (ht : w.cell? ⟨b, off + 149, none⟩ = some (.int .i64 0)) (hlt : b < w.heap.size) (hop : OP x = 24) :
    Calls Tryf.prog 7 #[.int .u32 x] w (TS [67, 79, 78, 67, 65, 84] 0 true x w) := by
  have hF' := answers_open hF
  have g8 := get8 x h w
  rw [hop] at g8
  obtain ⟨T1, hT1⟩ : ∃ T1 : ByteArray, (⟨(HD [67, 79, 78, 67, 65, 84] 0 x).toArray⟩ : ByteArray) = T1 := ⟨_, rfl⟩
  have t1 : FmtStop.textOf (F.told "fmt.Sprintf" [[37, 115, 32, 32, 32, 32, 32, 32, 124, 32, 32, 37, 100, 44, 32, 37, 100, 44, 32, 37, 100], shape9, FmtStop.pack [67, 79, 78, 67, 65, 84], shape3, digits 8 (AA x % 18446744073709551616).toNat, shape3, digits 8 (BB x % 18446744073709551616).toNat, shape3, digits 8 (CC x % 18446744073709551616).toNat] 0) = T1 := (head0 F [67, 79, 78, 67, 65, 84] (by decide) x).trans hT1
  have s1 : T1.size ≤ 1000 := HD_size _ _ _ (by decide) hT1
  have HT1 := Lib.hid hT1
  clear hF hop hT1
  obtain ⟨r, hr, hT2⟩ := tail24 F x
  obtain ⟨T2, hT2e⟩ : ∃ T2 : ByteArray, (⟨(59 :: 32 :: r).toArray⟩ : ByteArray) = T2 := ⟨_, rfl⟩
  have t2 : FmtStop.textOf (F.told "fmt.Sprintf" [[59, 32, 82, 40, 37, 118, 41, 32, 58, 61, 32, 82, 40, 37, 118, 41, 46, 46, 32, 46, 46, 46, 32, 46, 46, 82, 40, 37, 118, 41], shape3, digits 8 (AA x % 18446744073709551616).toNat, shape3, digits 8 (BB x % 18446744073709551616).toNat, shape3, digits 8 (CC x % 18446744073709551616).toNat] 0) = T2 := hT2.trans hT2e
  have s2 : T2.size ≤ 1000 := by rw [← hT2e]; simp only [ByteArray.size, List.size_toArray, List.length_cons]; omega
  have s3 : ¬ 9223372036854775807 < T1.size + T2.size := by omega
  have HT2 := Lib.hid hT2e
  have HR := Lib.hid hr
  clear hT2 hT2e hr s1 s2
  go_enter Tryf.func7, Tryf.ntmps7
  go_wp2_with fail
  refine g8.mono ?_
  clear g8
  rintro e w1 ⟨rfl, rfl⟩
  go_wp2_with (first | (go_at_call 9; refine (get9 x h _).mono ?_; rintro e w1 ⟨rfl, rfl⟩) | (go_at_call 10; refine (get10 x h _).mono ?_; rintro e w1 ⟨rfl, rfl⟩) | (go_at_call 11; refine (get11 x h _).mono ?_; rintro e w1 ⟨rfl, rfl⟩) | (go_at_call 12; refine (get12 x h _).mono ?_; rintro e w1 ⟨rfl, rfl⟩) | (go_at_call 13; refine (get13 x h _).mono ?_; rintro e w1 ⟨rfl, rfl⟩))
  go_ret
  refine ⟨59 :: 32 :: r, ?_, ?_, by simp only [List.length_cons]; have := HR.out; omega, .inl ⟨rfl, r, rfl⟩⟩
  · rw [← HT1.out, ← HT2.out]
    exact congrArg (fun z => Ending.returned (.string z)) (app_lists _ _)
  · go_grown
set_option maxRecDepth 100000 in
set_option maxHeartbeats 4000000 in
theorem op28 (F : Interp) (x : Int) (h : 0 ≤ x ∧ x ≤ 4294967295) (w : World) (hF : F.told.answers w.tape) (b off cap : Nat) (hg : w.cell? ⟨0, 0, none⟩ = some (.slice (some ⟨b, off, none⟩) 42 cap))
    (hn : w.cell? ⟨b, off + 168, none⟩ = some (.string ⟨#[76, 69]⟩)) (ht : w.cell? ⟨b, off + 173, none⟩ = some (.int .i64 0)) (hlt : b < w.heap.size) (hop : OP x = 28) :
    Calls Tryf.prog 7 #[.int .u32 x] w (TS [76, 69] 0 true x w) := by
  have hF' := answers_open hF
  have g8 := get8 x h w
  rw [hop] at g8
  obtain ⟨T1, hT1⟩ : ∃ T1 : ByteArray, (⟨(HD [76, 69] 0 x).toArray⟩ : ByteArray) = T1 := ⟨_, rfl⟩
  have t1 : FmtStop.textOf (F.told "fmt.Sprintf" [[37, 115, 32, 32, 32, 32, 32, 32, 124, 32, 32, 37, 100, 44, 32, 37, 100, 44, 32, 37, 100], shape9, FmtStop.pack [76, 69], shape3, digits 8 (AA x % 18446744073709551616).toNat, shape3, digits 8 (BB x % 18446744073709551616).toNat, shape3, digits 8 (CC x % 18446744073709551616).toNat] 0) = T1 := (head0 F [76, 69] (by decide) x).trans hT1
  have s1 : T1.size ≤ 1000 := HD_size _ _ _ (by decide) hT1
  have HT1 := Lib.hid hT1
  clear hF hop hT1
  obtain ⟨r, hr, hT2⟩ := tail28 F x
  obtain ⟨T2, hT2e⟩ : ∃ T2 : ByteArray, (⟨(59 :: 32 :: r).toArray⟩ : ByteArray) = T2 := ⟨_, rfl⟩
  have t2 : FmtStop.textOf (F.told "fmt.Sprintf" [[59, 32, 105, 102, 32, 40, 40, 82, 75, 40, 37, 118, 41, 32, 60, 61, 32, 82, 75, 40, 37, 118, 41, 41, 32, 126, 61, 32, 37, 118, 41, 32, 116, 104, 101, 110, 32, 112, 99, 43, 43], shape3, digits 8 (BB x % 18446744073709551616).toNat, shape3, digits 8 (CC x % 18446744073709551616).toNat, shape3, digits 8 (AA x % 18446744073709551616).toNat] 0) = T2 := hT2.trans hT2e
  have s2 : T2.size ≤ 1000 := by rw [← hT2e]; simp only [ByteArray.size, List.size_toArray, List.length_cons]; omega
  have s3 : ¬ 9223372036854775807 < T1.size + T2.size := by omega
  have HT2 := Lib.hid hT2e
  have HR := Lib.hid hr
  clear hT2 hT2e hr s1 s2
  go_enter Tryf.func7, Tryf.ntmps7
  go_wp2_with fail
  refine g8.mono ?_
  clear g8
  rintro e w1 ⟨rfl, rfl⟩
  go_wp2_with (first | (go_at_call 9; refine (get9 x h _).mono ?_; rintro e w1 ⟨rfl, rfl⟩) | (go_at_call 10; refine (get10 x h _).mono ?_; rintro e w1 ⟨rfl, rfl⟩) | (go_at_call 11; refine (get11 x h _).mono ?_; rintro e w1 ⟨rfl, rfl⟩) | (go_at_call 12; refine (get12 x h _).mono ?_; rintro e w1 ⟨rfl, rfl⟩) | (go_at_call 13; refine (get13 x h _).mono ?_; rintro e w1 ⟨rfl, rfl⟩))
  go_ret
  refine ⟨59 :: 32 :: r, ?_, ?_, by simp only [List.length_cons]; have := HR.out; omega, .inl ⟨rfl, r, rfl⟩⟩
  · rw [← HT1.out, ← HT2.out]
    exact congrArg (fun z => Ending.returned (.string z)) (app_lists _ _)
  · go_grown
set_option maxRecDepth 100000 in
set_option maxHeartbeats 4000000 in
theorem op32 (F : Interp) (x : Int) (h : 0 ≤ x ∧ x ≤ 4294967295) (w : World) (hF : F.told.answers w.tape) (b off cap : Nat) (hg : w.cell? ⟨0, 0, none⟩ = some (.slice (some ⟨b, off, none⟩) 42 cap))
    (hn : w.cell? ⟨b, off + 192, none⟩ = some (.string ⟨#[84, 65, 73, 76, 67, 65, 76, 76]⟩)) (ht : w.cell? ⟨b, off + 197, none⟩ = some (.int .i64 0)) (hlt : b < w.heap.size) (hop : OP x = 32) :
    Calls Tryf.prog 7 #[.int .u32 x] w (TS [84, 65, 73, 76, 67, 65, 76, 76] 0 true x w) := by
  have hF' := answers_open hF
  have g8 := get8 x h w
  rw [hop] at g8
  obtain ⟨T1, hT1⟩ : ∃ T1 : ByteArray, (⟨(HD [84, 65, 73, 76, 67, 65, 76, 76] 0 x).toArray⟩ : ByteArray) = T1 := ⟨_, rfl⟩
  have t1 : FmtStop.textOf (F.told "fmt.Sprintf" [[37, 115, 32, 32, 32, 32, 32, 32, 124, 32, 32, 37, 100, 44, 32, 37, 100, 44, 32, 37, 100], shape9, FmtStop.pack [84, 65, 73, 76, 67, 65, 76, 76], shape3, digits 8 (AA x % 18446744073709551616).toNat, shape3, digits 8 (BB x % 18446744073709551616).toNat, shape3, digits 8 (CC x % 18446744073709551616).toNat] 0) = T1 := (head0 F [84, 65, 73, 76, 67, 65, 76, 76] (by decide) x).trans hT1
  have s1 : T1.size ≤ 1000 := HD_size _ _ _ (by decide) hT1
  have HT1 := Lib.hid hT1
  clear hF hop hT1
  obtain ⟨r, hr, hT2⟩ := tail32 F x
  obtain ⟨T2, hT2e⟩ : ∃ T2 : ByteArray, (⟨(59 :: 32 :: r).toArray⟩ : ByteArray) = T2 := ⟨_, rfl⟩
  have t2 : FmtStop.textOf (F.told "fmt.Sprintf" [[59, 32, 114, 101, 116, 117, 114, 110, 32, 82, 40, 37, 118, 41, 40, 82, 40, 37, 118, 43, 49, 41, 32, 46, 46, 46, 32, 82, 40, 37, 118, 43, 37, 118, 45, 49, 41, 41], shape3, digits 8 (AA x % 18446744073709551616).toNat, shape3, digits 8 (AA x % 18446744073709551616).toNat, shape3, digits 8 (AA x % 18446744073709551616).toNat, shape3, digits 8 (BB x % 18446744073709551616).toNat] 0) = T2 := hT2.trans hT2e
  have s2 : T2.size ≤ 1000 := by rw [← hT2e]; simp only [ByteArray.size, List.size_toArray, List.length_cons]; omega
  have s3 : ¬ 9223372036854775807 < T1.size + T2.size := by omega
  have HT2 := Lib.hid hT2e
  have HR := Lib.hid hr
  clear hT2 hT2e hr s1 s2
  go_enter Tryf.func7, Tryf.ntmps7
  go_wp2_with fail
  refine g8.mono ?_
  clear g8
  rintro e w1 ⟨rfl, rfl⟩
  go_wp2_with (first | (go_at_call 9; refine (get9 x h _).mono ?_; rintro e w1 ⟨rfl, rfl⟩) | (go_at_call 10; refine (get10 x h _).mono ?_; rintro e w1 ⟨rfl, rfl⟩) | (go_at_call 11; refine (get11 x h _).mono ?_; rintro e w1 ⟨rfl, rfl⟩) | (go_at_call 12; refine (get12 x h _).mono ?_; rintro e w1 ⟨rfl, rfl⟩) | (go_at_call 13; refine (get13 x h _).mono ?_; rintro e w1 ⟨rfl, rfl⟩))
  go_ret
  refine ⟨59 :: 32 :: r, ?_, ?_, by simp only [List.length_cons]; have := HR.out; omega, .inl ⟨rfl, r, rfl⟩⟩
  · rw [← HT1.out, ← HT2.out]
    exact congrArg (fun z => Ending.returned (.string z)) (app_lists _ _)
  · go_grown
set_option maxRecDepth 100000 in
set_option maxHeartbeats 4000000 in
theorem op36 (F : Interp) (x : Int) (h : 0 ≤ x ∧ x ≤ 4294967295) (w : World) (hF : F.told.answers w.tape) (b off cap : Nat) (hg : w.cell? ⟨0, 0, none⟩ = some (.slice (some ⟨b, off, none⟩) 42 cap))
    (hn : w.cell? ⟨b, off + 216, none⟩ = some (.string ⟨#[84, 70, 79, 82, 76, 79, 79, 80]⟩)) (ht : w.cell? ⟨b, off + 221, none⟩ = some (.int .i64 0)) (hlt : b < w.heap.size) (hop : OP x = 36) :
    Calls Tryf.prog 7 #[.int .u32 x] w (TS [84, 70, 79, 82, 76, 79, 79, 80] 0 true x w) := by
  have hF' := answers_open hF
  have g8 := get8 x h w
  rw [hop] at g8
  obtain ⟨T1, hT1⟩ : ∃ T1 : ByteArray, (⟨(HD [84, 70, 79, 82, 76, 79, 79, 80] 0 x).toArray⟩ : ByteArray) = T1 := ⟨_, rfl⟩
  have t1 : FmtStop.textOf (F.told "fmt.Sprintf" [[37, 115, 32, 32, 32, 32, 32, 32, 124, 32, 32, 37, 100, 44, 32, 37, 100, 44, 32, 37, 100], shape9, FmtStop.pack [84, 70, 79, 82, 76, 79, 79, 80], shape3, digits 8 (AA x % 18446744073709551616).toNat, shape3, digits 8 (BB x % 18446744073709551616).toNat, shape3, digits 8 (CC x % 18446744073709551616).toNat] 0) = T1 := (head0 F [84, 70, 79, 82, 76, 79, 79, 80] (by decide) x).trans hT1
  have s1 : T1.size ≤ 1000 := HD_size _ _ _ (by decide) hT1
  have HT1 := Lib.hid hT1
  clear hF hop hT1
  obtain ⟨r, hr, hT2⟩ := tail36 F x
  obtain ⟨T2, hT2e⟩ : ∃ T2 : ByteArray, (⟨(59 :: 32 :: r).toArray⟩ : ByteArray) = T2 := ⟨_, rfl⟩
  have t2 : FmtStop.textOf (F.told "fmt.Sprintf" [[59, 32, 82, 40, 37, 118, 43, 51, 41, 32, 46, 46, 46, 32, 82, 40, 37, 118, 43, 51, 43, 37, 118, 41, 32, 58, 61, 32, 82, 40, 37, 118, 41, 40, 82, 40, 37, 118, 43, 49, 41, 32, 82, 40, 37, 118, 43, 50, 41, 41, 59, 32, 105, 102, 32, 82, 40, 37, 118, 43, 51, 41, 32, 126, 61, 32, 110, 105, 108, 32, 116, 104, 101, 110, 32, 123, 32, 112, 99, 43, 43, 59, 32, 82, 40, 37, 118, 43, 50, 41, 61, 82, 40, 37, 118, 43, 51, 41, 59, 32, 125], shape3, digits 8 (AA x % 18446744073709551616).toNat, shape3, digits 8 (AA x % 18446744073709551616).toNat, shape3, digits 8 (CC x % 18446744073709551616).toNat, shape3, digits 8 (AA x % 18446744073709551616).toNat, shape3, digits 8 (AA x % 18446744073709551616).toNat, shape3, digits 8 (AA x % 18446744073709551616).toNat, shape3, digits 8 (AA x % 18446744073709551616).toNat, shape3, digits 8 (AA x % 18446744073709551616).toNat, shape3, digits 8 (AA x % 18446744073709551616).toNat] 0) = T2 := hT2.trans hT2e
  have s2 : T2.size ≤ 1000 := by rw [← hT2e]; simp only [ByteArray.size, List.size_toArray, List.length_cons]; omega
  have s3 : ¬ 9223372036854775807 < T1.size + T2.size := by omega
  have HT2 := Lib.hid hT2e
  have HR := Lib.hid hr
  clear hT2 hT2e hr s1 s2
  go_enter Tryf.func7, Tryf.ntmps7
  go_wp2_with fail
  refine g8.mono ?_
  clear g8
  rintro e w1 ⟨rfl, rfl⟩
  go_wp2_with (first | (go_at_call 9; refine (get9 x h _).mono ?_; rintro e w1 ⟨rfl, rfl⟩) | (go_at_call 10; refine (get10 x h _).mono ?_; rintro e w1 ⟨rfl, rfl⟩) | (go_at_call 11; refine (get11 x h _).mono ?_; rintro e w1 ⟨rfl, rfl⟩) | (go_at_call 12; refine (get12 x h _).mono ?_; rintro e w1 ⟨rfl, rfl⟩) | (go_at_call 13; refine (get13 x h _).mono ?_; rintro e w1 ⟨rfl, rfl⟩))
  go_ret
  refine ⟨59 :: 32 :: r, ?_, ?_, by simp only [List.length_cons]; have := HR.out; omega, .inl ⟨rfl, r, rfl⟩⟩
  · rw [← HT1.out, ← HT2.out]
    exact congrArg (fun z => Ending.returned (.string z)) (app_lists _ _)
  · go_grown
set_option maxRecDepth 100000 in
set_option maxHeartbeats 4000000 in
theorem op40 (F : Interp) (x : Int) (h : 0 ≤ x ∧ x ≤ 4294967295) (w : World) (hF : F.told.answers w.tape) (b off cap : Nat) (hg : w.cell? ⟨0, 0, none⟩ = some (.slice (some ⟨b, off, none⟩) 42 cap))
    (hn : w.cell? ⟨b, off + 240, none⟩ = some (.string ⟨#[86, 65, 82, 65, 82, 71]⟩)) (ht : w.cell? ⟨b, off + 245, none⟩ = some (.int .i64 0)) (hlt : b < w.heap.size) (hop : OP x = 40) :
    Calls Tryf.prog 7 #[.int .u32 x] w (TS [86, 65, 82, 65, 82, 71] 0 true x w) := by
  have hF' := answers_open hF
  have g8 := get8 x h w
  rw [hop] at g8
  obtain ⟨T1, hT1⟩ : ∃ T1 : ByteArray, (⟨(HD [86, 65, 82, 65, 82, 71] 0 x).toArray⟩ : ByteArray) = T1 := ⟨_, rfl⟩
  have t1 : FmtStop.textOf (F.told "fmt.Sprintf" [[37, 115, 32, 32, 32, 32, 32, 32, 124, 32, 32, 37, 100, 44, 32, 37, 100, 44, 32, 37, 100], shape9, FmtStop.pack [86, 65, 82, 65, 82, 71], shape3, digits 8 (AA x % 18446744073709551616).toNat, shape3, digits 8 (BB x % 18446744073709551616).toNat, shape3, digits 8 (CC x % 18446744073709551616).toNat] 0) = T1 := (head0 F [86, 65, 82, 65, 82, 71] (by decide) x).trans hT1
  have s1 : T1.size ≤ 1000 := HD_size _ _ _ (by decide) hT1
  have HT1 := Lib.hid hT1
  clear hF hop hT1
  obtain ⟨r, hr, hT2⟩ := tail40 F x
  obtain ⟨T2, hT2e⟩ : ∃ T2 : ByteArray, (⟨(59 :: 32 :: r).toArray⟩ : ByteArray) = T2 := ⟨_, rfl⟩
  have t2 : FmtStop.textOf (F.told "fmt.Sprintf" [[59, 32, 32, 82, 40, 37, 118, 41, 32, 82, 40, 37, 118, 43, 49, 41, 32, 46, 46, 46, 32, 82, 40, 37, 118, 43, 37, 118, 45, 49, 41, 32, 61, 32, 118, 97, 114, 97, 114, 103], shape3, digits 8 (AA x % 18446744073709551616).toNat, shape3, digits 8 (AA x % 18446744073709551616).toNat, shape3, digits 8 (AA x % 18446744073709551616).toNat, shape3, digits 8 (BB x % 18446744073709551616).toNat] 0) = T2 := hT2.trans hT2e
  have s2 : T2.size ≤ 1000 := by rw [← hT2e]; simp only [ByteArray.size, List.size_toArray, List.length_cons]; omega
  have s3 : ¬ 9223372036854775807 < T1.size + T2.size := by omega
  have HT2 := Lib.hid hT2e
  have HR := Lib.hid hr
  clear hT2 hT2e hr s1 s2
  go_enter Tryf.func7, Tryf.ntmps7
  go_wp2_with fail
  refine g8.mono ?_
  clear g8
  rintro e w1 ⟨rfl, rfl⟩
  go_wp2_with (first | (go_at_call 9; refine (get9 x h _).mono ?_; rintro e w1 ⟨rfl, rfl⟩) | (go_at_call 10; refine (get10 x h _).mono ?_; rintro e w1 ⟨rfl, rfl⟩) | (go_at_call 11; refine (get11 x h _).mono ?_; rintro e w1 ⟨rfl, rfl⟩) | (go_at_call 12; refine (get12 x h _).mono ?_; rintro e w1 ⟨rfl, rfl⟩) | (go_at_call 13; refine (get13 x h _).mono ?_; rintro e w1 ⟨rfl, rfl⟩))
  go_ret
  refine ⟨59 :: 32 :: r, ?_, ?_, by simp only [List.length_cons]; have := HR.out; omega, .inl ⟨rfl, r, rfl⟩⟩
  · rw [← HT1.out, ← HT2.out]
    exact congrArg (fun z => Ending.returned (.string z)) (app_lists _ _)
  · go_grown
end Go.Proofs.YtddojkdaajfmcaaFmt
