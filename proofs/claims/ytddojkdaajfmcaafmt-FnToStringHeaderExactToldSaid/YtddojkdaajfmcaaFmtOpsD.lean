/- opToString, walked at each opcode: written by our program wip/mk74.py. -/
import Derived.Test.YtddojkdaajfmcaaFmtTell
import Derived.Handy
namespace Go.Proofs.YtddojkdaajfmcaaFmt
set_option linter.unusedVariables false
open Go.RowKit Go.Extern.Stop Go.Stop Go.Extern Go.Kit
set_option maxRecDepth 100000 in
set_option maxHeartbeats 4000000 in
theorem op3 (F : Interp) (x : Int) (h : 0 ≤ x ∧ x ≤ 4294967295) (w : World) (hF : F.told.answers w.tape) (b off cap : Nat) (hg : w.cell? ⟨0, 0, none⟩ = some (.slice (some ⟨b, off, none⟩) 42 cap))
    (hn : w.cell? ⟨b, off + 18, none⟩ = some (.string ⟨#[76, 79, 65, 68, 66, 79, 79, 76]⟩)) (ht : w.cell? ⟨b, off + 23, none⟩ = some (.int .i64 0)) (hlt : b < w.heap.size) (hop : OP x = 3) :
    Calls Tryf.prog 7 #[.int .u32 x] w (TS [76, 79, 65, 68, 66, 79, 79, 76] 0 true x w) := by
  have hF' := answers_open hF
  have g8 := get8 x h w
  rw [hop] at g8
  obtain ⟨T1, hT1⟩ : ∃ T1 : ByteArray, (⟨(HD [76, 79, 65, 68, 66, 79, 79, 76] 0 x).toArray⟩ : ByteArray) = T1 := ⟨_, rfl⟩
  have t1 : FmtStop.textOf (F.told "fmt.Sprintf" [[37, 115, 32, 32, 32, 32, 32, 32, 124, 32, 32, 37, 100, 44, 32, 37, 100, 44, 32, 37, 100], shape9, FmtStop.pack [76, 79, 65, 68, 66, 79, 79, 76], shape3, digits 8 (AA x % 18446744073709551616).toNat, shape3, digits 8 (BB x % 18446744073709551616).toNat, shape3, digits 8 (CC x % 18446744073709551616).toNat] 0) = T1 := (head0 F [76, 79, 65, 68, 66, 79, 79, 76] (by decide) x).trans hT1
  have s1 : T1.size ≤ 1000 := HD_size _ _ _ (by decide) hT1
  have HT1 := Lib.hid hT1
  clear hF hop hT1
  obtain ⟨r, hr, hT2⟩ := tail3 F x
  obtain ⟨T2, hT2e⟩ : ∃ T2 : ByteArray, (⟨(59 :: 32 :: r).toArray⟩ : ByteArray) = T2 := ⟨_, rfl⟩
  have t2 : FmtStop.textOf (F.told "fmt.Sprintf" [[59, 32, 82, 40, 37, 118, 41, 32, 58, 61, 32, 40, 66, 111, 111, 108, 41, 37, 118, 59, 32, 105, 102, 32, 40, 37, 118, 41, 32, 112, 99, 43, 43], shape3, digits 8 (AA x % 18446744073709551616).toNat, shape3, digits 8 (BB x % 18446744073709551616).toNat, shape3, digits 8 (CC x % 18446744073709551616).toNat] 0) = T2 := hT2.trans hT2e
  have s2 : T2.size ≤ 1000 := by rw [← hT2e]; simp only [ByteArray.size, List.size_toArray, List.length_cons]; omega
  have s3 : ¬ 9223372036854775807 < T1.size + T2.size := by omega
  have HT2 := Lib.hid hT2e
  have HR := Lib.hid hr
  clear hT2 hT2e hr s1 s2
  go_enter Tryf.func7, Tryf.ntmps7
  go_wp2_with fail
  refine g8.mono ?_
  clear g8
  rintro e w1 ⟨rfl, rfl⟩
  go_wp2_with (first | (go_at_call 9; refine (get9 x h _).mono ?_; rintro e w1 ⟨rfl, rfl⟩) | (go_at_call 10; refine (get10 x h _).mono ?_; rintro e w1 ⟨rfl, rfl⟩) | (go_at_call 11; refine (get11 x h _).mono ?_; rintro e w1 ⟨rfl, rfl⟩) | (go_at_call 12; refine (get12 x h _).mono ?_; rintro e w1 ⟨rfl, rfl⟩) | (go_at_call 13; refine (get13 x h _).mono ?_; rintro e w1 ⟨rfl, rfl⟩))
  go_ret
  refine ⟨59 :: 32 :: r, ?_, ?_, by simp only [List.length_cons]; have := HR.out; omega, .inl ⟨rfl, r, rfl⟩⟩
  · rw [← HT1.out, ← HT2.out]
    exact congrArg (fun z => Ending.returned (.string z)) (app_lists _ _)
  · go_grown
set_option maxRecDepth 100000 in
set_option maxHeartbeats 4000000 in
theorem op7 (F : Interp) (x : Int) (h : 0 ≤ x ∧ x ≤ 4294967295) (w : World) (hF : F.told.answers w.tape) (b off cap : Nat) (hg : w.cell? ⟨0, 0, none⟩ = some (.slice (some ⟨b, off, none⟩) 42 cap))
    (hn : w.cell? ⟨b, off + 42, none⟩ = some (.string ⟨#[71, 69, 84, 84, 65, 66, 76, 69]⟩)) (ht : w.cell? ⟨b, off + 47, none⟩ = some (.int .i64 0)) (hlt : b < w.heap.size) (hop : OP x = 7) :
    Calls Tryf.prog 7 #[.int .u32 x] w (TS [71, 69, 84, 84, 65, 66, 76, 69] 0 true x w) := by
  have hF' := answers_open hF
  have g8 := get8 x h w
  rw [hop] at g8
  obtain ⟨T1, hT1⟩ : ∃ T1 : ByteArray, (⟨(HD [71, 69, 84, 84, 65, 66, 76, 69] 0 x).toArray⟩ : ByteArray) = T1 := ⟨_, rfl⟩
  have t1 : FmtStop.textOf (F.told "fmt.Sprintf" [[37, 115, 32, 32, 32, 32, 32, 32, 124, 32, 32, 37, 100, 44, 32, 37, 100, 44, 32, 37, 100], shape9, FmtStop.pack [71, 69, 84, 84, 65, 66, 76, 69], shape3, digits 8 (AA x % 18446744073709551616).toNat, shape3, digits 8 (BB x % 18446744073709551616).toNat, shape3, digits 8 (CC x % 18446744073709551616).toNat] 0) = T1 := (head0 F [71, 69, 84, 84, 65, 66, 76, 69] (by decide) x).trans hT1
  have s1 : T1.size ≤ 1000 := HD_size _ _ _ (by decide) hT1
  have HT1 := Lib.hid hT1
  clear hF hop hT1
  obtain ⟨r, hr, hT2⟩ := tail7 F x
  obtain ⟨T2, hT2e⟩ : ∃ T2 : ByteArray, (⟨(59 :: 32 :: r).toArray⟩ : ByteArray) = T2 := ⟨_, rfl⟩
  have t2 : FmtStop.textOf (F.told "fmt.Sprintf" [[59, 32, 82, 40, 37, 118, 41, 32, 58, 61, 32, 82, 40, 37, 118, 41, 91, 82, 75, 40, 37, 118, 41, 93], shape3, digits 8 (AA x % 18446744073709551616).toNat, shape3, digits 8 (BB x % 18446744073709551616).toNat, shape3, digits 8 (CC x % 18446744073709551616).toNat] 0) = T2 := hT2.trans hT2e
  have s2 : T2.size ≤ 1000 := by rw [← hT2e]; simp only [ByteArray.size, List.size_toArray, List.length_cons]; omega
  have s3 : ¬ 9223372036854775807 < T1.size + T2.size := by omega
  have HT2 := Lib.hid hT2e
  have HR := Lib.hid hr
  clear hT2 hT2e hr s1 s2
  go_enter Tryf.func7, Tryf.ntmps7
  go_wp2_with fail
  refine g8.mono ?_
  clear g8
  rintro e w1 ⟨rfl, rfl⟩
  go_wp2_with (first | (go_at_call 9; refine (get9 x h _).mono ?_; rintro e w1 ⟨rfl, rfl⟩) | (go_at_call 10; refine (get10 x h _).mono ?_; rintro e w1 ⟨rfl, rfl⟩) | (go_at_call 11; refine (get11 x h _).mono ?_; rintro e w1 ⟨rfl, rfl⟩) | (go_at_call 12; refine (get12 x h _).mono ?_; rintro e w1 ⟨rfl, rfl⟩) | (go_at_call 13; refine (get13 x h _).mono ?_; rintro e w1 ⟨rfl, rfl⟩))
  go_ret
  refine ⟨59 :: 32 :: r, ?_, ?_, by simp only [List.length_cons]; have := HR.out; omega, .inl ⟨rfl, r, rfl⟩⟩
  · rw [← HT1.out, ← HT2.out]
    exact congrArg (fun z => Ending.returned (.string z)) (app_lists _ _)
  · go_grown
set_option maxRecDepth 100000 in
set_option maxHeartbeats 4000000 in
theorem op11 (F : Interp) (x : Int) (h : 0 ≤ x ∧ x ≤ 4294967295) (w : World) (hF : F.told.answers w.tape) (b off cap : Nat) (hg : w.cell? ⟨0, 0, none⟩ = some (.slice (some ⟨b, off, none⟩) 42 cap))
    (hn : w.cell? ⟨b, off + 66, none⟩ = some (.string ⟨#[83, 69, 84, 84, 65, 66, 76, 69]⟩)) (ht : w.cell? ⟨b, off + 71, none⟩ = some (.int .i64 0)) (hlt : b < w.heap.size) (hop : OP x = 11) :
    Calls Tryf.prog 7 #[.int .u32 x] w (TS [83, 69, 84, 84, 65, 66, 76, 69] 0 true x w) := by
  have hF' := answers_open hF
  have g8 := get8 x h w
  rw [hop] at g8
  obtain ⟨T1, hT1⟩ : ∃ T1 : ByteArray, (⟨(HD [83, 69, 84, 84, 65, 66, 76, 69] 0 x).toArray⟩ : ByteArray) = T1 := ⟨_, rfl⟩
  have t1 : FmtStop.textOf (F.told "fmt.Sprintf" [[37, 115, 32, 32, 32, 32, 32, 32, 124, 32, 32, 37, 100, 44, 32, 37, 100, 44, 32, 37, 100], shape9, FmtStop.pack [83, 69, 84, 84, 65, 66, 76, 69], shape3, digits 8 (AA x % 18446744073709551616).toNat, shape3, digits 8 (BB x % 18446744073709551616).toNat, shape3, digits 8 (CC x % 18446744073709551616).toNat] 0) = T1 := (head0 F [83, 69, 84, 84, 65, 66, 76, 69] (by decide) x).trans hT1
  have s1 : T1.size ≤ 1000 := HD_size _ _ _ (by decide) hT1
  have HT1 := Lib.hid hT1
  clear hF hop hT1
  obtain ⟨r, hr, hT2⟩ := tail11 F x
  obtain ⟨T2, hT2e⟩ : ∃ T2 : ByteArray, (⟨(59 :: 32 :: r).toArray⟩ : ByteArray) = T2 := ⟨_, rfl⟩
  have t2 : FmtStop.textOf (F.told "fmt.Sprintf" [[59, 32, 82, 40, 37, 118, 41, 91, 82, 75, 40, 37, 118, 41, 93, 32, 58, 61, 32, 82, 75, 40, 37, 118, 41], shape3, digits 8 (AA x % 18446744073709551616).toNat, shape3, digits 8 (BB x % 18446744073709551616).toNat, shape3, digits 8 (CC x % 18446744073709551616).toNat] 0) = T2 := hT2.trans hT2e
  have s2 : T2.size ≤ 1000 := by rw [← hT2e]; simp only [ByteArray.size, List.size_toArray, List.length_cons]; omega
  have s3 : ¬ 9223372036854775807 < T1.size + T2.size := by omega
  have HT2 := Lib.hid hT2e
  have HR := Lib.hid hr
  clear hT2 hT2e hr s1 s2
  go_enter Tryf.func7, Tryf.ntmps7
  go_wp2_with fail
  refine g8.mono ?_
  clear g8
  rintro e w1 ⟨rfl, rfl⟩
  go_wp2_with (first | (go_at_call 9; refine (get9 x h _).mono ?_; rintro e w1 ⟨rfl, rfl⟩) | (go_at_call 10; refine (get10 x h _).mono ?_; rintro e w1 ⟨rfl, rfl⟩) | (go_at_call 11; refine (get11 x h _).mono ?_; rintro e w1 ⟨rfl, rfl⟩) | (go_at_call 12; refine (get12 x h _).mono ?_; rintro e w1 ⟨rfl, rfl⟩) | (go_at_call 13; refine (get13 x h _).mono ?_; rintro e w1 ⟨rfl, rfl⟩))
  go_ret
  refine ⟨59 :: 32 :: r, ?_, ?_, by simp only [List.length_cons]; have := HR.out; omega, .inl ⟨rfl, r, rfl⟩⟩
  · rw [← HT1.out, ← HT2.out]
    exact congrArg (fun z => Ending.returned (.string z)) (app_lists _ _)
  · go_grown
set_option maxRecDepth 100000 in
set_option maxHeartbeats 4000000 in
theorem op15 (F : Interp) (x : Int) (h : 0 ≤ x ∧ x ≤ 4294967295) (w : World) (hF : F.told.answers w.tape) (b off cap : Nat) (hg : w.cell? ⟨0, 0, none⟩ = some (.slice (some ⟨b, off, none⟩) 42 cap))
    (hn : w.cell? ⟨b, off + 90, none⟩ = some (.string ⟨#[65, 68, 68]⟩)) (ht : w.cell? ⟨b, off + 95, none⟩ = some (.int .i64 0)) (hlt : b < w.heap.size) (hop : OP x = 15) :
    Calls Tryf.prog 7 #[.int .u32 x] w (TS [65, 68, 68] 0 true x w) := by
  have hF' := answers_open hF
  have g8 := get8 x h w
  rw [hop] at g8
  obtain ⟨T1, hT1⟩ : ∃ T1 : ByteArray, (⟨(HD [65, 68, 68] 0 x).toArray⟩ : ByteArray) = T1 := ⟨_, rfl⟩
  have t1 : FmtStop.textOf (F.told "fmt.Sprintf" [[37, 115, 32, 32, 32, 32, 32, 32, 124, 32, 32, 37, 100, 44, 32, 37, 100, 44, 32, 37, 100], shape9, FmtStop.pack [65, 68, 68], shape3, digits 8 (AA x % 18446744073709551616).toNat, shape3, digits 8 (BB x % 18446744073709551616).toNat, shape3, digits 8 (CC x % 18446744073709551616).toNat] 0) = T1 := (head0 F [65, 68, 68] (by decide) x).trans hT1
  have s1 : T1.size ≤ 1000 := HD_size _ _ _ (by decide) hT1
  have HT1 := Lib.hid hT1
  clear hF hop hT1
  obtain ⟨r, hr, hT2⟩ := tail15 F x
  obtain ⟨T2, hT2e⟩ : ∃ T2 : ByteArray, (⟨(59 :: 32 :: r).toArray⟩ : ByteArray) = T2 := ⟨_, rfl⟩
  have t2 : FmtStop.textOf (F.told "fmt.Sprintf" [[59, 32, 82, 40, 37, 118, 41, 32, 58, 61, 32, 82, 75, 40, 37, 118, 41, 32, 43, 32, 82, 75, 40, 37, 118, 41], shape3, digits 8 (AA x % 18446744073709551616).toNat, shape3, digits 8 (BB x % 18446744073709551616).toNat, shape3, digits 8 (CC x % 18446744073709551616).toNat] 0) = T2 := hT2.trans hT2e
  have s2 : T2.size ≤ 1000 := by rw [← hT2e]; simp only [ByteArray.size, List.size_toArray, List.length_cons]; omega
  have s3 : ¬ 9223372036854775807 < T1.size + T2.size := by omega
  have HT2 := Lib.hid hT2e
  have HR := Lib.hid hr
  clear hT2 hT2e hr s1 s2
  go_enter Tryf.func7, Tryf.ntmps7
  go_wp2_with fail
  refine g8.mono ?_
  clear g8
  rintro e w1 ⟨rfl, rfl⟩
  go_wp2_with (first | (go_at_call 9; refine (get9 x h _).mono ?_; rintro e w1 ⟨rfl, rfl⟩) | (go_at_call 10; refine (get10 x h _).mono ?_; rintro e w1 ⟨rfl, rfl⟩) | (go_at_call 11; refine (get11 x h _).mono ?_; rintro e w1 ⟨rfl, rfl⟩) | (go_at_call 12; refine (get12 x h _).mono ?_; rintro e w1 ⟨rfl, rfl⟩) | (go_at_call 13; refine (get13 x h _).mono ?_; rintro e w1 ⟨rfl, rfl⟩))
  go_ret
  refine ⟨59 :: 32 :: r, ?_, ?_, by simp only [List.length_cons]; have := HR.out; omega, .inl ⟨rfl, r, rfl⟩⟩
  · rw [← HT1.out, ← HT2.out]
    exact congrArg (fun z => Ending.returned (.string z)) (app_lists _ _)
  · go_grown
set_option maxRecDepth 100000 in
set_option maxHeartbeats 4000000 in
theorem op19 (F : Interp) (x : Int) (h : 0 ≤ x ∧ x ≤ 4294967295) (w : World) (hF : F.told.answers w.tape) (b off cap : Nat) (hg : w.cell? ⟨0, 0, none⟩ = some (.slice (some ⟨b, off, none⟩) 42 cap))
    (hn : w.cell? ⟨b, off + 114, none⟩ = some (.string ⟨#[77, 79, 68]⟩)) (ht : w.cell? ⟨b, off + 119, none⟩ = some (.int .i64 0)) (hlt : b < w.heap.size) (hop : OP x = 19) :
    Calls Tryf.prog 7 #[.int .u32 x] w (TS [77, 79, 68] 0 true x w) := by
  have hF' := answers_open hF
  have g8 := get8 x h w
  rw [hop] at g8
  obtain ⟨T1, hT1⟩ : ∃ T1 : ByteArray, (⟨(HD [77, 79, 68] 0 x).toArray⟩ : ByteArray) = T1 := ⟨_, rfl⟩
  have t1 : FmtStop.textOf (F.told "fmt.Sprintf" [[37, 115, 32, 32, 32, 32, 32, 32, 124, 32, 32, 37, 100, 44, 32, 37, 100, 44, 32, 37, 100], shape9, FmtStop.pack [77, 79, 68], shape3, digits 8 (AA x % 18446744073709551616).toNat, shape3, digits 8 (BB x % 18446744073709551616).toNat, shape3, digits 8 (CC x % 18446744073709551616).toNat] 0) = T1 := (head0 F [77, 79, 68] (by decide) x).trans hT1
  have s1 : T1.size ≤ 1000 := HD_size _ _ _ (by decide) hT1
  have HT1 := Lib.hid hT1
  clear hF hop hT1
  obtain ⟨r, hr, hT2⟩ := tail19 F x
  obtain ⟨T2, hT2e⟩ : ∃ T2 : ByteArray, (⟨(59 :: 32 :: r).toArray⟩ : ByteArray) = T2 := ⟨_, rfl⟩
  have t2 : FmtStop.textOf (F.told "fmt.Sprintf" [[59, 32, 82, 40, 37, 118, 41, 32, 58, 61, 32, 82, 75, 40, 37, 118, 41, 32, 37, 37, 32, 82, 75, 40, 37, 118, 41], shape3, digits 8 (AA x % 18446744073709551616).toNat, shape3, digits 8 (BB x % 18446744073709551616).toNat, shape3, digits 8 (CC x % 18446744073709551616).toNat] 0) = T2 := hT2.trans hT2e
  have s2 : T2.size ≤ 1000 := by rw [← hT2e]; simp only [ByteArray.size, List.size_toArray, List.length_cons]; omega
  have s3 : ¬ 9223372036854775807 < T1.size + T2.size := by omega
  have HT2 := Lib.hid hT2e
  have HR := Lib.hid hr
  clear hT2 hT2e hr s1 s2
  go_enter Tryf.func7, Tryf.ntmps7
  go_wp2_with fail
  refine g8.mono ?_
  clear g8
  rintro e w1 ⟨rfl, rfl⟩
  go_wp2_with (first | (go_at_call 9; refine (get9 x h _).mono ?_; rintro e w1 ⟨rfl, rfl⟩) | (go_at_call 10; refine (get10 x h _).mono ?_; rintro e w1 ⟨rfl, rfl⟩) | (go_at_call 11; refine (get11 x h _).mono ?_; rintro e w1 ⟨rfl, rfl⟩) | (go_at_call 12; refine (get12 x h _).mono ?_; rintro e w1 ⟨rfl, rfl⟩) | (go_at_call 13; refine (get13 x h _).mono ?_; rintro e w1 ⟨rfl, rfl⟩))
  go_ret
  refine ⟨59 :: 32 :: r, ?_, ?_, by simp only [List.length_cons]; have := HR.out; omega, .inl ⟨rfl, r, rfl⟩⟩
  · rw [← HT1.out, ← HT2.out]
    exact congrArg (fun z => Ending.returned (.string z)) (app_lists _ _)
  · go_grown
set_option maxRecDepth 100000 in
set_option maxHeartbeats 4000000 in
theorem op23 (F : Interp) (x : Int) (h : 0 ≤ x ∧ x ≤ 4294967295) (w : World) (hF : F.told.answers w.tape) (b off cap : Nat) (hg : w.cell? ⟨0, 0, none⟩ = some (.slice (some ⟨b, off, none⟩) 42 cap))
    (hn : w.cell? ⟨b, off + 138, none⟩ = some (.string ⟨#[76, 69, 78]⟩)) (ht : w.cell? ⟨b, off + 143, none⟩ = some (.int .i64 0)) (hlt : b < w.heap.size) (hop : OP x = 23) :
    Calls Tryf.prog 7 #[.int .u32 x] w (TS [76, 69, 78] 0 true x w) := by
  have hF' := answers_open hF
  have g8 := get8 x h w
  rw [hop] at g8
  obtain ⟨T1, hT1⟩ : ∃ T1 : ByteArray, (⟨(HD [76, 69, 78] 0 x).toArray⟩ : ByteArray) = T1 := ⟨_, rfl⟩
  have t1 : FmtStop.textOf (F.told "fmt.Sprintf" [[37, 115, 32, 32, 32, 32, 32, 32, 124, 32, 32, 37, 100, 44, 32, 37, 100, 44, 32, 37, 100], shape9, FmtStop.pack [76, 69, 78], shape3, digits 8 (AA x % 18446744073709551616).toNat, shape3, digits 8 (BB x % 18446744073709551616).toNat, shape3, digits 8 (CC x % 18446744073709551616).toNat] 0) = T1 := (head0 F [76, 69, 78] (by decide) x).trans hT1
  have s1 : T1.size ≤ 1000 := HD_size _ _ _ (by decide) hT1
  have HT1 := Lib.hid hT1
  clear hF hop hT1
  obtain ⟨r, hr, hT2⟩ := tail23 F x
  obtain ⟨T2, hT2e⟩ : ∃ T2 : ByteArray, (⟨(59 :: 32 :: r).toArray⟩ : ByteArray) = T2 := ⟨_, rfl⟩
  have t2 : FmtStop.textOf (F.told "fmt.Sprintf" [[59, 32, 82, 40, 37, 118, 41, 32, 58, 61, 32, 108, 101, 110, 103, 116, 104, 32, 111, 102, 32, 82, 40, 37, 118, 41], shape3, digits 8 (AA x % 18446744073709551616).toNat, shape3, digits 8 (BB x % 18446744073709551616).toNat] 0) = T2 := hT2.trans hT2e
  have s2 : T2.size ≤ 1000 := by rw [← hT2e]; simp only [ByteArray.size, List.size_toArray, List.length_cons]; omega
  have s3 : ¬ 9223372036854775807 < T1.size + T2.size := by omega
  have HT2 := Lib.hid hT2e
  have HR := Lib.hid hr
  clear hT2 hT2e hr s1 s2
  go_enter Tryf.func7, Tryf.ntmps7
  go_wp2_with fail
  refine g8.mono ?_
  clear g8
  rintro e w1 ⟨rfl, rfl⟩
  go_wp2_with (first | (go_at_call 9; refine (get9 x h _).mono ?_; rintro e w1 ⟨rfl, rfl⟩) | (go_at_call 10; refine (get10 x h _).mono ?_; rintro e w1 ⟨rfl, rfl⟩) | (go_at_call 11; refine (get11 x h _).mono ?_; rintro e w1 ⟨rfl, rfl⟩) | (go_at_call 12; refine (get12 x h _).mono ?_; rintro e w1 ⟨rfl, rfl⟩) | (go_at_call 13; refine (get13 x h _).mono ?_; rintro e w1 ⟨rfl, rfl⟩))
  go_ret
  refine ⟨59 :: 32 :: r, ?_, ?_, by simp only [List.length_cons]; have := HR.out; omega, .inl ⟨rfl, r, rfl⟩⟩
  · rw [← HT1.out, ← HT2.out]
    exact congrArg (fun z => Ending.returned (.string z)) (app_lists _ _)
  · go_grown
set_option maxRecDepth 100000 in
set_option maxHeartbeats 4000000 in
theorem op27 (F : Interp) (x : Int) (h : 0 ≤ x ∧ x ≤ 4294967295) (w : World) (hF : F.told.answers w.tape) (b off cap : Nat) (hg : w.cell? ⟨0, 0, none⟩ = some (.slice (some ⟨b, off, none⟩) 42 cap))
    (hn : w.cell? ⟨b, off + 162, none⟩ = some (.string ⟨#[76, 84]⟩)) (ht : w.cell? ⟨b, off + 167, none⟩ = some (.int .i64 0)) (hlt : b < w.heap.size) (hop : OP x = 27) :
    Calls Tryf.prog 7 #[.int .u32 x] w (TS [76, 84] 0 true x w) := by
  have hF' := answers_open hF
  have g8 := get8 x h w
  rw [hop] at g8
  obtain ⟨T1, hT1⟩ : ∃ T1 : ByteArray, (⟨(HD [76, 84] 0 x).toArray⟩ : ByteArray) = T1 := ⟨_, rfl⟩
  have t1 : FmtStop.textOf (F.told "fmt.Sprintf" [[37, 115, 32, 32, 32, 32, 32, 32, 124, 32, 32, 37, 100, 44, 32, 37, 100, 44, 32, 37, 100], shape9, FmtStop.pack [76, 84], shape3, digits 8 (AA x % 18446744073709551616).toNat, shape3, digits 8 (BB x % 18446744073709551616).toNat, shape3, digits 8 (CC x % 18446744073709551616).toNat] 0) = T1 := (head0 F [76, 84] (by decide) x).trans hT1
  have s1 : T1.size ≤ 1000 := HD_size _ _ _ (by decide) hT1
  have HT1 := Lib.hid hT1
  clear hF hop hT1
  obtain ⟨r, hr, hT2⟩ := tail27 F x
  obtain ⟨T2, hT2e⟩ : ∃ T2 : ByteArray, (⟨(59 :: 32 :: r).toArray⟩ : ByteArray) = T2 := ⟨_, rfl⟩
  have t2 : FmtStop.textOf (F.told "fmt.Sprintf" [[59, 32, 105, 102, 32, 40, 40, 82, 75, 40, 37, 118, 41, 32, 60, 32, 32, 82, 75, 40, 37, 118, 41, 41, 32, 126, 61, 32, 37, 118, 41, 32, 116, 104, 101, 110, 32, 112, 99, 43, 43], shape3, digits 8 (BB x % 18446744073709551616).toNat, shape3, digits 8 (CC x % 18446744073709551616).toNat, shape3, digits 8 (AA x % 18446744073709551616).toNat] 0) = T2 := hT2.trans hT2e
  have s2 : T2.size ≤ 1000 := by rw [← hT2e]; simp only [ByteArray.size, List.size_toArray, List.length_cons]; omega
  have s3 : ¬ 9223372036854775807 < T1.size + T2.size := by omega
  have HT2 := Lib.hid hT2e
  have HR := Lib.hid hr
  clear hT2 hT2e hr s1 s2
  go_enter Tryf.func7, Tryf.ntmps7
  go_wp2_with fail
  refine g8.mono ?_
  clear g8
  rintro e w1 ⟨rfl, rfl⟩
  go_wp2_with (first | (go_at_call 9; refine (get9 x h _).mono ?_; rintro e w1 ⟨rfl, rfl⟩) | (go_at_call 10; refine (get10 x h _).mono ?_; rintro e w1 ⟨rfl, rfl⟩) | (go_at_call 11; refine (get11 x h _).mono ?_; rintro e w1 ⟨rfl, rfl⟩) | (go_at_call 12; refine (get12 x h _).mono ?_; rintro e w1 ⟨rfl, rfl⟩) | (go_at_call 13; refine (get13 x h _).mono ?_; rintro e w1 ⟨rfl, rfl⟩))
  go_ret
  refine ⟨59 :: 32 :: r, ?_, ?_, by simp only [List.length_cons]; have := HR.out; omega, .inl ⟨rfl, r, rfl⟩⟩
  · rw [← HT1.out, ← HT2.out]
    exact congrArg (fun z => Ending.returned (.string z)) (app_lists _ _)
  · go_grown
set_option maxRecDepth 100000 in
set_option maxHeartbeats 4000000 in
theorem op31 (F : Interp) (x : Int) (h : 0 ≤ x ∧ x ≤ 4294967295) (w : World) (hF : F.told.answers w.tape) (b off cap : Nat) (hg : w.cell? ⟨0, 0, none⟩ = some (.slice (some ⟨b, off, none⟩) 42 cap))
    (hn : w.cell? ⟨b, off + 186, none⟩ = some (.string ⟨#[67, 65, 76, 76]⟩)) (ht : w.cell? ⟨b, off + 191, none⟩ = some (.int .i64 0)) (hlt : b < w.heap.size) (hop : OP x = 31) :
    Calls Tryf.prog 7 #[.int .u32 x] w (TS [67, 65, 76, 76] 0 true x w) := by
  have hF' := answers_open hF
  have g8 := get8 x h w
  rw [hop] at g8
  obtain ⟨T1, hT1⟩ : ∃ T1 : ByteArray, (⟨(HD [67, 65, 76, 76] 0 x).toArray⟩ : ByteArray) = T1 := ⟨_, rfl⟩
  have t1 : FmtStop.textOf (F.told "fmt.Sprintf" [[37, 115, 32, 32, 32, 32, 32, 32, 124, 32, 32, 37, 100, 44, 32, 37, 100, 44, 32, 37, 100], shape9, FmtStop.pack [67, 65, 76, 76], shape3, digits 8 (AA x % 18446744073709551616).toNat, shape3, digits 8 (BB x % 18446744073709551616).toNat, shape3, digits 8 (CC x % 18446744073709551616).toNat] 0) = T1 := (head0 F [67, 65, 76, 76] (by decide) x).trans hT1
  have s1 : T1.size ≤ 1000 := HD_size _ _ _ (by decide) hT1
  have HT1 := Lib.hid hT1
  clear hF hop hT1
  obtain ⟨r, hr, hT2⟩ := tail31 F x
  obtain ⟨T2, hT2e⟩ : ∃ T2 : ByteArray, (⟨(59 :: 32 :: r).toArray⟩ : ByteArray) = T2 := ⟨_, rfl⟩
  have t2 : FmtStop.textOf (F.told "fmt.Sprintf" [[59, 32, 82, 40, 37, 118, 41, 32, 46, 46, 46, 32, 82, 40, 37, 118, 43, 37, 118, 45, 50, 41, 32, 58, 61, 32, 82, 40, 37, 118, 41, 40, 82, 40, 37, 118, 43, 49, 41, 32, 46, 46, 46, 32, 82, 40, 37, 118, 43, 37, 118, 45, 49, 41, 41], shape3, digits 8 (AA x % 18446744073709551616).toNat, shape3, digits 8 (AA x % 18446744073709551616).toNat, shape3, digits 8 (CC x % 18446744073709551616).toNat, shape3, digits 8 (AA x % 18446744073709551616).toNat, shape3, digits 8 (AA x % 18446744073709551616).toNat, shape3, digits 8 (AA x % 18446744073709551616).toNat, shape3, digits 8 (BB x % 18446744073709551616).toNat] 0) = T2 := hT2.trans hT2e
  have s2 : T2.size ≤ 1000 := by rw [← hT2e]; simp only [ByteArray.size, List.size_toArray, List.length_cons]; omega
  have s3 : ¬ 9223372036854775807 < T1.size + T2.size := by omega
  have HT2 := Lib.hid hT2e
  have HR := Lib.hid hr
  clear hT2 hT2e hr s1 s2
  go_enter Tryf.func7, Tryf.ntmps7
  go_wp2_with fail
  refine g8.mono ?_
  clear g8
  rintro e w1 ⟨rfl, rfl⟩
  go_wp2_with (first | (go_at_call 9; refine (get9 x h _).mono ?_; rintro e w1 ⟨rfl, rfl⟩) | (go_at_call 10; refine (get10 x h _).mono ?_; rintro e w1 ⟨rfl, rfl⟩) | (go_at_call 11; refine (get11 x h _).mono ?_; rintro e w1 ⟨rfl, rfl⟩) | (go_at_call 12; refine (get12 x h _).mono ?_; rintro e w1 ⟨rfl, rfl⟩) | (go_at_call 13; refine (get13 x h _).mono ?_; rintro e w1 ⟨rfl, rfl⟩))
  go_ret
  refine ⟨59 :: 32 :: r, ?_, ?_, by simp only [List.length_cons]; have := HR.out; omega, .inl ⟨rfl, r, rfl⟩⟩
  · rw [← HT1.out, ← HT2.out]
    exact congrArg (fun z => Ending.returned (.string z)) (app_lists _ _)
  · go_grown
set_option maxRecDepth 100000 in
set_option maxHeartbeats 4000000 in
theorem op35 (F : Interp) (x : Int) (h : 0 ≤ x ∧ x ≤ 4294967295) (w : World) (hF : F.told.answers w.tape) (b off cap : Nat) (hg : w.cell? ⟨0, 0, none⟩ = some (.slice (some ⟨b, off, none⟩) 42 cap))
    (hn : w.cell? ⟨b, off + 210, none⟩ = some (.string ⟨#[70, 79, 82, 80, 82, 69, 80]⟩)) (ht : w.cell? ⟨b, off + 215, none⟩ = some (.int .i64 2)) (hlt : b < w.heap.size) (hop : OP x = 35) :
    Calls Tryf.prog 7 #[.int .u32 x] w (TS [70, 79, 82, 80, 82, 69, 80] 2 true x w) := by
  have hF' := answers_open hF
  have g8 := get8 x h w
  rw [hop] at g8
  obtain ⟨T1, hT1⟩ : ∃ T1 : ByteArray, (⟨(HD [70, 79, 82, 80, 82, 69, 80] 2 x).toArray⟩ : ByteArray) = T1 := ⟨_, rfl⟩
  have t1 : FmtStop.textOf (F.told "fmt.Sprintf" [[37, 115, 32, 32, 32, 32, 32, 32, 124, 32, 32, 37, 100, 44, 32, 37, 100], shape9, FmtStop.pack [70, 79, 82, 80, 82, 69, 80], shape3, digits 8 (AA x % 18446744073709551616).toNat, shape3, digits 8 (SX x % 18446744073709551616).toNat] 0) = T1 := (head2 F [70, 79, 82, 80, 82, 69, 80] (by decide) x).trans hT1
  have s1 : T1.size ≤ 1000 := HD_size _ _ _ (by decide) hT1
  have HT1 := Lib.hid hT1
  clear hF hop hT1
  obtain ⟨r, hr, hT2⟩ := tail35 F x
  obtain ⟨T2, hT2e⟩ : ∃ T2 : ByteArray, (⟨(59 :: 32 :: r).toArray⟩ : ByteArray) = T2 := ⟨_, rfl⟩
  have t2 : FmtStop.textOf (F.told "fmt.Sprintf" [[59, 32, 82, 40, 37, 118, 41, 45, 61, 82, 40, 37, 118, 43, 50, 41, 59, 32, 112, 99, 43, 61, 37, 118], shape3, digits 8 (AA x % 18446744073709551616).toNat, shape3, digits 8 (AA x % 18446744073709551616).toNat, shape3, digits 8 (SX x % 18446744073709551616).toNat] 0) = T2 := hT2.trans hT2e
  have s2 : T2.size ≤ 1000 := by rw [← hT2e]; simp only [ByteArray.size, List.size_toArray, List.length_cons]; omega
  have s3 : ¬ 9223372036854775807 < T1.size + T2.size := by omega
  have HT2 := Lib.hid hT2e
  have HR := Lib.hid hr
  clear hT2 hT2e hr s1 s2
  go_enter Tryf.func7, Tryf.ntmps7
  go_wp2_with fail
  refine g8.mono ?_
  clear g8
  rintro e w1 ⟨rfl, rfl⟩
  go_wp2_with (first | (go_at_call 9; refine (get9 x h _).mono ?_; rintro e w1 ⟨rfl, rfl⟩) | (go_at_call 10; refine (get10 x h _).mono ?_; rintro e w1 ⟨rfl, rfl⟩) | (go_at_call 11; refine (get11 x h _).mono ?_; rintro e w1 ⟨rfl, rfl⟩) | (go_at_call 12; refine (get12 x h _).mono ?_; rintro e w1 ⟨rfl, rfl⟩) | (go_at_call 13; refine (get13 x h _).mono ?_; rintro e w1 ⟨rfl, rfl⟩))
  go_ret
  refine ⟨59 :: 32 :: r, ?_, ?_, by simp only [List.length_cons]; have := HR.out; omega, .inl ⟨rfl, r, rfl⟩⟩
  · rw [← HT1.out, ← HT2.out]
    exact congrArg (fun z => Ending.returned (.string z)) (app_lists _ _)
  · go_grown
set_option maxRecDepth 100000 in
set_option maxHeartbeats 4000000 in
theorem op39 (F : Interp) (x : Int) (h : 0 ≤ x ∧ x ≤ 4294967295) (w : World) (hF : F.told.answers w.tape) (b off cap : Nat) (hg : w.cell? ⟨0, 0, none⟩ = some (.slice (some ⟨b, off, none⟩) 42 cap))
    (hn : w.cell? ⟨b, off + 234, none⟩ = some (.string ⟨#[67, 76, 79, 83, 85, 82, 69]⟩)) (ht : w.cell? ⟨b, off + 239, none⟩ = some (.int .i64 1)) (hlt : b < w.heap.size) (hop : OP x = 39) :
    Calls Tryf.prog 7 #[.int .u32 x] w (TS [67, 76, 79, 83, 85, 82, 69] 1 true x w) := by
  have hF' := answers_open hF
  have g8 := get8 x h w
  rw [hop] at g8
  obtain ⟨T1, hT1⟩ : ∃ T1 : ByteArray, (⟨(HD [67, 76, 79, 83, 85, 82, 69] 1 x).toArray⟩ : ByteArray) = T1 := ⟨_, rfl⟩
  have t1 : FmtStop.textOf (F.told "fmt.Sprintf" [[37, 115, 32, 32, 32, 32, 32, 32, 124, 32, 32, 37, 100, 44, 32, 37, 100], shape9, FmtStop.pack [67, 76, 79, 83, 85, 82, 69], shape3, digits 8 (AA x % 18446744073709551616).toNat, shape3, digits 8 (BX x % 18446744073709551616).toNat] 0) = T1 := (head1 F [67, 76, 79, 83, 85, 82, 69] (by decide) x).trans hT1
  have s1 : T1.size ≤ 1000 := HD_size _ _ _ (by decide) hT1
  have HT1 := Lib.hid hT1
  clear hF hop hT1
  obtain ⟨r, hr, hT2⟩ := tail39 F x
  obtain ⟨T2, hT2e⟩ : ∃ T2 : ByteArray, (⟨(59 :: 32 :: r).toArray⟩ : ByteArray) = T2 := ⟨_, rfl⟩
  have t2 : FmtStop.textOf (F.told "fmt.Sprintf" [[59, 32, 82, 40, 37, 118, 41, 32, 58, 61, 32, 99, 108, 111, 115, 117, 114, 101, 40, 75, 80, 82, 79, 84, 79, 91, 37, 118, 93, 32, 82, 40, 37, 118, 41, 32, 46, 46, 46, 32, 82, 40, 37, 118, 43, 110, 41, 41], shape3, digits 8 (AA x % 18446744073709551616).toNat, shape3, digits 8 (BX x % 18446744073709551616).toNat, shape3, digits 8 (AA x % 18446744073709551616).toNat, shape3, digits 8 (AA x % 18446744073709551616).toNat] 0) = T2 := hT2.trans hT2e
  have s2 : T2.size ≤ 1000 := by rw [← hT2e]; simp only [ByteArray.size, List.size_toArray, List.length_cons]; omega
  have s3 : ¬ 9223372036854775807 < T1.size + T2.size := by omega
  have HT2 := Lib.hid hT2e
  have HR := Lib.hid hr
  clear hT2 hT2e hr s1 s2
  go_enter Tryf.func7, Tryf.ntmps7
  go_wp2_with fail
  refine g8.mono ?_
  clear g8
  rintro e w1 ⟨rfl, rfl⟩
  go_wp2_with (first | (go_at_call 9; refine (get9 x h _).mono ?_; rintro e w1 ⟨rfl, rfl⟩) | (go_at_call 10; refine (get10 x h _).mono ?_; rintro e w1 ⟨rfl, rfl⟩) | (go_at_call 11; refine (get11 x h _).mono ?_; rintro e w1 ⟨rfl, rfl⟩) | (go_at_call 12; refine (get12 x h _).mono ?_; rintro e w1 ⟨rfl, rfl⟩) | (go_at_call 13; refine (get13 x h _).mono ?_; rintro e w1 ⟨rfl, rfl⟩))
  go_ret
  refine ⟨59 :: 32 :: r, ?_, ?_, by simp only [List.length_cons]; have := HR.out; omega, .inl ⟨rfl, r, rfl⟩⟩
  · rw [← HT1.out, ← HT2.out]
    exact congrArg (fun z => Ending.returned (.string z)) (app_lists _ _)
  · go_grown
end Go.Proofs.YtddojkdaajfmcaaFmt
