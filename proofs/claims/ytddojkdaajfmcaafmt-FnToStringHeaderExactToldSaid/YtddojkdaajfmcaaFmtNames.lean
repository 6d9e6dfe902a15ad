/- zzOpNameType's table, and the opcodes' walks as one: written by our program wip/mk74.py. -/
import Derived.Test.YtddojkdaajfmcaaFmtOpsA
import Derived.Test.YtddojkdaajfmcaaFmtOpsB
import Derived.Test.YtddojkdaajfmcaaFmtOpsC
import Derived.Test.YtddojkdaajfmcaaFmtOpsD
import Derived.Test.YtddojkdaajfmcaaFmtOpsE
namespace Go.Proofs.YtddojkdaajfmcaaFmt
set_option linter.unusedVariables false
open Go.RowKit Go.Extern.Stop Go.Stop Go.Extern Go.Kit
def tab : List (List UInt8 × Nat) := [([77, 79, 86, 69], 0), ([77, 79, 86, 69, 78], 0), ([76, 79, 65, 68, 75], 1), ([76, 79, 65, 68, 66, 79, 79, 76], 0), ([76, 79, 65, 68, 78, 73, 76], 0), ([71, 69, 84, 85, 80, 86, 65, 76], 0), ([71, 69, 84, 71, 76, 79, 66, 65, 76], 1), ([71, 69, 84, 84, 65, 66, 76, 69], 0), ([71, 69, 84, 84, 65, 66, 76, 69, 75, 83], 0), ([83, 69, 84, 71, 76, 79, 66, 65, 76], 1), ([83, 69, 84, 85, 80, 86, 65, 76], 0), ([83, 69, 84, 84, 65, 66, 76, 69], 0), ([83, 69, 84, 84, 65, 66, 76, 69, 75, 83], 0), ([78, 69, 87, 84, 65, 66, 76, 69], 0), ([83, 69, 76, 70], 0), ([65, 68, 68], 0), ([83, 85, 66], 0), ([77, 85, 76], 0), ([68, 73, 86], 0), ([77, 79, 68], 0), ([80, 79, 87], 0), ([85, 78, 77], 0), ([78, 79, 84], 0), ([76, 69, 78], 0), ([67, 79, 78, 67, 65, 84], 0), ([74, 77, 80], 2), ([69, 81], 0), ([76, 84], 0), ([76, 69], 0), ([84, 69, 83, 84], 0), ([84, 69, 83, 84, 83, 69, 84], 0), ([67, 65, 76, 76], 0), ([84, 65, 73, 76, 67, 65, 76, 76], 0), ([82, 69, 84, 85, 82, 78], 0), ([70, 79, 82, 76, 79, 79, 80], 2), ([70, 79, 82, 80, 82, 69, 80], 2), ([84, 70, 79, 82, 76, 79, 79, 80], 0), ([83, 69, 84, 76, 73, 83, 84], 0), ([67, 76, 79, 83, 69], 0), ([67, 76, 79, 83, 85, 82, 69], 1), ([86, 65, 82, 65, 82, 71], 0), ([78, 79, 80], 2)]
def nameOf (k : Nat) : List UInt8 := (tab.getD k ([], 0)).1
def typOf (k : Nat) : Nat := (tab.getD k ([], 0)).2
set_option maxRecDepth 100000 in
theorem nm0 (w : World) : Calls Tryf.prog 5 #[.int .i64 0] w fun e w' => e = .returned (.tuple #[.string ⟨#[77, 79, 86, 69]⟩, .int .i64 0]) ∧ w = w' := by
  go_enter Tryf.func5, Tryf.ntmps5
  go_wp2
  go_ret2
  exact ⟨rfl, rfl⟩
set_option maxRecDepth 100000 in
theorem nm1 (w : World) : Calls Tryf.prog 5 #[.int .i64 1] w fun e w' => e = .returned (.tuple #[.string ⟨#[77, 79, 86, 69, 78]⟩, .int .i64 0]) ∧ w = w' := by
  go_enter Tryf.func5, Tryf.ntmps5
  go_wp2
  go_ret2
  exact ⟨rfl, rfl⟩
set_option maxRecDepth 100000 in
theorem nm2 (w : World) : Calls Tryf.prog 5 #[.int .i64 2] w fun e w' => e = .returned (.tuple #[.string ⟨#[76, 79, 65, 68, 75]⟩, .int .i64 1]) ∧ w = w' := by
  go_enter Tryf.func5, Tryf.ntmps5
  go_wp2
  go_ret2
  exact ⟨rfl, rfl⟩
set_option maxRecDepth 100000 in
theorem nm3 (w : World) : Calls Tryf.prog 5 #[.int .i64 3] w fun e w' => e = .returned (.tuple #[.string ⟨#[76, 79, 65, 68, 66, 79, 79, 76]⟩, .int .i64 0]) ∧ w = w' := by
  go_enter Tryf.func5, Tryf.ntmps5
  go_wp2
  go_ret2
  exact ⟨rfl, rfl⟩
set_option maxRecDepth 100000 in
theorem nm4 (w : World) : Calls Tryf.prog 5 #[.int .i64 4] w fun e w' => e = .returned (.tuple #[.string ⟨#[76, 79, 65, 68, 78, 73, 76]⟩, .int .i64 0]) ∧ w = w' := by
  go_enter Tryf.func5, Tryf.ntmps5
  go_wp2
  go_ret2
  exact ⟨rfl, rfl⟩
set_option maxRecDepth 100000 in
theorem nm5 (w : World) : Calls Tryf.prog 5 #[.int .i64 5] w fun e w' => e = .returned (.tuple #[.string ⟨#[71, 69, 84, 85, 80, 86, 65, 76]⟩, .int .i64 0]) ∧ w = w' := by
  go_enter Tryf.func5, Tryf.ntmps5
  go_wp2
  go_ret2
  exact ⟨rfl, rfl⟩
set_option maxRecDepth 100000 in
theorem nm6 (w : World) : Calls Tryf.prog 5 #[.int .i64 6] w fun e w' => e = .returned (.tuple #[.string ⟨#[71, 69, 84, 71, 76, 79, 66, 65, 76]⟩, .int .i64 1]) ∧ w = w' := by
  go_enter Tryf.func5, Tryf.ntmps5
  go_wp2
  go_ret2
  exact ⟨rfl, rfl⟩
set_option maxRecDepth 100000 in
theorem nm7 (w : World) : Calls Tryf.prog 5 #[.int .i64 7] w fun e w' => e = .returned (.tuple #[.string ⟨#[71, 69, 84, 84, 65, 66, 76, 69]⟩, .int .i64 0]) ∧ w = w' := by
  go_enter Tryf.func5, Tryf.ntmps5
  go_wp2
  go_ret2
  exact ⟨rfl, rfl⟩
set_option maxRecDepth 100000 in
theorem nm8 (w : World) : Calls Tryf.prog 5 #[.int .i64 8] w fun e w' => e = .returned (.tuple #[.string ⟨#[71, 69, 84, 84, 65, 66, 76, 69, 75, 83]⟩, .int .i64 0]) ∧ w = w' := by
  go_enter Tryf.func5, Tryf.ntmps5
  go_wp2
  go_ret2
  exact ⟨rfl, rfl⟩
set_option maxRecDepth 100000 in
theorem nm9 (w : World) : Calls Tryf.prog 5 #[.int .i64 9] w fun e w' => e = .returned (.tuple #[.string ⟨#[83, 69, 84, 71, 76, 79, 66, 65, 76]⟩, .int .i64 1]) ∧ w = w' := by
  go_enter Tryf.func5, Tryf.ntmps5
  go_wp2
  go_ret2
  exact ⟨rfl, rfl⟩
set_option maxRecDepth 100000 in
theorem nm10 (w : World) : Calls Tryf.prog 5 #[.int .i64 10] w fun e w' => e = .returned (.tuple #[.string ⟨#[83, 69, 84, 85, 80, 86, 65, 76]⟩, .int .i64 0]) ∧ w = w' := by
  go_enter Tryf.func5, Tryf.ntmps5
  go_wp2
  go_ret2
  exact ⟨rfl, rfl⟩
set_option maxRecDepth 100000 in
theorem nm11 (w : World) : Calls Tryf.prog 5 #[.int .i64 11] w fun e w' => e = .returned (.tuple #[.string ⟨#[83, 69, 84, 84, 65, 66, 76, 69]⟩, .int .i64 0]) ∧ w = w' := by
  go_enter Tryf.func5, Tryf.ntmps5
  go_wp2
  go_ret2
  exact ⟨rfl, rfl⟩
set_option maxRecDepth 100000 in
theorem nm12 (w : World) : Calls Tryf.prog 5 #[.int .i64 12] w fun e w' => e = .returned (.tuple #[.string ⟨#[83, 69, 84, 84, 65, 66, 76, 69, 75, 83]⟩, .int .i64 0]) ∧ w = w' := by
  go_enter Tryf.func5, Tryf.ntmps5
  go_wp2
  go_ret2
  exact ⟨rfl, rfl⟩
set_option maxRecDepth 100000 in
theorem nm13 (w : World) : Calls Tryf.prog 5 #[.int .i64 13] w fun e w' => e = .returned (.tuple #[.string ⟨#[78, 69, 87, 84, 65, 66, 76, 69]⟩, .int .i64 0]) ∧ w = w' := by
  go_enter Tryf.func5, Tryf.ntmps5
  go_wp2
  go_ret2
  exact ⟨rfl, rfl⟩
set_option maxRecDepth 100000 in
theorem nm14 (w : World) : Calls Tryf.prog 5 #[.int .i64 14] w fun e w' => e = .returned (.tuple #[.string ⟨#[83, 69, 76, 70]⟩, .int .i64 0]) ∧ w = w' := by
  go_enter Tryf.func5, Tryf.ntmps5
  go_wp2
  go_ret2
  exact ⟨rfl, rfl⟩
set_option maxRecDepth 100000 in
theorem nm15 (w : World) : Calls Tryf.prog 5 #[.int .i64 15] w fun e w' => e = .returned (.tuple #[.string ⟨#[65, 68, 68]⟩, .int .i64 0]) ∧ w = w' := by
  go_enter Tryf.func5, Tryf.ntmps5
  go_wp2
  go_ret2
  exact ⟨rfl, rfl⟩
set_option maxRecDepth 100000 in
theorem nm16 (w : World) : Calls Tryf.prog 5 #[.int .i64 16] w fun e w' => e = .returned (.tuple #[.string ⟨#[83, 85, 66]⟩, .int .i64 0]) ∧ w = w' := by
  go_enter Tryf.func5, Tryf.ntmps5
  go_wp2
  go_ret2
  exact ⟨rfl, rfl⟩
set_option maxRecDepth 100000 in
theorem nm17 (w : World) : Calls Tryf.prog 5 #[.int .i64 17] w fun e w' => e = .returned (.tuple #[.string ⟨#[77, 85, 76]⟩, .int .i64 0]) ∧ w = w' := by
  go_enter Tryf.func5, Tryf.ntmps5
  go_wp2
  go_ret2
  exact ⟨rfl, rfl⟩
set_option maxRecDepth 100000 in
theorem nm18 (w : World) : Calls Tryf.prog 5 #[.int .i64 18] w fun e w' => e = .returned (.tuple #[.string ⟨#[68, 73, 86]⟩, .int .i64 0]) ∧ w = w' := by
  go_enter Tryf.func5, Tryf.ntmps5
  go_wp2
  go_ret2
  exact ⟨rfl, rfl⟩
set_option maxRecDepth 100000 in
theorem nm19 (w : World) : Calls Tryf.prog 5 #[.int .i64 19] w fun e w' => e = .returned (.tuple #[.string ⟨#[77, 79, 68]⟩, .int .i64 0]) ∧ w = w' := by
  go_enter Tryf.func5, Tryf.ntmps5
  go_wp2
  go_ret2
  exact ⟨rfl, rfl⟩
set_option maxRecDepth 100000 in
theorem nm20 (w : World) : Calls Tryf.prog 5 #[.int .i64 20] w fun e w' => e = .returned (.tuple #[.string ⟨#[80, 79, 87]⟩, .int .i64 0]) ∧ w = w' := by
  go_enter Tryf.func5, Tryf.ntmps5
  go_wp2
  go_ret2
  exact ⟨rfl, rfl⟩
set_option maxRecDepth 100000 in
theorem nm21 (w : World) : Calls Tryf.prog 5 #[.int .i64 21] w fun e w' => e = .returned (.tuple #[.string ⟨#[85, 78, 77]⟩, .int .i64 0]) ∧ w = w' := by
  go_enter Tryf.func5, Tryf.ntmps5
  go_wp2
  go_ret2
  exact ⟨rfl, rfl⟩
set_option maxRecDepth 100000 in
theorem nm22 (w : World) : Calls Tryf.prog 5 #[.int .i64 22] w fun e w' => e = .returned (.tuple #[.string ⟨#[78, 79, 84]⟩, .int .i64 0]) ∧ w = w' := by
  go_enter Tryf.func5, Tryf.ntmps5
  go_wp2
  go_ret2
  exact ⟨rfl, rfl⟩
set_option maxRecDepth 100000 in
theorem nm23 (w : World) : Calls Tryf.prog 5 #[.int .i64 23] w fun e w' => e = .returned (.tuple #[.string ⟨#[76, 69, 78]⟩, .int .i64 0]) ∧ w = w' := by
  go_enter Tryf.func5, Tryf.ntmps5
  go_wp2
  go_ret2
  exact ⟨rfl, rfl⟩
set_option maxRecDepth 100000 in
theorem nm24 (w : World) : Calls Tryf.prog 5 #[.int .i64 24] w fun e w' => e = .returned (.tuple #[.string ⟨#[67, 79, 78, 67, 65, 84]⟩, .int .i64 0]) ∧ w = w' := by
  go_enter Tryf.func5, Tryf.ntmps5
  go_wp2
  go_ret2
  exact ⟨rfl, rfl⟩
set_option maxRecDepth 100000 in
theorem nm25 (w : World) : Calls Tryf.prog 5 #[.int .i64 25] w fun e w' => e = .returned (.tuple #[.string ⟨#[74, 77, 80]⟩, .int .i64 2]) ∧ w = w' := by
  go_enter Tryf.func5, Tryf.ntmps5
  go_wp2
  go_ret2
  exact ⟨rfl, rfl⟩
set_option maxRecDepth 100000 in
theorem nm26 (w : World) : Calls Tryf.prog 5 #[.int .i64 26] w fun e w' => e = .returned (.tuple #[.string ⟨#[69, 81]⟩, .int .i64 0]) ∧ w = w' := by
  go_enter Tryf.func5, Tryf.ntmps5
  go_wp2
  go_ret2
  exact ⟨rfl, rfl⟩
set_option maxRecDepth 100000 in
theorem nm27 (w : World) : Calls Tryf.prog 5 #[.int .i64 27] w fun e w' => e = .returned (.tuple #[.string ⟨#[76, 84]⟩, .int .i64 0]) ∧ w = w' := by
  go_enter Tryf.func5, Tryf.ntmps5
  go_wp2
  go_ret2
  exact ⟨rfl, rfl⟩
set_option maxRecDepth 100000 in
theorem nm28 (w : World) : Calls Tryf.prog 5 #[.int .i64 28] w fun e w' => e = .returned (.tuple #[.string ⟨#[76, 69]⟩, .int .i64 0]) ∧ w = w' := by
  go_enter Tryf.func5, Tryf.ntmps5
  go_wp2
  go_ret2
  exact ⟨rfl, rfl⟩
set_option maxRecDepth 100000 in
theorem nm29 (w : World) : Calls Tryf.prog 5 #[.int .i64 29] w fun e w' => e = .returned (.tuple #[.string ⟨#[84, 69, 83, 84]⟩, .int .i64 0]) ∧ w = w' := by
  go_enter Tryf.func5, Tryf.ntmps5
  go_wp2
  go_ret2
  exact ⟨rfl, rfl⟩
set_option maxRecDepth 100000 in
theorem nm30 (w : World) : Calls Tryf.prog 5 #[.int .i64 30] w fun e w' => e = .returned (.tuple #[.string ⟨#[84, 69, 83, 84, 83, 69, 84]⟩, .int .i64 0]) ∧ w = w' := by
  go_enter Tryf.func5, Tryf.ntmps5
  go_wp2
  go_ret2
  exact ⟨rfl, rfl⟩
set_option maxRecDepth 100000 in
theorem nm31 (w : World) : Calls Tryf.prog 5 #[.int .i64 31] w fun e w' => e = .returned (.tuple #[.string ⟨#[67, 65, 76, 76]⟩, .int .i64 0]) ∧ w = w' := by
  go_enter Tryf.func5, Tryf.ntmps5
  go_wp2
  go_ret2
  exact ⟨rfl, rfl⟩
set_option maxRecDepth 100000 in
theorem nm32 (w : World) : Calls Tryf.prog 5 #[.int .i64 32] w fun e w' => e = .returned (.tuple #[.string ⟨#[84, 65, 73, 76, 67, 65, 76, 76]⟩, .int .i64 0]) ∧ w = w' := by
  go_enter Tryf.func5, Tryf.ntmps5
  go_wp2
  go_ret2
  exact ⟨rfl, rfl⟩
set_option maxRecDepth 100000 in
theorem nm33 (w : World) : Calls Tryf.prog 5 #[.int .i64 33] w fun e w' => e = .returned (.tuple #[.string ⟨#[82, 69, 84, 85, 82, 78]⟩, .int .i64 0]) ∧ w = w' := by
  go_enter Tryf.func5, Tryf.ntmps5
  go_wp2
  go_ret2
  exact ⟨rfl, rfl⟩
set_option maxRecDepth 100000 in
theorem nm34 (w : World) : Calls Tryf.prog 5 #[.int .i64 34] w fun e w' => e = .returned (.tuple #[.string ⟨#[70, 79, 82, 76, 79, 79, 80]⟩, .int .i64 2]) ∧ w = w' := by
  go_enter Tryf.func5, Tryf.ntmps5
  go_wp2
  go_ret2
  exact ⟨rfl, rfl⟩
set_option maxRecDepth 100000 in
theorem nm35 (w : World) : Calls Tryf.prog 5 #[.int .i64 35] w fun e w' => e = .returned (.tuple #[.string ⟨#[70, 79, 82, 80, 82, 69, 80]⟩, .int .i64 2]) ∧ w = w' := by
  go_enter Tryf.func5, Tryf.ntmps5
  go_wp2
  go_ret2
  exact ⟨rfl, rfl⟩
set_option maxRecDepth 100000 in
theorem nm36 (w : World) : Calls Tryf.prog 5 #[.int .i64 36] w fun e w' => e = .returned (.tuple #[.string ⟨#[84, 70, 79, 82, 76, 79, 79, 80]⟩, .int .i64 0]) ∧ w = w' := by
  go_enter Tryf.func5, Tryf.ntmps5
  go_wp2
  go_ret2
  exact ⟨rfl, rfl⟩
set_option maxRecDepth 100000 in
theorem nm37 (w : World) : Calls Tryf.prog 5 #[.int .i64 37] w fun e w' => e = .returned (.tuple #[.string ⟨#[83, 69, 84, 76, 73, 83, 84]⟩, .int .i64 0]) ∧ w = w' := by
  go_enter Tryf.func5, Tryf.ntmps5
  go_wp2
  go_ret2
  exact ⟨rfl, rfl⟩
set_option maxRecDepth 100000 in
theorem nm38 (w : World) : Calls Tryf.prog 5 #[.int .i64 38] w fun e w' => e = .returned (.tuple #[.string ⟨#[67, 76, 79, 83, 69]⟩, .int .i64 0]) ∧ w = w' := by
  go_enter Tryf.func5, Tryf.ntmps5
  go_wp2
  go_ret2
  exact ⟨rfl, rfl⟩
set_option maxRecDepth 100000 in
theorem nm39 (w : World) : Calls Tryf.prog 5 #[.int .i64 39] w fun e w' => e = .returned (.tuple #[.string ⟨#[67, 76, 79, 83, 85, 82, 69]⟩, .int .i64 1]) ∧ w = w' := by
  go_enter Tryf.func5, Tryf.ntmps5
  go_wp2
  go_ret2
  exact ⟨rfl, rfl⟩
set_option maxRecDepth 100000 in
theorem nm40 (w : World) : Calls Tryf.prog 5 #[.int .i64 40] w fun e w' => e = .returned (.tuple #[.string ⟨#[86, 65, 82, 65, 82, 71]⟩, .int .i64 0]) ∧ w = w' := by
  go_enter Tryf.func5, Tryf.ntmps5
  go_wp2
  go_ret2
  exact ⟨rfl, rfl⟩
set_option maxRecDepth 100000 in
theorem nm41 (w : World) : Calls Tryf.prog 5 #[.int .i64 41] w fun e w' => e = .returned (.tuple #[.string ⟨#[78, 79, 80]⟩, .int .i64 2]) ∧ w = w' := by
  go_enter Tryf.func5, Tryf.ntmps5
  go_wp2
  go_ret2
  exact ⟨rfl, rfl⟩
theorem all42 {P : Nat → Prop} (h0 : P 0) (h1 : P 1) (h2 : P 2) (h3 : P 3) (h4 : P 4) (h5 : P 5) (h6 : P 6) (h7 : P 7) (h8 : P 8) (h9 : P 9) (h10 : P 10) (h11 : P 11) (h12 : P 12) (h13 : P 13) (h14 : P 14) (h15 : P 15) (h16 : P 16) (h17 : P 17) (h18 : P 18) (h19 : P 19) (h20 : P 20) (h21 : P 21) (h22 : P 22) (h23 : P 23) (h24 : P 24) (h25 : P 25) (h26 : P 26) (h27 : P 27) (h28 : P 28) (h29 : P 29) (h30 : P 30) (h31 : P 31) (h32 : P 32) (h33 : P 33) (h34 : P 34) (h35 : P 35) (h36 : P 36) (h37 : P 37) (h38 : P 38) (h39 : P 39) (h40 : P 40) (h41 : P 41) (k : Nat) (hk : k < 42) : P k := by
  by_cases e0 : k = 0
  · exact e0 ▸ h0
  by_cases e1 : k = 1
  · exact e1 ▸ h1
  by_cases e2 : k = 2
  · exact e2 ▸ h2
  by_cases e3 : k = 3
  · exact e3 ▸ h3
  by_cases e4 : k = 4
  · exact e4 ▸ h4
  by_cases e5 : k = 5
  · exact e5 ▸ h5
  by_cases e6 : k = 6
  · exact e6 ▸ h6
  by_cases e7 : k = 7
  · exact e7 ▸ h7
  by_cases e8 : k = 8
  · exact e8 ▸ h8
  by_cases e9 : k = 9
  · exact e9 ▸ h9
  by_cases e10 : k = 10
  · exact e10 ▸ h10
  by_cases e11 : k = 11
  · exact e11 ▸ h11
  by_cases e12 : k = 12
  · exact e12 ▸ h12
  by_cases e13 : k = 13
  · exact e13 ▸ h13
  by_cases e14 : k = 14
  · exact e14 ▸ h14
  by_cases e15 : k = 15
  · exact e15 ▸ h15
  by_cases e16 : k = 16
  · exact e16 ▸ h16
  by_cases e17 : k = 17
  · exact e17 ▸ h17
  by_cases e18 : k = 18
  · exact e18 ▸ h18
  by_cases e19 : k = 19
  · exact e19 ▸ h19
  by_cases e20 : k = 20
  · exact e20 ▸ h20
  by_cases e21 : k = 21
  · exact e21 ▸ h21
  by_cases e22 : k = 22
  · exact e22 ▸ h22
  by_cases e23 : k = 23
  · exact e23 ▸ h23
  by_cases e24 : k = 24
  · exact e24 ▸ h24
  by_cases e25 : k = 25
  · exact e25 ▸ h25
  by_cases e26 : k = 26
  · exact e26 ▸ h26
  by_cases e27 : k = 27
  · exact e27 ▸ h27
  by_cases e28 : k = 28
  · exact e28 ▸ h28
  by_cases e29 : k = 29
  · exact e29 ▸ h29
  by_cases e30 : k = 30
  · exact e30 ▸ h30
  by_cases e31 : k = 31
  · exact e31 ▸ h31
  by_cases e32 : k = 32
  · exact e32 ▸ h32
  by_cases e33 : k = 33
  · exact e33 ▸ h33
  by_cases e34 : k = 34
  · exact e34 ▸ h34
  by_cases e35 : k = 35
  · exact e35 ▸ h35
  by_cases e36 : k = 36
  · exact e36 ▸ h36
  by_cases e37 : k = 37
  · exact e37 ▸ h37
  by_cases e38 : k = 38
  · exact e38 ▸ h38
  by_cases e39 : k = 39
  · exact e39 ▸ h39
  by_cases e40 : k = 40
  · exact e40 ▸ h40
  by_cases e41 : k = 41
  · exact e41 ▸ h41
  omega
/-- What the walks want of the program's table. -/
structure OT (w : World) (b off cap : Nat) : Prop where
  g : w.cell? ⟨0, 0, none⟩ = some (.slice (some ⟨b, off, none⟩) 42 cap)
  n : ∀ k, k < 42 → w.cell? ⟨b, off + 6 * k, none⟩ = some (.string ⟨(nameOf k).toArray⟩)
  t : ∀ k, k < 42 → w.cell? ⟨b, off + (6 * k + 5), none⟩ = some (.int .i64 (typOf k))
  lt : b < w.heap.size
theorem name_all (k : Nat) (hk : k < 42) : ∀ w : World, Calls Tryf.prog 5 #[.int .i64 (k : Int)] w fun e w' => e = .returned (.tuple #[.string ⟨(nameOf k).toArray⟩, .int .i64 (typOf k : Int)]) ∧ w = w' :=
  all42 (P := fun k => ∀ w : World, Calls Tryf.prog 5 #[.int .i64 (k : Int)] w fun e w' => e = .returned (.tuple #[.string ⟨(nameOf k).toArray⟩, .int .i64 (typOf k : Int)]) ∧ w = w')
    nm0 nm1 nm2 nm3 nm4 nm5 nm6 nm7 nm8 nm9 nm10 nm11 nm12 nm13 nm14 nm15 nm16 nm17 nm18 nm19 nm20 nm21 nm22 nm23 nm24 nm25 nm26 nm27 nm28 nm29 nm30 nm31 nm32 nm33 nm34 nm35 nm36 nm37 nm38 nm39 nm40 nm41 k hk
theorem ts_all (F : Interp) (x : Int) (h : 0 ≤ x ∧ x ≤ 4294967295) (w : World) (hF : F.told.answers w.tape) (b off cap : Nat) (H : OT w b off cap) (k : Nat) (hk : k < 42) :
    OP x = (k : Int) → Calls Tryf.prog 7 #[.int .u32 x] w (TS (nameOf k) (typOf k) (decide (k ≠ 41)) x w) :=
  all42 (P := fun k => OP x = (k : Int) → Calls Tryf.prog 7 #[.int .u32 x] w (TS (nameOf k) (typOf k) (decide (k ≠ 41)) x w))
    (fun ho => op0 F x h w hF b off cap H.g (H.n 0 (by decide)) (H.t 0 (by decide)) H.lt ho)
    (fun ho => op1 F x h w hF b off cap H.g (H.n 1 (by decide)) (H.t 1 (by decide)) H.lt ho)
    (fun ho => op2 F x h w hF b off cap H.g (H.n 2 (by decide)) (H.t 2 (by decide)) H.lt ho)
    (fun ho => op3 F x h w hF b off cap H.g (H.n 3 (by decide)) (H.t 3 (by decide)) H.lt ho)
    (fun ho => op4 F x h w hF b off cap H.g (H.n 4 (by decide)) (H.t 4 (by decide)) H.lt ho)
    (fun ho => op5 F x h w hF b off cap H.g (H.n 5 (by decide)) (H.t 5 (by decide)) H.lt ho)
    (fun ho => op6 F x h w hF b off cap H.g (H.n 6 (by decide)) (H.t 6 (by decide)) H.lt ho)
    (fun ho => op7 F x h w hF b off cap H.g (H.n 7 (by decide)) (H.t 7 (by decide)) H.lt ho)
    (fun ho => op8 F x h w hF b off cap H.g (H.n 8 (by decide)) (H.t 8 (by decide)) H.lt ho)
    (fun ho => op9 F x h w hF b off cap H.g (H.n 9 (by decide)) (H.t 9 (by decide)) H.lt ho)
    (fun ho => op10 F x h w hF b off cap H.g (H.n 10 (by decide)) (H.t 10 (by decide)) H.lt ho)
    (fun ho => op11 F x h w hF b off cap H.g (H.n 11 (by decide)) (H.t 11 (by decide)) H.lt ho)
    (fun ho => op12 F x h w hF b off cap H.g (H.n 12 (by decide)) (H.t 12 (by decide)) H.lt ho)
    (fun ho => op13 F x h w hF b off cap H.g (H.n 13 (by decide)) (H.t 13 (by decide)) H.lt ho)
    (fun ho => op14 F x h w hF b off cap H.g (H.n 14 (by decide)) (H.t 14 (by decide)) H.lt ho)
    (fun ho => op15 F x h w hF b off cap H.g (H.n 15 (by decide)) (H.t 15 (by decide)) H.lt ho)
    (fun ho => op16 F x h w hF b off cap H.g (H.n 16 (by decide)) (H.t 16 (by decide)) H.lt ho)
    (fun ho => op17 F x h w hF b off cap H.g (H.n 17 (by decide)) (H.t 17 (by decide)) H.lt ho)
    (fun ho => op18 F x h w hF b off cap H.g (H.n 18 (by decide)) (H.t 18 (by decide)) H.lt ho)
    (fun ho => op19 F x h w hF b off cap H.g (H.n 19 (by decide)) (H.t 19 (by decide)) H.lt ho)
    (fun ho => op20 F x h w hF b off cap H.g (H.n 20 (by decide)) (H.t 20 (by decide)) H.lt ho)
    (fun ho => op21 F x h w hF b off cap H.g (H.n 21 (by decide)) (H.t 21 (by decide)) H.lt ho)
    (fun ho => op22 F x h w hF b off cap H.g (H.n 22 (by decide)) (H.t 22 (by decide)) H.lt ho)
    (fun ho => op23 F x h w hF b off cap H.g (H.n 23 (by decide)) (H.t 23 (by decide)) H.lt ho)
    (fun ho => op24 F x h w hF b off cap H.g (H.n 24 (by decide)) (H.t 24 (by decide)) H.lt ho)
    (fun ho => op25 F x h w hF b off cap H.g (H.n 25 (by decide)) (H.t 25 (by decide)) H.lt ho)
    (fun ho => op26 F x h w hF b off cap H.g (H.n 26 (by decide)) (H.t 26 (by decide)) H.lt ho)
    (fun ho => op27 F x h w hF b off cap H.g (H.n 27 (by decide)) (H.t 27 (by decide)) H.lt ho)
    (fun ho => op28 F x h w hF b off cap H.g (H.n 28 (by decide)) (H.t 28 (by decide)) H.lt ho)
    (fun ho => op29 F x h w hF b off cap H.g (H.n 29 (by decide)) (H.t 29 (by decide)) H.lt ho)
    (fun ho => op30 F x h w hF b off cap H.g (H.n 30 (by decide)) (H.t 30 (by decide)) H.lt ho)
    (fun ho => op31 F x h w hF b off cap H.g (H.n 31 (by decide)) (H.t 31 (by decide)) H.lt ho)
    (fun ho => op32 F x h w hF b off cap H.g (H.n 32 (by decide)) (H.t 32 (by decide)) H.lt ho)
    (fun ho => op33 F x h w hF b off cap H.g (H.n 33 (by decide)) (H.t 33 (by decide)) H.lt ho)
    (fun ho => op34 F x h w hF b off cap H.g (H.n 34 (by decide)) (H.t 34 (by decide)) H.lt ho)
    (fun ho => op35 F x h w hF b off cap H.g (H.n 35 (by decide)) (H.t 35 (by decide)) H.lt ho)
    (fun ho => op36 F x h w hF b off cap H.g (H.n 36 (by decide)) (H.t 36 (by decide)) H.lt ho)
    (fun ho => op37 F x h w hF b off cap H.g (H.n 37 (by decide)) (H.t 37 (by decide)) H.lt ho)
    (fun ho => op38 F x h w hF b off cap H.g (H.n 38 (by decide)) (H.t 38 (by decide)) H.lt ho)
    (fun ho => op39 F x h w hF b off cap H.g (H.n 39 (by decide)) (H.t 39 (by decide)) H.lt ho)
    (fun ho => op40 F x h w hF b off cap H.g (H.n 40 (by decide)) (H.t 40 (by decide)) H.lt ho)
    (fun ho => op41 F x h w hF b off cap H.g (H.n 41 (by decide)) (H.t 41 (by decide)) H.lt ho) k hk
end Go.Proofs.YtddojkdaajfmcaaFmt
