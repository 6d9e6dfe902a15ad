/- opToString, walked at each opcode: written by our program wip/mk74.py. -/
import Derived.Test.YtddojkdaajfmcaaFmtTell
import Derived.Handy
namespace Go.Proofs.YtddojkdaajfmcaaFmt
set_option linter.unusedVariables false
open Go.RowKit Go.Extern.Stop Go.Stop Go.Extern Go.Kit
set_option maxRecDepth 100000 in
set_option maxHeartbeats 4000000 in
theorem op41 (F : Interp) (x : Int) (h : 0 ≤ x ∧ x ≤ 4294967295) (w : World) (hF : F.told.answers w.tape) (b off cap : Nat) (hg : w.cell? ⟨0, 0, none⟩ = some (.slice (some ⟨b, off, none⟩) 42 cap))
    (hn : w.cell? ⟨b, off + 246, none⟩ = some (.string ⟨#[78, 79, 80]⟩)) (ht : w.cell? ⟨b, off + 251, none⟩ = some (.int .i64 2)) (hlt : b < w.heap.size) (hop : OP x = 41) :
    Calls Tryf.prog 7 #[.int .u32 x] w (TS [78, 79, 80] 2 false x w) := by
  have hF' := answers_open hF
  have g8 := get8 x h w
  rw [hop] at g8
  obtain ⟨T1, hT1⟩ : ∃ T1 : ByteArray, (⟨(HD [78, 79, 80] 2 x).toArray⟩ : ByteArray) = T1 := ⟨_, rfl⟩
  have t1 : FmtStop.textOf (F.told "fmt.Sprintf" [[37, 115, 32, 32, 32, 32, 32, 32, 124, 32, 32, 37, 100, 44, 32, 37, 100], shape9, FmtStop.pack [78, 79, 80], shape3, digits 8 (AA x % 18446744073709551616).toNat, shape3, digits 8 (SX x % 18446744073709551616).toNat] 0) = T1 := (head2 F [78, 79, 80] (by decide) x).trans hT1
  have s1 : T1.size ≤ 1000 := HD_size _ _ _ (by decide) hT1
  have HT1 := Lib.hid hT1
  clear hF hop hT1
  clear s1
  go_enter Tryf.func7, Tryf.ntmps7
  go_wp2_with fail
  refine g8.mono ?_
  clear g8
  rintro e w1 ⟨rfl, rfl⟩
  go_wp2_with (first | (go_at_call 9; refine (get9 x h _).mono ?_; rintro e w1 ⟨rfl, rfl⟩) | (go_at_call 10; refine (get10 x h _).mono ?_; rintro e w1 ⟨rfl, rfl⟩) | (go_at_call 11; refine (get11 x h _).mono ?_; rintro e w1 ⟨rfl, rfl⟩) | (go_at_call 12; refine (get12 x h _).mono ?_; rintro e w1 ⟨rfl, rfl⟩) | (go_at_call 13; refine (get13 x h _).mono ?_; rintro e w1 ⟨rfl, rfl⟩))
  go_ret
  refine ⟨[], ?_, ?_, by simp, .inr ⟨rfl, rfl⟩⟩
  · have e0 : T1 = ⟨(HD [78, 79, 80] 2 x ++ []).toArray⟩ := by rw [List.append_nil]; exact HT1.out.symm
    exact congrArg (fun z => Ending.returned (.string z)) e0
  · go_grown
end Go.Proofs.YtddojkdaajfmcaaFmt
