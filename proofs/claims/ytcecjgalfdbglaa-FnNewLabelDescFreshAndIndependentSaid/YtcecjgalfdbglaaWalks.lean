/- Two labels made of the same arguments are two objects: the walk through newLabelDesc, SetNumActiveLocalVars and the law. -/
import Derived.Test.YtcecjgalfdbglaaProg
import Derived.WalkKit
import Derived.OpenShut
import Derived.Handy
import Derived.LaidEqlPtr
namespace Go.Proofs.Ytcecjgalfdbglaa
open Go.RowKit Go.ChangeShapes
theorem info27 : (Try.prog.info? 27).map (fun i => decide (i.size = 0)) = some false := by kernel_rfl
theorem bytes_yes (a0 : Int) (a1 : ByteArray) (a2 a3 a4 a5 : Int) (h : a1.size ≤ 1048576) (w : World) :
    Calls Try.prog 4 #[.int .i64 a0, .string a1, .int .i64 a2, .int .i64 a3, .int .i64 a4, .int .i64 a5] w fun e w' => e = .returned (.bool true) ∧ w = w' := by
  go_enter Try.func4, Try.ntmps4
  go_wp2
  go_ret
  exact ⟨rfl, rfl⟩
theorem bytes_no (a0 : Int) (a1 : ByteArray) (a2 a3 a4 a5 : Int) (h : 1048576 < a1.size) (hs : a1.size ≤ 9223372036854775807) (w : World) :
    Calls Try.prog 4 #[.int .i64 a0, .string a1, .int .i64 a2, .int .i64 a3, .int .i64 a4, .int .i64 a5] w fun e w' => e = .returned (.bool false) ∧ w = w' := by
  go_enter Try.func4, Try.ntmps4
  go_wp2
  go_ret
  exact ⟨rfl, rfl⟩
theorem mk (a0 : Int) (a1 : ByteArray) (a2 a3 a4 : Int) (w : World) :
    Calls Try.prog 5 #[.int .i64 a0, .string a1, .int .i64 a2, .int .i64 a3, .int .i64 a4] w fun e w' =>
      e = .returned (.pointer (some ⟨w.heap.size, 0, none⟩)) ∧ w.alloc (.cells #[.int .i64 a0, .string a1, .int .i64 a2, .int .i64 a3, .int .i64 a4] 27) = w' := by
  go_enter Try.func5, Try.ntmps5
  go_wp2
  go_ret
  exact ⟨rfl, rfl⟩
theorem setn (b : Nat) (m : Int) (x : Value) (w : World) (hc : w.cell? ⟨b, 4, none⟩ = some x) (hf : w.frozen? ⟨b, 4, none⟩ = false) :
    Calls Try.prog 6 #[.pointer (some ⟨b, 0, none⟩), .int .i64 m] w fun e w' => e = .returned (.tuple #[]) ∧ w.setCell ⟨b, 4, none⟩ (.int .i64 m) = w' := by
  go_enter Try.func6, Try.ntmps6
  go_wp2
  go_end0
  exact ⟨rfl, rfl⟩
theorem walk3 (a0 : Int) (a1 : ByteArray) (a2 a3 a4 a5 : Int) (hs : a1.size ≤ maxLen) (w : World) :
    Calls Try.prog 3 #[.int .i64 a0, .string a1, .int .i64 a2, .int .i64 a3, .int .i64 a4, .int .i64 a5] w fun e w' => e = .returned (.bool true) ∧ Below w.heap.size w w' := by
  unfold maxLen at hs
  by_cases h1 : 1048576 < a1.size
  · go_enter Try.func3, Try.ntmps3
    go_wp2_with (go_at_call 4; refine (bytes_no _ _ _ _ _ _ h1 hs _).mono ?_; rintro e w' ⟨rfl, rfl⟩)
    go_ret
    exact ⟨rfl, by go_grown⟩
  · have h2 : a1.size ≤ 1048576 := by omega
    obtain ⟨j, hj, hj0⟩ := Option.map_eq_some_iff.1 info27
    have hsz : j.size ≠ 0 := by simpa using hj0
    have hne := run_eql_ptr_other (P := Try.prog) (w := (w.alloc (.cells #[.int .i64 a0, .string a1, .int .i64 a2, .int .i64 a3, .int .i64 a4] 27)).alloc (.cells #[.int .i64 a0, .string a1, .int .i64 a2, .int .i64 a3, .int .i64 a4] 27))
      (a := ⟨w.heap.size, 0, none⟩) (b := ⟨w.heap.size + 1, 0, none⟩) (ca := #[.int .i64 a0, .string a1, .int .i64 a2, .int .i64 a3, .int .i64 a4]) (ta := 27) (cb := #[.int .i64 a0, .string a1, .int .i64 a2, .int .i64 a3, .int .i64 a4]) (tb := 27)
      Try.underlying23 hj hsz (by simp) ((Below.heap_alloc (w.alloc _) _ w.heap.size (by simp)).trans (heap_alloc_new w _)) (by simpa using heap_alloc_new (w.alloc (.cells #[.int .i64 a0, .string a1, .int .i64 a2, .int .i64 a3, .int .i64 a4] 27)) (.cells #[.int .i64 a0, .string a1, .int .i64 a2, .int .i64 a3, .int .i64 a4] 27))
    clear hj hj0 hsz
    go_enter Try.func3, Try.ntmps3
    go_wp2_with (first | (go_at_call 4; refine (bytes_yes _ _ _ _ _ _ h2 _).mono ?_; rintro e w' ⟨rfl, rfl⟩) | (go_at_call 5; refine (mk _ _ _ _ _ _).mono ?_; rintro e w' ⟨rfl, rfl⟩) | (go_at_call 6; refine (setn _ _ (.int .i64 a4) _ ?_ ?_).mono ?_; go_simp; go_simp; rintro e w' ⟨rfl, rfl⟩))
    go_ret
    exact ⟨rfl, by go_grown⟩
end Go.Proofs.Ytcecjgalfdbglaa
