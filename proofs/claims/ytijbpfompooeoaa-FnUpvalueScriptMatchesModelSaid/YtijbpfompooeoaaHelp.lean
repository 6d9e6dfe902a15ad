import Derived.Test.YtijbpfompooeoaaProg
import Derived.Test.YtijbpfompooeoaaHp
import Derived.Test.YtijbpfompooeoaaUv
import Derived.WalkKit
import Derived.WalkSpells
import Derived.WalkLawsBesides
import Derived.Lib.Hide
import Derived.Lib.Builder
import Derived.OpenShut
import Derived.Handy
import Derived.LaidEqlPtr
import Derived.Laws.EntriesVeiled
import Derived.Deep.QuietTactic
import Derived.BigQuiet
import Derived.RegionTactic
import Derived.BigRegion
import Derived.Deep.AppendLies
namespace Go.Proofs.Ytijbpfompooeoaa
open Go.RowKit Go.ChangeShapes Go.Deep
theorem clone_strs_info : (Try.prog.info? 9).map (fun i => (i.zero, i.size, i.bytes)) = some (some (.string ByteArray.empty), 1, 16) := by kernel_rfl
set_option maxHeartbeats 400000 in
theorem clone_strs (A : Option Addr) (n c : Nat) (z : Nat → ByteArray) (w : World) (ha : Arr w A n c (fun i => .string (z i))) (hn : n ≤ 1048576) :
    Calls Try.prog 9 #[.slice A n c] w fun e w' => ∃ A', e = .returned (.slice A' n n) ∧ Own w' w.heap.size 9 A' n (fun i => .string (z i)) ∧ Below w.heap.size w w' := by
  have hnil := fun w => Lib.run_eql_slice_nil (P := Try.prog) w 22 9 A n c 0 0 Try.underlying22
  rcases ha.some_ with ⟨rfl, rfl, rfl⟩ | ⟨x, rfl⟩
  · go_enter Try.func9, Try.ntmps9
    go_wp2
    go_ret
    exact ⟨none, rfl, .inl ⟨rfl, rfl⟩, Below.refl _ _⟩
  · have hmk := run_make_row' (P := Try.prog) 22 9 (.string ByteArray.empty) 16 Try.underlying22 clone_strs_info rfl .i64 .i64 n (by omega) (by omega)
    go_enter Try.func9, Try.ntmps9
    go_wp2
    go_loopw [4] (fun i wr => ∃ k : Nat, k ≤ n ∧ i = .int .i64 k ∧ wr.rowIs w.heap.size 9 n (fun j => .string (if j < k then z j else ByteArray.empty)) ∧ Below w.heap.size w wr) (fun i _ => n - (intOf i).toNat)
    case atStart => exact ⟨0, Nat.zero_le _, rfl, World.rowIs_made w _ n 9, by go_grown⟩
    case round =>
      obtain ⟨k, hk, rfl, hrow, hb⟩ := hrel
      by_cases hkn : k < n
      · obtain ⟨b, off, hx, hlt, hc⟩ := ha.at_ hkn
        injection hx with hx
        subst hx
        have c1 : wr.cell? ⟨b, off + k, none⟩ = some (.string (z k)) := (hb.cell (p := ⟨b, off + k, none⟩) hlt).trans hc
        have c2 := hrow.cell hkn
        simp only [Nat.lt_irrefl, if_false] at c2
        have c3 := hrow.frozen k
        have hrow' := (hrow.set k (.string (z k))).congr (g := fun j => .string (if j < k + 1 then z j else ByteArray.empty)) (fun i hi => by
          by_cases h1 : i = k
          · subst h1; simp
          · by_cases h2 : i < k
            · simp [h1, h2, show i < k + 1 by omega]
            · simp [h1, h2, show ¬ i < k + 1 by omega])
        have hb' := hb.setCell (p := ⟨w.heap.size, k, none⟩) (Nat.le_refl _) (.string (z k))
        have H1 := Lib.hid hrow'
        have H2 := Lib.hid hb'
        clear hrow' hb' hrow hb hc ha hnil hmk
        go_wp2
        go_roundw
        case rel => exact ⟨k + 1, by omega, by go_num, H1.out, H2.out⟩
        case measure => simp [intOf]; omega
      · have hkn' : k = n := by omega
        subst hkn'
        clear hnil hmk
        go_wp2
        go_ret
        exact ⟨_, rfl, .inr ⟨_, rfl, Nat.le_refl _, hrow.congr (fun i hi => by simp [hi])⟩, hb⟩

theorem clone_bytes_info : (Try.prog.info? 5).map (fun i => (i.zero, i.size, i.bytes)) = some (some (.int .u8 0), 1, 1) := by kernel_rfl
set_option maxHeartbeats 400000 in
theorem clone_bytes (A : Option Addr) (n c : Nat) (z : Nat → Int) (w : World) (ha : Arr w A n c (fun i => .int .u8 (z i))) (hn : n ≤ 1048576) :
    Calls Try.prog 10 #[.slice A n c] w fun e w' => ∃ A', e = .returned (.slice A' n n) ∧ Own w' w.heap.size 5 A' n (fun i => .int .u8 (z i)) ∧ Below w.heap.size w w' := by
  have hnil := fun w => Lib.run_eql_slice_nil (P := Try.prog) w 23 5 A n c 0 0 Try.underlying23
  rcases ha.some_ with ⟨rfl, rfl, rfl⟩ | ⟨x, rfl⟩
  · go_enter Try.func10, Try.ntmps10
    go_wp2
    go_ret
    exact ⟨none, rfl, .inl ⟨rfl, rfl⟩, Below.refl _ _⟩
  · have hmk := run_make_row' (P := Try.prog) 23 5 (.int .u8 0) 1 Try.underlying23 clone_bytes_info rfl .i64 .i64 n (by omega) (by omega)
    go_enter Try.func10, Try.ntmps10
    go_wp2
    go_loopw [4] (fun i wr => ∃ k : Nat, k ≤ n ∧ i = .int .i64 k ∧ wr.rowIs w.heap.size 5 n (fun j => .int .u8 (if j < k then z j else 0)) ∧ Below w.heap.size w wr) (fun i _ => n - (intOf i).toNat)
    case atStart => exact ⟨0, Nat.zero_le _, rfl, World.rowIs_made w _ n 5, by go_grown⟩
    case round =>
      obtain ⟨k, hk, rfl, hrow, hb⟩ := hrel
      by_cases hkn : k < n
      · obtain ⟨b, off, hx, hlt, hc⟩ := ha.at_ hkn
        injection hx with hx
        subst hx
        have c1 : wr.cell? ⟨b, off + k, none⟩ = some (.int .u8 (z k)) := (hb.cell (p := ⟨b, off + k, none⟩) hlt).trans hc
        have c2 := hrow.cell hkn
        simp only [Nat.lt_irrefl, if_false] at c2
        have c3 := hrow.frozen k
        have hrow' := (hrow.set k (.int .u8 (z k))).congr (g := fun j => .int .u8 (if j < k + 1 then z j else 0)) (fun i hi => by
          by_cases h1 : i = k
          · subst h1; simp
          · by_cases h2 : i < k
            · simp [h1, h2, show i < k + 1 by omega]
            · simp [h1, h2, show ¬ i < k + 1 by omega])
        have hb' := hb.setCell (p := ⟨w.heap.size, k, none⟩) (Nat.le_refl _) (.int .u8 (z k))
        have H1 := Lib.hid hrow'
        have H2 := Lib.hid hb'
        clear hrow' hb' hrow hb hc ha hnil hmk
        go_wp2
        go_roundw
        case rel => exact ⟨k + 1, by omega, by go_num, H1.out, H2.out⟩
        case measure => simp [intOf]; omega
      · have hkn' : k = n := by omega
        subst hkn'
        clear hnil hmk
        go_wp2
        go_ret
        exact ⟨_, rfl, .inr ⟨_, rfl, Nat.le_refl _, hrow.congr (fun i hi => by simp [hi])⟩, hb⟩

theorem bytes3 (A0 : Option Addr) (n0 c0 : Nat) (z0 : Nat → ByteArray) (a1 : Int) (a2 : Int) (A3 : Option Addr) (n3 c3 : Nat) (z3 : Nat → Int) (A4 : Option Addr) (n4 c4 : Nat) (z4 : Nat → ByteArray) (w : World) (h0 : Arr w A0 n0 c0 (fun i => .string (z0 i))) (h3 : Arr w A3 n3 c3 (fun i => .int .u8 (z3 i))) (h4 : Arr w A4 n4 c4 (fun i => .string (z4 i))) :
    Calls Try.prog 7 #[.slice A0 n0 c0, .int .i64 a1, .int .i64 a2, .slice A3 n3 c3, .slice A4 n4 c4] w (SomeB (n0 ≤ 1048576 ∧ n3 ≤ 1048576 ∧ n4 ≤ 1048576) w) := by
  have m0 := h0.len
  unfold maxLen at m0
  have m3 := h3.len
  unfold maxLen at m3
  have m4 := h4.len
  unfold maxLen at m4
  by_cases b0 : 1048576 < n0
  · go_enter Try.func7, Try.ntmps7
    go_wp2
    go_ret
    exact ⟨false, rfl, rfl, fun h => by cases h⟩
  · have e0 : n0 ≤ 1048576 := by omega
    go_enter Try.func7, Try.ntmps7
    go_wp2
    go_loop [11, 12] (fun t i => ∃ (k : Nat) (q : Int), k ≤ n0 ∧ i = .int .i64 k ∧ t = .int .i64 q ∧ 0 ≤ q ∧ q ≤ 1048576) (fun _ i => n0 - (intOf i).toNat)
    case atStart => exact ⟨0, _, Nat.zero_le _, rfl, rfl, by omega, by omega⟩
    case round =>
      obtain ⟨k0, q0, hk0, rfl, rfl, hq0, hr0⟩ := hrel
      by_cases hkn0 : k0 < n0
      · obtain ⟨b, off, hx, _, hc⟩ := h0.at_ hkn0
        subst hx
        by_cases u1 : 1048576 < (z0 k0).size
        · go_wp2
          go_ret
          exact ⟨false, rfl, rfl, fun h => by cases h⟩
        · have u1' : (z0 k0).size ≤ 1048576 := by omega
          by_cases u2 : 1048576 < q0 + ((z0 k0).size : Int)
          · go_wp2
            go_ret
            exact ⟨false, rfl, rfl, fun h => by cases h⟩
          · have u2' : q0 + ((z0 k0).size : Int) ≤ 1048576 := by omega
            go_wp2
            go_round
            case rel => exact ⟨k0 + 1, _, by omega, by go_num, rfl, by omega, by omega⟩
            case measure => simp [intOf]; omega
      · have hke0 : ¬ k0 < n0 := hkn0
        by_cases b3 : 1048576 < n3
        · go_wp2
          go_ret
          exact ⟨false, rfl, rfl, fun h => by cases h⟩
        · have e3 : n3 ≤ 1048576 := by omega
          by_cases d3 : 1048576 < q0 + (n3 : Int)
          · go_wp2
            go_ret
            exact ⟨false, rfl, rfl, fun h => by cases h⟩
          · have g3 : q0 + (n3 : Int) ≤ 1048576 := by omega
            by_cases b4 : 1048576 < n4
            · go_wp2
              go_ret
              exact ⟨false, rfl, rfl, fun h => by cases h⟩
            · have e4 : n4 ≤ 1048576 := by omega
              by_cases d4 : 1048576 < q0 + (n3 : Int) + (n4 : Int)
              · go_wp2
                go_ret
                exact ⟨false, rfl, rfl, fun h => by cases h⟩
              · have g4 : q0 + (n3 : Int) + (n4 : Int) ≤ 1048576 := by omega
                go_wp2
                go_loop [11, 13] (fun t i => ∃ (k : Nat) (q : Int), k ≤ n4 ∧ i = .int .i64 k ∧ t = .int .i64 q ∧ 0 ≤ q ∧ q ≤ 1048576) (fun _ i => n4 - (intOf i).toNat)
                case atStart => exact ⟨0, _, Nat.zero_le _, rfl, rfl, by omega, by omega⟩
                case round =>
                  obtain ⟨k4, q4, hk4, rfl, rfl, hq4, hr4⟩ := hrel
                  by_cases hkn4 : k4 < n4
                  · obtain ⟨b, off, hx, _, hc⟩ := h4.at_ hkn4
                    subst hx
                    by_cases u1 : 1048576 < (z4 k4).size
                    · go_wp2
                      go_ret
                      exact ⟨false, rfl, rfl, fun h => by cases h⟩
                    · have u1' : (z4 k4).size ≤ 1048576 := by omega
                      by_cases u2 : 1048576 < q4 + ((z4 k4).size : Int)
                      · go_wp2
                        go_ret
                        exact ⟨false, rfl, rfl, fun h => by cases h⟩
                      · have u2' : q4 + ((z4 k4).size : Int) ≤ 1048576 := by omega
                        go_wp2
                        go_round
                        case rel => exact ⟨k4 + 1, _, by omega, by go_num, rfl, by omega, by omega⟩
                        case measure => simp [intOf]; omega
                  · have hke4 : ¬ k4 < n4 := hkn4
                    go_wp2
                    go_ret
                    exact ⟨true, rfl, rfl, fun _ => by first | trivial | omega⟩

theorem bytes4 (A0 : Option Addr) (n0 c0 : Nat) (z0 : Nat → ByteArray) (a1 : Int) (a2 : ByteArray) (a3 : ByteArray) (a4 : Bool) (a5 : Bool) (w : World) (h0 : Arr w A0 n0 c0 (fun i => .string (z0 i))) (h2 : a2.size ≤ maxLen) (h3 : a3.size ≤ maxLen) :
    Calls Try.prog 18 #[.slice A0 n0 c0, .int .i64 a1, .string a2, .string a3, .bool a4, .bool a5] w (SomeB (n0 ≤ 1048576 ∧ a2.size ≤ 1048576 ∧ a3.size ≤ 1048576) w) := by
  have m0 := h0.len
  unfold maxLen at m0
  have m2 := h2
  unfold maxLen at m2
  have m3 := h3
  unfold maxLen at m3
  by_cases b0 : 1048576 < n0
  · go_enter Try.func18, Try.ntmps18
    go_wp2
    go_ret
    exact ⟨false, rfl, rfl, fun h => by cases h⟩
  · have e0 : n0 ≤ 1048576 := by omega
    go_enter Try.func18, Try.ntmps18
    go_wp2
    go_loop [13, 14] (fun t i => ∃ (k : Nat) (q : Int), k ≤ n0 ∧ i = .int .i64 k ∧ t = .int .i64 q ∧ 0 ≤ q ∧ q ≤ 1048576) (fun _ i => n0 - (intOf i).toNat)
    case atStart => exact ⟨0, _, Nat.zero_le _, rfl, rfl, by omega, by omega⟩
    case round =>
      obtain ⟨k0, q0, hk0, rfl, rfl, hq0, hr0⟩ := hrel
      by_cases hkn0 : k0 < n0
      · obtain ⟨b, off, hx, _, hc⟩ := h0.at_ hkn0
        subst hx
        by_cases u1 : 1048576 < (z0 k0).size
        · go_wp2
          go_ret
          exact ⟨false, rfl, rfl, fun h => by cases h⟩
        · have u1' : (z0 k0).size ≤ 1048576 := by omega
          by_cases u2 : 1048576 < q0 + ((z0 k0).size : Int)
          · go_wp2
            go_ret
            exact ⟨false, rfl, rfl, fun h => by cases h⟩
          · have u2' : q0 + ((z0 k0).size : Int) ≤ 1048576 := by omega
            go_wp2
            go_round
            case rel => exact ⟨k0 + 1, _, by omega, by go_num, rfl, by omega, by omega⟩
            case measure => simp [intOf]; omega
      · have hke0 : ¬ k0 < n0 := hkn0
        by_cases b2 : 1048576 < a2.size
        · go_wp2
          go_ret
          exact ⟨false, rfl, rfl, fun h => by cases h⟩
        · have e2 : a2.size ≤ 1048576 := by omega
          by_cases d2 : 1048576 < q0 + (a2.size : Int)
          · go_wp2
            go_ret
            exact ⟨false, rfl, rfl, fun h => by cases h⟩
          · have g2 : q0 + (a2.size : Int) ≤ 1048576 := by omega
            by_cases b3 : 1048576 < a3.size
            · go_wp2
              go_ret
              exact ⟨false, rfl, rfl, fun h => by cases h⟩
            · have e3 : a3.size ≤ 1048576 := by omega
              by_cases d3 : 1048576 < q0 + (a2.size : Int) + (a3.size : Int)
              · go_wp2
                go_ret
                exact ⟨false, rfl, rfl, fun h => by cases h⟩
              · have g3 : q0 + (a2.size : Int) + (a3.size : Int) ≤ 1048576 := by omega
                go_wp2
                go_ret
                exact ⟨true, rfl, rfl, fun _ => by first | trivial | omega⟩

theorem bytes5 (A0 : Option Addr) (n0 c0 : Nat) (z0 : Nat → ByteArray) (a1 : Int) (a2 : ByteArray) (a3 : Bool) (a4 : ByteArray) (a5 : ByteArray) (w : World) (h0 : Arr w A0 n0 c0 (fun i => .string (z0 i))) (h2 : a2.size ≤ maxLen) (h4 : a4.size ≤ maxLen) (h5 : a5.size ≤ maxLen) :
    Calls Try.prog 21 #[.slice A0 n0 c0, .int .i64 a1, .string a2, .bool a3, .string a4, .string a5] w (SomeB (n0 ≤ 1048576 ∧ a2.size ≤ 1048576 ∧ a4.size ≤ 1048576 ∧ a5.size ≤ 1048576) w) := by
  have m0 := h0.len
  unfold maxLen at m0
  have m2 := h2
  unfold maxLen at m2
  have m4 := h4
  unfold maxLen at m4
  have m5 := h5
  unfold maxLen at m5
  by_cases b0 : 1048576 < n0
  · go_enter Try.func21, Try.ntmps21
    go_wp2
    go_ret
    exact ⟨false, rfl, rfl, fun h => by cases h⟩
  · have e0 : n0 ≤ 1048576 := by omega
    go_enter Try.func21, Try.ntmps21
    go_wp2
    go_loop [13, 14] (fun t i => ∃ (k : Nat) (q : Int), k ≤ n0 ∧ i = .int .i64 k ∧ t = .int .i64 q ∧ 0 ≤ q ∧ q ≤ 1048576) (fun _ i => n0 - (intOf i).toNat)
    case atStart => exact ⟨0, _, Nat.zero_le _, rfl, rfl, by omega, by omega⟩
    case round =>
      obtain ⟨k0, q0, hk0, rfl, rfl, hq0, hr0⟩ := hrel
      by_cases hkn0 : k0 < n0
      · obtain ⟨b, off, hx, _, hc⟩ := h0.at_ hkn0
        subst hx
        by_cases u1 : 1048576 < (z0 k0).size
        · go_wp2
          go_ret
          exact ⟨false, rfl, rfl, fun h => by cases h⟩
        · have u1' : (z0 k0).size ≤ 1048576 := by omega
          by_cases u2 : 1048576 < q0 + ((z0 k0).size : Int)
          · go_wp2
            go_ret
            exact ⟨false, rfl, rfl, fun h => by cases h⟩
          · have u2' : q0 + ((z0 k0).size : Int) ≤ 1048576 := by omega
            go_wp2
            go_round
            case rel => exact ⟨k0 + 1, _, by omega, by go_num, rfl, by omega, by omega⟩
            case measure => simp [intOf]; omega
      · have hke0 : ¬ k0 < n0 := hkn0
        by_cases b2 : 1048576 < a2.size
        · go_wp2
          go_ret
          exact ⟨false, rfl, rfl, fun h => by cases h⟩
        · have e2 : a2.size ≤ 1048576 := by omega
          by_cases d2 : 1048576 < q0 + (a2.size : Int)
          · go_wp2
            go_ret
            exact ⟨false, rfl, rfl, fun h => by cases h⟩
          · have g2 : q0 + (a2.size : Int) ≤ 1048576 := by omega
            by_cases b4 : 1048576 < a4.size
            · go_wp2
              go_ret
              exact ⟨false, rfl, rfl, fun h => by cases h⟩
            · have e4 : a4.size ≤ 1048576 := by omega
              by_cases d4 : 1048576 < q0 + (a2.size : Int) + (a4.size : Int)
              · go_wp2
                go_ret
                exact ⟨false, rfl, rfl, fun h => by cases h⟩
              · have g4 : q0 + (a2.size : Int) + (a4.size : Int) ≤ 1048576 := by omega
                by_cases b5 : 1048576 < a5.size
                · go_wp2
                  go_ret
                  exact ⟨false, rfl, rfl, fun h => by cases h⟩
                · have e5 : a5.size ≤ 1048576 := by omega
                  by_cases d5 : 1048576 < q0 + (a2.size : Int) + (a4.size : Int) + (a5.size : Int)
                  · go_wp2
                    go_ret
                    exact ⟨false, rfl, rfl, fun h => by cases h⟩
                  · have g5 : q0 + (a2.size : Int) + (a4.size : Int) + (a5.size : Int) ≤ 1048576 := by omega
                    go_wp2
                    go_ret
                    exact ⟨true, rfl, rfl, fun _ => by first | trivial | omega⟩

theorem bytes6 (A0 : Option Addr) (n0 c0 : Nat) (z0 : Nat → ByteArray) (a1 : Int) (a2 : ByteArray) (a3 : Bool) (a4 : Bool) (a5 : Bool) (w : World) (h0 : Arr w A0 n0 c0 (fun i => .string (z0 i))) (h2 : a2.size ≤ maxLen) :
    Calls Try.prog 23 #[.slice A0 n0 c0, .int .i64 a1, .string a2, .bool a3, .bool a4, .bool a5] w (SomeB (n0 ≤ 1048576 ∧ a2.size ≤ 1048576) w) := by
  have m0 := h0.len
  unfold maxLen at m0
  have m2 := h2
  unfold maxLen at m2
  by_cases b0 : 1048576 < n0
  · go_enter Try.func23, Try.ntmps23
    go_wp2
    go_ret
    exact ⟨false, rfl, rfl, fun h => by cases h⟩
  · have e0 : n0 ≤ 1048576 := by omega
    go_enter Try.func23, Try.ntmps23
    go_wp2
    go_loop [13, 14] (fun t i => ∃ (k : Nat) (q : Int), k ≤ n0 ∧ i = .int .i64 k ∧ t = .int .i64 q ∧ 0 ≤ q ∧ q ≤ 1048576) (fun _ i => n0 - (intOf i).toNat)
    case atStart => exact ⟨0, _, Nat.zero_le _, rfl, rfl, by omega, by omega⟩
    case round =>
      obtain ⟨k0, q0, hk0, rfl, rfl, hq0, hr0⟩ := hrel
      by_cases hkn0 : k0 < n0
      · obtain ⟨b, off, hx, _, hc⟩ := h0.at_ hkn0
        subst hx
        by_cases u1 : 1048576 < (z0 k0).size
        · go_wp2
          go_ret
          exact ⟨false, rfl, rfl, fun h => by cases h⟩
        · have u1' : (z0 k0).size ≤ 1048576 := by omega
          by_cases u2 : 1048576 < q0 + ((z0 k0).size : Int)
          · go_wp2
            go_ret
            exact ⟨false, rfl, rfl, fun h => by cases h⟩
          · have u2' : q0 + ((z0 k0).size : Int) ≤ 1048576 := by omega
            go_wp2
            go_round
            case rel => exact ⟨k0 + 1, _, by omega, by go_num, rfl, by omega, by omega⟩
            case measure => simp [intOf]; omega
      · have hke0 : ¬ k0 < n0 := hkn0
        by_cases b2 : 1048576 < a2.size
        · go_wp2
          go_ret
          exact ⟨false, rfl, rfl, fun h => by cases h⟩
        · have e2 : a2.size ≤ 1048576 := by omega
          by_cases d2 : 1048576 < q0 + (a2.size : Int)
          · go_wp2
            go_ret
            exact ⟨false, rfl, rfl, fun h => by cases h⟩
          · have g2 : q0 + (a2.size : Int) ≤ 1048576 := by omega
            go_wp2
            go_ret
            exact ⟨true, rfl, rfl, fun _ => by first | trivial | omega⟩

def SB (z : Nat → ByteArray) (n : Nat) (w : World) (e : Ending) (w' : World) : Prop := ∃ q : Int, e = .returned (.int .i64 q) ∧ w = w' ∧ 0 ≤ q ∧ q ≤ 2097152 ∧ (q ≤ 1048576 → ∀ i, i < n → (z i).size ≤ 1048576)
theorem str_bytes (A : Option Addr) (n c : Nat) (z : Nat → ByteArray) (w : World) (ha : Arr w A n c (fun i => .string (z i))) (hn : n ≤ 1048576) :
    Calls Try.prog 8 #[.slice A n c] w (SB z n w) := by
  by_cases t1 : 65536 < n
  · go_enter Try.func8, Try.ntmps8
    go_wp2
    go_ret
    exact ⟨_, rfl, rfl, by omega, by omega, fun h => by omega⟩
  · go_enter Try.func8, Try.ntmps8
    go_wp2
    go_loop [3, 4] (fun t i => ∃ (k : Nat) (q : Int), k ≤ n ∧ i = .int .i64 k ∧ t = .int .i64 q ∧ 0 ≤ q ∧ q ≤ 1048576 ∧ ∀ i, i < k → (z i).size ≤ 1048576) (fun _ i => n - (intOf i).toNat)
    case atStart => exact ⟨0, _, Nat.zero_le _, rfl, rfl, by omega, by omega, fun i hi => by omega⟩
    case round =>
      obtain ⟨k, q, hk, rfl, rfl, hq0, hq1, hz⟩ := hrel
      have HZ := Lib.hid hz
      clear hz
      by_cases hkn : k < n
      · obtain ⟨b, off, hx, _, hc⟩ := ha.at_ hkn
        subst hx
        by_cases u1 : 1048576 < (z k).size
        · go_wp2
          go_ret
          exact ⟨_, rfl, rfl, by omega, by omega, fun h => by omega⟩
        · by_cases u2 : 1048576 < q + ((z k).size : Int)
          · go_wp2
            go_ret
            exact ⟨_, rfl, rfl, by omega, by omega, fun h => by omega⟩
          · go_wp2
            go_round
            case rel => exact ⟨k + 1, _, by omega, by go_num, rfl, by omega, by omega, fun i hi => by
              by_cases h : i = k
              · subst h; omega
              · exact HZ.out i (by omega)⟩
            case measure => simp [intOf]; omega
      · go_wp2
        go_ret
        exact ⟨_, rfl, rfl, by omega, by omega, fun _ i hi => HZ.out i (by omega)⟩
theorem reg_setV {w : World} {r g n : Nat} {t : Int} {V : Nat → Value} (h1 : w.rowIs r 56 6 (regF g n t)) (h2 : w.rowIs g 46 n V) (_hn : n ≤ 65536) (i : Nat) (hi : i < n) (s : ByteArray) :
    Calls Try.prog 15 #[.pointer (some ⟨r, 0, none⟩), .int .i64 i, .string s] w fun e w' => e = .returned (.tuple #[]) ∧ w' = w.setCell ⟨g, i, none⟩ (.iface 44 (.string s)) := by
  have c0 := h1.cell (i := 0) (by omega)
  simp [regF] at c0
  have c1 := h2.cell hi
  have f1 := h2.frozen i
  clear h1 h2
  go_enter Try.func15, Try.ntmps15
  go_wp2
  go_end0
  exact ⟨rfl, rfl⟩
theorem build_reg (A : Option Addr) (n c : Nat) (z : Nat → ByteArray) (w : World) (ha : Arr w A n c (fun i => .string (z i))) (hn : n ≤ 65536) :
    Calls Try.prog 11 #[.slice A n c] w fun e w' => ∃ r g : Nat, e = .returned (.pointer (some ⟨r, 0, none⟩)) ∧ RG w' r g n z ∧ Below w.heap.size w w' ∧ w.heap.size ≤ r ∧ w.heap.size ≤ g := by
  go_enter Try.func11, Try.ntmps11
  go_wp2_with fail
  refine (new_reg n hn w).mono ?_
  rintro e w1 ⟨rfl, r1, r2, b1⟩
  have R1 := Lib.hid r1
  have R2 := Lib.hid r2
  have B1 := Lib.hid b1
  clear r1 r2 b1
  go_wp2
  go_loopw [4] (fun i wr => ∃ k : Nat, k ≤ n ∧ i = .int .i64 k ∧ wr.rowIs w.heap.size 46 n (fun j => if j < k then cell44 z j else .nilIface) ∧ wr.rowIs (w.heap.size + 1) 56 6 (regF w.heap.size n 0) ∧ Below w.heap.size w wr) (fun i _ => n - (intOf i).toNat)
  case atStart => exact ⟨0, Nat.zero_le _, rfl, R1.out.congr (fun i hi => by simp), R2.out, B1.out⟩
  case round =>
    obtain ⟨k, hk, rfl, h1, h2, hb⟩ := hrel
    by_cases hkn : k < n
    · obtain ⟨b, off, rfl, hlt, hc⟩ := (ha.below hb).at_ hkn
      have c15 := reg_setV h2 h1 hn k hkn (z k)
      have H1 := Lib.hid h1
      have H2 := Lib.hid h2
      have HB := Lib.hid hb
      clear h1 h2 hb ha
      go_wp2_with (go_at_call 15; refine c15.mono ?_; rintro e w' ⟨rfl, rfl⟩)
      go_roundw
      case rel =>
        refine ⟨k + 1, by omega, by go_num, (H1.out.set k (.iface 44 (.string (z k)))).congr (fun i hi => ?_), World.rowIs.setOther H2.out (a := ⟨w.heap.size, k, none⟩) (by show _ ≠ _; simp) _, HB.out.setCell (p := ⟨w.heap.size, k, none⟩) (Nat.le_refl _) _⟩
        by_cases h1 : i = k
        · subst h1; simp [cell44]
        · by_cases h2 : i < k
          · simp [h1, h2, show i < k + 1 by omega]
          · simp [h1, h2, show ¬ i < k + 1 by omega]
      case measure => simp [intOf]; omega
    · have hkn' : k = n := by omega
      subst hkn'
      have H1 := Lib.hid h1
      have H2 := Lib.hid h2
      have HB := Lib.hid hb
      clear h1 h2 hb ha
      go_wp2
      go_ret
      exact ⟨_, _, rfl, ⟨⟨0, H2.out⟩, H1.out.congr (fun i hi => by simp [hi]), by omega⟩, HB.out, by omega, by omega⟩
end Go.Proofs.Ytijbpfompooeoaa
