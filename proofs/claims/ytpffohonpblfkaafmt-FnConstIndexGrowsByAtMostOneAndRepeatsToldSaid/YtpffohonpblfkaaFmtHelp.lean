/- The helpers of the laws on local variables. -/
import Derived.Test.YtpffohonpblfkaaFmtApi
namespace Go.Proofs.YtpffohonpblfkaaFmt
open Go.RowKit Go.ChangeShapes Go.Deep
theorem clone_bools_info : (Tryf.prog.info? 4).map (fun i => (i.zero, i.size, i.bytes)) = some (some (.bool false), 1, 1) := by kernel_rfl
set_option maxHeartbeats 400000 in
theorem clone_bools (A : Option Addr) (n c : Nat) (z : Nat → Bool) (w : World) (ha : Arr w A n c (fun i => .bool (z i))) (hn : n ≤ 1048576) :
    Calls Tryf.prog 10 #[.slice A n c] w fun e w' => ∃ A', e = .returned (.slice A' n n) ∧ Own w' w.heap.size 4 A' n (fun i => .bool (z i)) ∧ Below w.heap.size w w' := by
  have hnil := fun w => Lib.run_eql_slice_nil (P := Tryf.prog) w 22 4 A n c 0 0 Tryf.underlying22
  rcases ha.some_ with ⟨rfl, rfl, rfl⟩ | ⟨x, rfl⟩
  · go_enter Tryf.func10, Tryf.ntmps10
    go_wp2
    go_ret
    exact ⟨none, rfl, .inl ⟨rfl, rfl⟩, Below.refl _ _⟩
  · have hmk := run_make_row' (P := Tryf.prog) 22 4 (.bool false) 1 Tryf.underlying22 clone_bools_info rfl .i64 .i64 n (by omega) (by omega)
    go_enter Tryf.func10, Tryf.ntmps10
    go_wp2
    go_loopw [4] (fun i wr => ∃ k : Nat, k ≤ n ∧ i = .int .i64 k ∧ wr.rowIs w.heap.size 4 n (fun j => .bool (if j < k then z j else false)) ∧ Below w.heap.size w wr) (fun i _ => n - (intOf i).toNat)
    case atStart => exact ⟨0, Nat.zero_le _, rfl, World.rowIs_made w _ n 4, by go_grown⟩
    case round =>
      obtain ⟨k, hk, rfl, hrow, hb⟩ := hrel
      by_cases hkn : k < n
      · obtain ⟨b, off, hx, hlt, hc⟩ := ha.at_ hkn
        injection hx with hx
        subst hx
        have c1 : wr.cell? ⟨b, off + k, none⟩ = some (.bool (z k)) := (hb.cell (p := ⟨b, off + k, none⟩) hlt).trans hc
        have c2 := hrow.cell hkn
        simp only [Nat.lt_irrefl, if_false] at c2
        have c3 := hrow.frozen k
        have hrow' := (hrow.set k (.bool (z k))).congr (g := fun j => .bool (if j < k + 1 then z j else false)) (fun i hi => by
          by_cases h1 : i = k
          · subst h1; simp
          · by_cases h2 : i < k
            · simp [h1, h2, show i < k + 1 by omega]
            · simp [h1, h2, show ¬ i < k + 1 by omega])
        have hb' := hb.setCell (p := ⟨w.heap.size, k, none⟩) (Nat.le_refl _) (.bool (z k))
        have H1 := Lib.hid hrow'
        have H2 := Lib.hid hb'
        clear hrow' hb' hrow hb hc ha hnil hmk
        go_wp2
        go_roundw
        case rel => exact ⟨k + 1, by omega, by go_num, H1.out, H2.out⟩
        case measure => simp [intOf]; omega
      · have hkn' : k = n := by omega
        subst hkn'
        clear hnil hmk
        go_wp2
        go_ret
        exact ⟨_, rfl, .inr ⟨_, rfl, Nat.le_refl _, hrow.congr (fun i hi => by simp [hi])⟩, hb⟩

theorem clone_strs_info : (Tryf.prog.info? 9).map (fun i => (i.zero, i.size, i.bytes)) = some (some (.string ByteArray.empty), 1, 16) := by kernel_rfl
set_option maxHeartbeats 400000 in
theorem clone_strs (A : Option Addr) (n c : Nat) (z : Nat → ByteArray) (w : World) (ha : Arr w A n c (fun i => .string (z i))) (hn : n ≤ 1048576) :
    Calls Tryf.prog 12 #[.slice A n c] w fun e w' => ∃ A', e = .returned (.slice A' n n) ∧ Own w' w.heap.size 9 A' n (fun i => .string (z i)) ∧ Below w.heap.size w w' := by
  have hnil := fun w => Lib.run_eql_slice_nil (P := Tryf.prog) w 24 9 A n c 0 0 Tryf.underlying24
  rcases ha.some_ with ⟨rfl, rfl, rfl⟩ | ⟨x, rfl⟩
  · go_enter Tryf.func12, Tryf.ntmps12
    go_wp2
    go_ret
    exact ⟨none, rfl, .inl ⟨rfl, rfl⟩, Below.refl _ _⟩
  · have hmk := run_make_row' (P := Tryf.prog) 24 9 (.string ByteArray.empty) 16 Tryf.underlying24 clone_strs_info rfl .i64 .i64 n (by omega) (by omega)
    go_enter Tryf.func12, Tryf.ntmps12
    go_wp2
    go_loopw [4] (fun i wr => ∃ k : Nat, k ≤ n ∧ i = .int .i64 k ∧ wr.rowIs w.heap.size 9 n (fun j => .string (if j < k then z j else ByteArray.empty)) ∧ Below w.heap.size w wr) (fun i _ => n - (intOf i).toNat)
    case atStart => exact ⟨0, Nat.zero_le _, rfl, World.rowIs_made w _ n 9, by go_grown⟩
    case round =>
      obtain ⟨k, hk, rfl, hrow, hb⟩ := hrel
      by_cases hkn : k < n
      · obtain ⟨b, off, hx, hlt, hc⟩ := ha.at_ hkn
        injection hx with hx
        subst hx
        have c1 : wr.cell? ⟨b, off + k, none⟩ = some (.string (z k)) := (hb.cell (p := ⟨b, off + k, none⟩) hlt).trans hc
        have c2 := hrow.cell hkn
        simp only [Nat.lt_irrefl, if_false] at c2
        have c3 := hrow.frozen k
        have hrow' := (hrow.set k (.string (z k))).congr (g := fun j => .string (if j < k + 1 then z j else ByteArray.empty)) (fun i hi => by
          by_cases h1 : i = k
          · subst h1; simp
          · by_cases h2 : i < k
            · simp [h1, h2, show i < k + 1 by omega]
            · simp [h1, h2, show ¬ i < k + 1 by omega])
        have hb' := hb.setCell (p := ⟨w.heap.size, k, none⟩) (Nat.le_refl _) (.string (z k))
        have H1 := Lib.hid hrow'
        have H2 := Lib.hid hb'
        clear hrow' hb' hrow hb hc ha hnil hmk
        go_wp2
        go_roundw
        case rel => exact ⟨k + 1, by omega, by go_num, H1.out, H2.out⟩
        case measure => simp [intOf]; omega
      · have hkn' : k = n := by omega
        subst hkn'
        clear hnil hmk
        go_wp2
        go_ret
        exact ⟨_, rfl, .inr ⟨_, rfl, Nat.le_refl _, hrow.congr (fun i hi => by simp [hi])⟩, hb⟩

theorem str_count (A : Option Addr) (n c : Nat) (z : Nat → ByteArray) (w : World) (ha : Arr w A n c (fun i => .string (z i))) (hn : n ≤ 1048576) :
    Calls Tryf.prog 9 #[.slice A n c] w (SomeI w) := by
  go_enter Tryf.func9, Tryf.ntmps9
  go_wp2
  go_loop [3, 4] (fun t i => ∃ (k : Nat) (q : Int), k ≤ n ∧ i = .int .i64 k ∧ t = .int .i64 q) (fun _ i => n - (intOf i).toNat)
  case atStart => exact ⟨0, _, Nat.zero_le _, rfl, rfl⟩
  case round =>
    obtain ⟨k, q, hk, rfl, rfl⟩ := hrel
    by_cases hkn : k < n
    · obtain ⟨b, off, hx, _, hc⟩ := ha.at_ hkn
      subst hx
      go_wp2
      go_round
      case rel => exact ⟨k + 1, _, by omega, by go_num, rfl⟩
      case measure => simp [intOf]; omega
    · go_wp2
      go_ret
      exact ⟨_, rfl, rfl⟩

theorem bytes4 (A0 : Option Addr) (n0 c0 : Nat) (z0 : Nat → Bool) (A1 : Option Addr) (n1 c1 : Nat) (z1 : Nat → ByteArray) (w : World) (h0 : Arr w A0 n0 c0 (fun i => .bool (z0 i))) (h1 : Arr w A1 n1 c1 (fun i => .string (z1 i))) :
    Calls Tryf.prog 17 #[.slice A0 n0 c0, .slice A1 n1 c1] w (SomeB (n0 ≤ 1048576 ∧ n1 ≤ 1048576) w) := by
  have m0 := h0.len
  unfold maxLen at m0
  have m1 := h1.len
  unfold maxLen at m1
  by_cases b0 : 1048576 < n0
  · go_enter Tryf.func17, Tryf.ntmps17
    go_wp2
    go_ret
    exact ⟨false, rfl, rfl, fun h => by cases h⟩
  · have e0 : n0 ≤ 1048576 := by omega
    by_cases b1 : 1048576 < n1
    · go_enter Tryf.func17, Tryf.ntmps17
      go_wp2
      go_ret
      exact ⟨false, rfl, rfl, fun h => by cases h⟩
    · have e1 : n1 ≤ 1048576 := by omega
      by_cases d1 : 1048576 < (n0 : Int) + (n1 : Int)
      · go_enter Tryf.func17, Tryf.ntmps17
        go_wp2
        go_ret
        exact ⟨false, rfl, rfl, fun h => by cases h⟩
      · have g1 : (n0 : Int) + (n1 : Int) ≤ 1048576 := by omega
        go_enter Tryf.func17, Tryf.ntmps17
        go_wp2
        go_loop [5, 6] (fun t i => ∃ (k : Nat) (q : Int), k ≤ n1 ∧ i = .int .i64 k ∧ t = .int .i64 q ∧ 0 ≤ q ∧ q ≤ 1048576) (fun _ i => n1 - (intOf i).toNat)
        case atStart => exact ⟨0, _, Nat.zero_le _, rfl, rfl, by omega, by omega⟩
        case round =>
          obtain ⟨k1, q1, hk1, rfl, rfl, hq1, hr1⟩ := hrel
          by_cases hkn1 : k1 < n1
          · obtain ⟨b, off, hx, _, hc⟩ := h1.at_ hkn1
            subst hx
            by_cases u1 : 1048576 < (z1 k1).size
            · go_wp2
              go_ret
              exact ⟨false, rfl, rfl, fun h => by cases h⟩
            · have u1' : (z1 k1).size ≤ 1048576 := by omega
              by_cases u2 : 1048576 < q1 + ((z1 k1).size : Int)
              · go_wp2
                go_ret
                exact ⟨false, rfl, rfl, fun h => by cases h⟩
              · have u2' : q1 + ((z1 k1).size : Int) ≤ 1048576 := by omega
                go_wp2
                go_round
                case rel => exact ⟨k1 + 1, _, by omega, by go_num, rfl, by omega, by omega⟩
                case measure => simp [intOf]; omega
          · have hke1 : ¬ k1 < n1 := hkn1
            go_wp2
            go_ret
            exact ⟨true, rfl, rfl, fun _ => by first | trivial | omega⟩

theorem bytes5 (A0 : Option Addr) (n0 c0 : Nat) (z0 : Nat → Bool) (A1 : Option Addr) (n1 c1 : Nat) (z1 : Nat → ByteArray) (a2 : ByteArray) (w : World) (h0 : Arr w A0 n0 c0 (fun i => .bool (z0 i))) (h1 : Arr w A1 n1 c1 (fun i => .string (z1 i))) (h2 : a2.size ≤ maxLen) :
    Calls Tryf.prog 25 #[.slice A0 n0 c0, .slice A1 n1 c1, .string a2] w (SomeB (n0 ≤ 1048576 ∧ n1 ≤ 1048576 ∧ a2.size ≤ 1048576) w) := by
  have m0 := h0.len
  unfold maxLen at m0
  have m1 := h1.len
  unfold maxLen at m1
  have m2 := h2
  unfold maxLen at m2
  by_cases b0 : 1048576 < n0
  · go_enter Tryf.func25, Tryf.ntmps25
    go_wp2
    go_ret
    exact ⟨false, rfl, rfl, fun h => by cases h⟩
  · have e0 : n0 ≤ 1048576 := by omega
    by_cases b1 : 1048576 < n1
    · go_enter Tryf.func25, Tryf.ntmps25
      go_wp2
      go_ret
      exact ⟨false, rfl, rfl, fun h => by cases h⟩
    · have e1 : n1 ≤ 1048576 := by omega
      by_cases d1 : 1048576 < (n0 : Int) + (n1 : Int)
      · go_enter Tryf.func25, Tryf.ntmps25
        go_wp2
        go_ret
        exact ⟨false, rfl, rfl, fun h => by cases h⟩
      · have g1 : (n0 : Int) + (n1 : Int) ≤ 1048576 := by omega
        go_enter Tryf.func25, Tryf.ntmps25
        go_wp2
        go_loop [7, 8] (fun t i => ∃ (k : Nat) (q : Int), k ≤ n1 ∧ i = .int .i64 k ∧ t = .int .i64 q ∧ 0 ≤ q ∧ q ≤ 1048576) (fun _ i => n1 - (intOf i).toNat)
        case atStart => exact ⟨0, _, Nat.zero_le _, rfl, rfl, by omega, by omega⟩
        case round =>
          obtain ⟨k1, q1, hk1, rfl, rfl, hq1, hr1⟩ := hrel
          by_cases hkn1 : k1 < n1
          · obtain ⟨b, off, hx, _, hc⟩ := h1.at_ hkn1
            subst hx
            by_cases u1 : 1048576 < (z1 k1).size
            · go_wp2
              go_ret
              exact ⟨false, rfl, rfl, fun h => by cases h⟩
            · have u1' : (z1 k1).size ≤ 1048576 := by omega
              by_cases u2 : 1048576 < q1 + ((z1 k1).size : Int)
              · go_wp2
                go_ret
                exact ⟨false, rfl, rfl, fun h => by cases h⟩
              · have u2' : q1 + ((z1 k1).size : Int) ≤ 1048576 := by omega
                go_wp2
                go_round
                case rel => exact ⟨k1 + 1, _, by omega, by go_num, rfl, by omega, by omega⟩
                case measure => simp [intOf]; omega
          · have hke1 : ¬ k1 < n1 := hkn1
            by_cases b2 : 1048576 < a2.size
            · go_wp2
              go_ret
              exact ⟨false, rfl, rfl, fun h => by cases h⟩
            · have e2 : a2.size ≤ 1048576 := by omega
              by_cases d2 : 1048576 < q1 + (a2.size : Int)
              · go_wp2
                go_ret
                exact ⟨false, rfl, rfl, fun h => by cases h⟩
              · have g2 : q1 + (a2.size : Int) ≤ 1048576 := by omega
                go_wp2
                go_ret
                exact ⟨true, rfl, rfl, fun _ => by first | trivial | omega⟩

theorem bytes6 (A0 : Option Addr) (n0 c0 : Nat) (z0 : Nat → Bool) (A1 : Option Addr) (n1 c1 : Nat) (z1 : Nat → ByteArray) (w : World) (h0 : Arr w A0 n0 c0 (fun i => .bool (z0 i))) (h1 : Arr w A1 n1 c1 (fun i => .string (z1 i))) :
    Calls Tryf.prog 27 #[.slice A0 n0 c0, .slice A1 n1 c1] w (SomeB (n0 ≤ 1048576 ∧ n1 ≤ 1048576) w) := by
  have m0 := h0.len
  unfold maxLen at m0
  have m1 := h1.len
  unfold maxLen at m1
  by_cases b0 : 1048576 < n0
  · go_enter Tryf.func27, Tryf.ntmps27
    go_wp2
    go_ret
    exact ⟨false, rfl, rfl, fun h => by cases h⟩
  · have e0 : n0 ≤ 1048576 := by omega
    by_cases b1 : 1048576 < n1
    · go_enter Tryf.func27, Tryf.ntmps27
      go_wp2
      go_ret
      exact ⟨false, rfl, rfl, fun h => by cases h⟩
    · have e1 : n1 ≤ 1048576 := by omega
      by_cases d1 : 1048576 < (n0 : Int) + (n1 : Int)
      · go_enter Tryf.func27, Tryf.ntmps27
        go_wp2
        go_ret
        exact ⟨false, rfl, rfl, fun h => by cases h⟩
      · have g1 : (n0 : Int) + (n1 : Int) ≤ 1048576 := by omega
        go_enter Tryf.func27, Tryf.ntmps27
        go_wp2
        go_loop [5, 6] (fun t i => ∃ (k : Nat) (q : Int), k ≤ n1 ∧ i = .int .i64 k ∧ t = .int .i64 q ∧ 0 ≤ q ∧ q ≤ 1048576) (fun _ i => n1 - (intOf i).toNat)
        case atStart => exact ⟨0, _, Nat.zero_le _, rfl, rfl, by omega, by omega⟩
        case round =>
          obtain ⟨k1, q1, hk1, rfl, rfl, hq1, hr1⟩ := hrel
          by_cases hkn1 : k1 < n1
          · obtain ⟨b, off, hx, _, hc⟩ := h1.at_ hkn1
            subst hx
            by_cases u1 : 1048576 < (z1 k1).size
            · go_wp2
              go_ret
              exact ⟨false, rfl, rfl, fun h => by cases h⟩
            · have u1' : (z1 k1).size ≤ 1048576 := by omega
              by_cases u2 : 1048576 < q1 + ((z1 k1).size : Int)
              · go_wp2
                go_ret
                exact ⟨false, rfl, rfl, fun h => by cases h⟩
              · have u2' : q1 + ((z1 k1).size : Int) ≤ 1048576 := by omega
                go_wp2
                go_round
                case rel => exact ⟨k1 + 1, _, by omega, by go_num, rfl, by omega, by omega⟩
                case measure => simp [intOf]; omega
          · have hke1 : ¬ k1 < n1 := hkn1
            go_wp2
            go_ret
            exact ⟨true, rfl, rfl, fun _ => by first | trivial | omega⟩

theorem bytes7 (A0 : Option Addr) (n0 c0 : Nat) (z0 : Nat → Bool) (A1 : Option Addr) (n1 c1 : Nat) (z1 : Nat → ByteArray) (w : World) (h0 : Arr w A0 n0 c0 (fun i => .bool (z0 i))) (h1 : Arr w A1 n1 c1 (fun i => .string (z1 i))) :
    Calls Tryf.prog 28 #[.slice A0 n0 c0, .slice A1 n1 c1] w (SomeB (n0 ≤ 1048576 ∧ n1 ≤ 1048576) w) := by
  have m0 := h0.len
  unfold maxLen at m0
  have m1 := h1.len
  unfold maxLen at m1
  by_cases b0 : 1048576 < n0
  · go_enter Tryf.func28, Tryf.ntmps28
    go_wp2
    go_ret
    exact ⟨false, rfl, rfl, fun h => by cases h⟩
  · have e0 : n0 ≤ 1048576 := by omega
    by_cases b1 : 1048576 < n1
    · go_enter Tryf.func28, Tryf.ntmps28
      go_wp2
      go_ret
      exact ⟨false, rfl, rfl, fun h => by cases h⟩
    · have e1 : n1 ≤ 1048576 := by omega
      by_cases d1 : 1048576 < (n0 : Int) + (n1 : Int)
      · go_enter Tryf.func28, Tryf.ntmps28
        go_wp2
        go_ret
        exact ⟨false, rfl, rfl, fun h => by cases h⟩
      · have g1 : (n0 : Int) + (n1 : Int) ≤ 1048576 := by omega
        go_enter Tryf.func28, Tryf.ntmps28
        go_wp2
        go_loop [5, 6] (fun t i => ∃ (k : Nat) (q : Int), k ≤ n1 ∧ i = .int .i64 k ∧ t = .int .i64 q ∧ 0 ≤ q ∧ q ≤ 1048576) (fun _ i => n1 - (intOf i).toNat)
        case atStart => exact ⟨0, _, Nat.zero_le _, rfl, rfl, by omega, by omega⟩
        case round =>
          obtain ⟨k1, q1, hk1, rfl, rfl, hq1, hr1⟩ := hrel
          by_cases hkn1 : k1 < n1
          · obtain ⟨b, off, hx, _, hc⟩ := h1.at_ hkn1
            subst hx
            by_cases u1 : 1048576 < (z1 k1).size
            · go_wp2
              go_ret
              exact ⟨false, rfl, rfl, fun h => by cases h⟩
            · have u1' : (z1 k1).size ≤ 1048576 := by omega
              by_cases u2 : 1048576 < q1 + ((z1 k1).size : Int)
              · go_wp2
                go_ret
                exact ⟨false, rfl, rfl, fun h => by cases h⟩
              · have u2' : q1 + ((z1 k1).size : Int) ≤ 1048576 := by omega
                go_wp2
                go_round
                case rel => exact ⟨k1 + 1, _, by omega, by go_num, rfl, by omega, by omega⟩
                case measure => simp [intOf]; omega
          · have hke1 : ¬ k1 < n1 := hkn1
            go_wp2
            go_ret
            exact ⟨true, rfl, rfl, fun _ => by first | trivial | omega⟩

/-- The name of step i. -/
def nmv (n : Nat) (z : Nat → ByteArray) (i : Nat) : ByteArray := if i < n then z i else ByteArray.empty
/-- The names registered by the first k steps. -/
def regN (o : Nat → Bool) (n : Nat) (z : Nat → ByteArray) : Nat → List ByteArray
  | 0 => []
  | k + 1 => if o k then regN o n z k else regN o n z k ++ [nmv n z k]
theorem regN_le {o : Nat → Bool} {n : Nat} {z : Nat → ByteArray} {k m : Nat} (h : k ≤ m) : (regN o n z k).length ≤ (regN o n z m).length := by
  induction m with
  | zero => rw [show k = 0 by omega]; exact Nat.le_refl _
  | succ m ih =>
    by_cases e : k = m + 1
    · rw [e]; exact Nat.le_refl _
    · have := ih (by omega)
      simp only [regN]
      split
      · exact this
      · simp; omega
theorem name21 (A : Option Addr) (n c : Nat) (z : Nat → ByteArray) (i : Nat) (w : World) (h : Arr w A n c (fun i => .string (z i))) (_hn : n ≤ 1048576) (_hi : i ≤ 1048576) :
    Calls Tryf.prog 21 #[.slice A n c, .int .i64 i] w fun e w' => e = .returned (.string (nmv n z i)) ∧ w = w' := by
  by_cases hin : i < n
  · obtain ⟨b, off, hx, _, hc⟩ := h.at_ hin
    subst hx
    have e : nmv n z i = z i := by simp [nmv, hin]
    rw [e]
    clear h e
    go_enter Tryf.func21, Tryf.ntmps21
    go_wp2
    go_ret
    exact ⟨rfl, rfl⟩
  · have e : nmv n z i = ByteArray.empty := by simp [nmv, hin]
    rw [e]
    clear h e
    go_enter Tryf.func21, Tryf.ntmps21
    go_wp2
    go_ret
    exact ⟨rfl, rfl⟩
theorem regs18 (A : Option Addr) (n c : Nat) (o : Nat → Bool) (n1 : Nat) (z1 : Nat → ByteArray) (w : World) (h : Arr w A n c (fun i => .bool (o i))) (hn : n ≤ 1048576) :
    Calls Tryf.prog 18 #[.slice A n c] w fun e w' => e = .returned (.int .i64 (regN o n1 z1 n).length) ∧ w = w' := by
  obtain ⟨R, hR⟩ : ∃ R, (regN o n1 z1 n).length = R := ⟨_, rfl⟩
  rw [hR]
  have HR := Lib.hid hR
  clear hR
  go_enter Tryf.func18, Tryf.ntmps18
  go_wp2
  go_loop [3, 4] (fun t i => ∃ k : Nat, k ≤ n ∧ i = .int .i64 k ∧ t = .int .i64 (regN o n1 z1 k).length ∧ (regN o n1 z1 k).length ≤ k) (fun _ i => n - (intOf i).toNat)
  case atStart => exact ⟨0, Nat.zero_le _, rfl, rfl, Nat.le_refl _⟩
  case round =>
    obtain ⟨k, hk, rfl, rfl, hl⟩ := hrel
    by_cases hkn : k < n
    · obtain ⟨b, off, hx, _, hc⟩ := h.at_ hkn
      subst hx
      have hs : regN o n1 z1 (k + 1) = if o k then regN o n1 z1 k else regN o n1 z1 k ++ [nmv n1 z1 k] := rfl
      cases hb : o k
      · rw [hb] at hc hs
        simp only [Bool.false_eq_true, if_false] at hs
        have HS : Hid ((regN o n1 z1 (k + 1)).length = (regN o n1 z1 k).length + 1) := Lib.hid (by rw [hs]; simp)
        clear hs hb
        obtain ⟨l, hle⟩ : ∃ l, (regN o n1 z1 k).length = l := ⟨_, rfl⟩
        rw [hle] at hl HS ⊢
        clear hle
        go_wp2
        go_round
        case rel => exact ⟨k + 1, by omega, by go_num, by rw [HS.out]; go_num, by rw [HS.out]; omega⟩
        case measure => simp [intOf]; omega
      · rw [hb] at hc hs
        simp only [if_true] at hs
        have HS : Hid ((regN o n1 z1 (k + 1)).length = (regN o n1 z1 k).length) := Lib.hid (by rw [hs])
        clear hs hb
        obtain ⟨l, hle⟩ : ∃ l, (regN o n1 z1 k).length = l := ⟨_, rfl⟩
        rw [hle] at hl HS ⊢
        clear hle
        go_wp2
        go_round
        case rel => exact ⟨k + 1, by omega, by go_num, by rw [HS.out], by rw [HS.out]; omega⟩
        case measure => simp [intOf]; omega
    · obtain rfl : k = n := by omega
      obtain ⟨l, hle⟩ : ∃ l, (regN o n1 z1 k).length = l := ⟨_, rfl⟩
      have e : l = R := by rw [← hle, HR.out]
      rw [hle, e]
      clear hle e
      go_wp2
      go_ret
      exact ⟨rfl, rfl⟩
end Go.Proofs.YtpffohonpblfkaaFmt
