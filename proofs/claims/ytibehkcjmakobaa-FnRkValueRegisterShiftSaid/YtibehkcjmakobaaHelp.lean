import Derived.Test.YtibehkcjmakobaaProg
import Derived.Test.YtibehkcjmakobaaHp
import Derived.WalkKit
import Derived.WalkSpells
import Derived.WalkLawsBesides
import Derived.Lib.Hide
import Derived.Lib.Builder
import Derived.OpenShut
import Derived.Handy
import Derived.LaidEqlPtr
import Derived.Laws.EntriesVeiled
import Derived.Deep.QuietTactic
import Derived.BigQuiet
import Derived.RegionTactic
import Derived.BigRegion
import Derived.Deep.AppendLies
namespace Go.Proofs.Ytibehkcjmakobaa
open Go.RowKit Go.ChangeShapes Go.Deep
theorem clone_strs_info : (Try.prog.info? 9).map (fun i => (i.zero, i.size, i.bytes)) = some (some (.string ByteArray.empty), 1, 16) := by kernel_rfl
set_option maxHeartbeats 400000 in
theorem clone_strs (A : Option Addr) (n c : Nat) (z : Nat → ByteArray) (w : World) (ha : Arr w A n c (fun i => .string (z i))) (hn : n ≤ 1048576) :
    Calls Try.prog 16 #[.slice A n c] w fun e w' => ∃ A', e = .returned (.slice A' n n) ∧ Own w' w.heap.size 9 A' n (fun i => .string (z i)) ∧ Below w.heap.size w w' := by
  have hnil := fun w => Lib.run_eql_slice_nil (P := Try.prog) w 60 9 A n c 0 0 Try.underlying60
  rcases ha.some_ with ⟨rfl, rfl, rfl⟩ | ⟨x, rfl⟩
  · go_enter Try.func16, Try.ntmps16
    go_wp2
    go_ret
    exact ⟨none, rfl, .inl ⟨rfl, rfl⟩, Below.refl _ _⟩
  · have hmk := run_make_row' (P := Try.prog) 60 9 (.string ByteArray.empty) 16 Try.underlying60 clone_strs_info rfl .i64 .i64 n (by omega) (by omega)
    go_enter Try.func16, Try.ntmps16
    go_wp2
    go_loopw [4] (fun i wr => ∃ k : Nat, k ≤ n ∧ i = .int .i64 k ∧ wr.rowIs w.heap.size 9 n (fun j => .string (if j < k then z j else ByteArray.empty)) ∧ Below w.heap.size w wr) (fun i _ => n - (intOf i).toNat)
    case atStart => exact ⟨0, Nat.zero_le _, rfl, World.rowIs_made w _ n 9, by go_grown⟩
    case round =>
      obtain ⟨k, hk, rfl, hrow, hb⟩ := hrel
      by_cases hkn : k < n
      · obtain ⟨b, off, hx, hlt, hc⟩ := ha.at_ hkn
        injection hx with hx
        subst hx
        have c1 : wr.cell? ⟨b, off + k, none⟩ = some (.string (z k)) := (hb.cell (p := ⟨b, off + k, none⟩) hlt).trans hc
        have c2 := hrow.cell hkn
        simp only [Nat.lt_irrefl, if_false] at c2
        have c3 := hrow.frozen k
        have hrow' := (hrow.set k (.string (z k))).congr (g := fun j => .string (if j < k + 1 then z j else ByteArray.empty)) (fun i hi => by
          by_cases h1 : i = k
          · subst h1; simp
          · by_cases h2 : i < k
            · simp [h1, h2, show i < k + 1 by omega]
            · simp [h1, h2, show ¬ i < k + 1 by omega])
        have hb' := hb.setCell (p := ⟨w.heap.size, k, none⟩) (Nat.le_refl _) (.string (z k))
        have H1 := Lib.hid hrow'
        have H2 := Lib.hid hb'
        clear hrow' hb' hrow hb hc ha hnil hmk
        go_wp2
        go_roundw
        case rel => exact ⟨k + 1, by omega, by go_num, H1.out, H2.out⟩
        case measure => simp [intOf]; omega
      · have hkn' : k = n := by omega
        subst hkn'
        clear hnil hmk
        go_wp2
        go_ret
        exact ⟨_, rfl, .inr ⟨_, rfl, Nat.le_refl _, hrow.congr (fun i hi => by simp [hi])⟩, hb⟩

theorem bytes4 (a0 : Int) (a1 : Int) (A2 : Option Addr) (n2 c2 : Nat) (z2 : Nat → Nat) (a3 : Int) (w : World) (h2 : Arr w A2 n2 c2 (fun i => .float .f64 (z2 i))) :
    Calls Try.prog 9 #[.int .i64 a0, .int .i64 a1, .slice A2 n2 c2, .int .i64 a3] w (SomeB (n2 ≤ 1048576) w) := by
  have m2 := h2.len
  unfold maxLen at m2
  by_cases b2 : 1048576 < n2
  · go_enter Try.func9, Try.ntmps9
    go_wp2
    go_ret
    exact ⟨false, rfl, rfl, fun h => by cases h⟩
  · have e2 : n2 ≤ 1048576 := by omega
    go_enter Try.func9, Try.ntmps9
    go_wp2
    go_ret
    exact ⟨true, rfl, rfl, fun _ => by first | trivial | omega⟩

theorem bytes5 (a0 : Int) (A1 : Option Addr) (n1 c1 : Nat) (z1 : Nat → ByteArray) (A2 : Option Addr) (n2 c2 : Nat) (z2 : Nat → ByteArray) (a3 : Int) (w : World) (h1 : Arr w A1 n1 c1 (fun i => .string (z1 i))) (h2 : Arr w A2 n2 c2 (fun i => .string (z2 i))) :
    Calls Try.prog 14 #[.int .i64 a0, .slice A1 n1 c1, .slice A2 n2 c2, .int .i64 a3] w (SomeB (n1 ≤ 1048576 ∧ n2 ≤ 1048576) w) := by
  have m1 := h1.len
  unfold maxLen at m1
  have m2 := h2.len
  unfold maxLen at m2
  by_cases b1 : 1048576 < n1
  · go_enter Try.func14, Try.ntmps14
    go_wp2
    go_ret
    exact ⟨false, rfl, rfl, fun h => by cases h⟩
  · have e1 : n1 ≤ 1048576 := by omega
    go_enter Try.func14, Try.ntmps14
    go_wp2
    go_loop [9, 10] (fun t i => ∃ (k : Nat) (q : Int), k ≤ n1 ∧ i = .int .i64 k ∧ t = .int .i64 q ∧ 0 ≤ q ∧ q ≤ 1048576) (fun _ i => n1 - (intOf i).toNat)
    case atStart => exact ⟨0, _, Nat.zero_le _, rfl, rfl, by omega, by omega⟩
    case round =>
      obtain ⟨k1, q1, hk1, rfl, rfl, hq1, hr1⟩ := hrel
      by_cases hkn1 : k1 < n1
      · obtain ⟨b, off, hx, _, hc⟩ := h1.at_ hkn1
        subst hx
        by_cases u1 : 1048576 < (z1 k1).size
        · go_wp2
          go_ret
          exact ⟨false, rfl, rfl, fun h => by cases h⟩
        · have u1' : (z1 k1).size ≤ 1048576 := by omega
          by_cases u2 : 1048576 < q1 + ((z1 k1).size : Int)
          · go_wp2
            go_ret
            exact ⟨false, rfl, rfl, fun h => by cases h⟩
          · have u2' : q1 + ((z1 k1).size : Int) ≤ 1048576 := by omega
            go_wp2
            go_round
            case rel => exact ⟨k1 + 1, _, by omega, by go_num, rfl, by omega, by omega⟩
            case measure => simp [intOf]; omega
      · have hke1 : ¬ k1 < n1 := hkn1
        by_cases b2 : 1048576 < n2
        · go_wp2
          go_ret
          exact ⟨false, rfl, rfl, fun h => by cases h⟩
        · have e2 : n2 ≤ 1048576 := by omega
          by_cases d2 : 1048576 < q1 + (n2 : Int)
          · go_wp2
            go_ret
            exact ⟨false, rfl, rfl, fun h => by cases h⟩
          · have g2 : q1 + (n2 : Int) ≤ 1048576 := by omega
            go_wp2
            go_loop [9, 11] (fun t i => ∃ (k : Nat) (q : Int), k ≤ n2 ∧ i = .int .i64 k ∧ t = .int .i64 q ∧ 0 ≤ q ∧ q ≤ 1048576) (fun _ i => n2 - (intOf i).toNat)
            case atStart => exact ⟨0, _, Nat.zero_le _, rfl, rfl, by omega, by omega⟩
            case round =>
              obtain ⟨k2, q2, hk2, rfl, rfl, hq2, hr2⟩ := hrel
              by_cases hkn2 : k2 < n2
              · obtain ⟨b, off, hx, _, hc⟩ := h2.at_ hkn2
                subst hx
                by_cases u1 : 1048576 < (z2 k2).size
                · go_wp2
                  go_ret
                  exact ⟨false, rfl, rfl, fun h => by cases h⟩
                · have u1' : (z2 k2).size ≤ 1048576 := by omega
                  by_cases u2 : 1048576 < q2 + ((z2 k2).size : Int)
                  · go_wp2
                    go_ret
                    exact ⟨false, rfl, rfl, fun h => by cases h⟩
                  · have u2' : q2 + ((z2 k2).size : Int) ≤ 1048576 := by omega
                    go_wp2
                    go_round
                    case rel => exact ⟨k2 + 1, _, by omega, by go_num, rfl, by omega, by omega⟩
                    case measure => simp [intOf]; omega
              · have hke2 : ¬ k2 < n2 := hkn2
                go_wp2
                go_ret
                exact ⟨true, rfl, rfl, fun _ => by first | trivial | omega⟩

theorem str_bytes (A : Option Addr) (n c : Nat) (z : Nat → ByteArray) (w : World) (ha : Arr w A n c (fun i => .string (z i))) (hn : n ≤ 1048576) :
    Calls Try.prog 15 #[.slice A n c] w (SomeI w) := by
  go_enter Try.func15, Try.ntmps15
  go_wp2
  go_loop [3, 4] (fun t i => ∃ (k : Nat) (q : Int), k ≤ n ∧ i = .int .i64 k ∧ t = .int .i64 q) (fun _ i => n - (intOf i).toNat)
  case atStart => exact ⟨0, _, Nat.zero_le _, rfl, rfl⟩
  case round =>
    obtain ⟨k, q, hk, rfl, rfl⟩ := hrel
    by_cases hkn : k < n
    · obtain ⟨b, off, hx, _, hc⟩ := ha.at_ hkn
      subst hx
      go_wp2
      go_round
      case rel => exact ⟨k + 1, _, by omega, by go_num, rfl⟩
      case measure => simp [intOf]; omega
    · go_wp2
      go_ret
      exact ⟨_, rfl, rfl⟩

theorem info24 : (Try.prog.info? 24).map (fun i => (i.zero, i.size, i.bytes)) = some (some (.nilIface), 1, 16) := by kernel_rfl
theorem num_vals (A : Option Addr) (n c : Nat) (z : Nat → Nat) (w : World) (ha : Arr w A n c (fun i => .float .f64 (z i))) (hn : n ≤ 1048576) :
    Calls Try.prog 10 #[.slice A n c] w fun e w' => ∃ A', e = .returned (.slice A' n n) ∧ Own w' w.heap.size 24 A' n (fun i => .iface 78 (.float .f64 (z i))) ∧ Below w.heap.size w w' := by
  have hnil := fun w => Lib.run_eql_slice_nil (P := Try.prog) w 52 56 A n c 0 0 Try.underlying52
  rcases ha.some_ with ⟨rfl, rfl, rfl⟩ | ⟨x, rfl⟩
  · go_enter Try.func10, Try.ntmps10
    go_wp2
    go_ret
    exact ⟨none, rfl, .inl ⟨rfl, rfl⟩, Below.refl _ _⟩
  · have hmk := run_make_row' (P := Try.prog) 25 24 (.nilIface) 16 Try.underlying25 info24 rfl .i64 .i64 n (by omega) (by omega)
    go_enter Try.func10, Try.ntmps10
    go_wp2
    go_loopw [4] (fun i wr => ∃ k : Nat, k ≤ n ∧ i = .int .i64 k ∧ wr.rowIs w.heap.size 24 n (fun j => if j < k then .iface 78 (.float .f64 (z j)) else .nilIface) ∧ Below w.heap.size w wr) (fun i _ => n - (intOf i).toNat)
    case atStart => exact ⟨0, Nat.zero_le _, rfl, World.rowIs_made w _ n 24, by go_grown⟩
    case round =>
      obtain ⟨k, hk, rfl, hrow, hb⟩ := hrel
      by_cases hkn : k < n
      · obtain ⟨b, off, hx, hlt, hc⟩ := ha.at_ hkn
        injection hx with hx
        subst hx
        have c1 : wr.cell? ⟨b, off + k, none⟩ = some (.float .f64 (z k)) := (hb.cell (p := ⟨b, off + k, none⟩) hlt).trans hc
        have c2 := hrow.cell hkn
        simp only [Nat.lt_irrefl, if_false] at c2
        have c3 := hrow.frozen k
        have hrow' := (hrow.set k (.iface 78 (.float .f64 (z k)))).congr (g := fun j => if j < k + 1 then .iface 78 (.float .f64 (z j)) else .nilIface) (fun i hi => by
          by_cases h1 : i = k
          · subst h1; simp
          · by_cases h2 : i < k
            · simp [h1, h2, show i < k + 1 by omega]
            · simp [h1, h2, show ¬ i < k + 1 by omega])
        have hb' := hb.setCell (p := ⟨w.heap.size, k, none⟩) (Nat.le_refl _) (.iface 78 (.float .f64 (z k)))
        have H1 := Lib.hid hrow'
        have H2 := Lib.hid hb'
        clear hrow' hb' hrow hb hc ha hnil hmk
        go_wp2
        go_roundw
        case rel => exact ⟨k + 1, by omega, by go_num, H1.out, H2.out⟩
        case measure => simp [intOf]; omega
      · have hkn' : k = n := by omega
        subst hkn'
        clear hnil hmk
        go_wp2
        go_ret
        exact ⟨_, rfl, .inr ⟨_, rfl, Nat.le_refl _, hrow.congr (fun i hi => by simp [hi])⟩, hb⟩
theorem str_vals (A : Option Addr) (n c : Nat) (z : Nat → ByteArray) (w : World) (ha : Arr w A n c (fun i => .string (z i))) (hn : n ≤ 1048576) :
    Calls Try.prog 17 #[.slice A n c] w fun e w' => ∃ A', e = .returned (.slice A' n n) ∧ Own w' w.heap.size 24 A' n (fun i => .iface 92 (.string (z i))) ∧ Below w.heap.size w w' := by
  have hnil := fun w => Lib.run_eql_slice_nil (P := Try.prog) w 60 9 A n c 0 0 Try.underlying60
  rcases ha.some_ with ⟨rfl, rfl, rfl⟩ | ⟨x, rfl⟩
  · go_enter Try.func17, Try.ntmps17
    go_wp2
    go_ret
    exact ⟨none, rfl, .inl ⟨rfl, rfl⟩, Below.refl _ _⟩
  · have hmk := run_make_row' (P := Try.prog) 25 24 (.nilIface) 16 Try.underlying25 info24 rfl .i64 .i64 n (by omega) (by omega)
    go_enter Try.func17, Try.ntmps17
    go_wp2
    go_loopw [4] (fun i wr => ∃ k : Nat, k ≤ n ∧ i = .int .i64 k ∧ wr.rowIs w.heap.size 24 n (fun j => if j < k then .iface 92 (.string (z j)) else .nilIface) ∧ Below w.heap.size w wr) (fun i _ => n - (intOf i).toNat)
    case atStart => exact ⟨0, Nat.zero_le _, rfl, World.rowIs_made w _ n 24, by go_grown⟩
    case round =>
      obtain ⟨k, hk, rfl, hrow, hb⟩ := hrel
      by_cases hkn : k < n
      · obtain ⟨b, off, hx, hlt, hc⟩ := ha.at_ hkn
        injection hx with hx
        subst hx
        have c1 : wr.cell? ⟨b, off + k, none⟩ = some (.string (z k)) := (hb.cell (p := ⟨b, off + k, none⟩) hlt).trans hc
        have c2 := hrow.cell hkn
        simp only [Nat.lt_irrefl, if_false] at c2
        have c3 := hrow.frozen k
        have hrow' := (hrow.set k (.iface 92 (.string (z k)))).congr (g := fun j => if j < k + 1 then .iface 92 (.string (z j)) else .nilIface) (fun i hi => by
          by_cases h1 : i = k
          · subst h1; simp
          · by_cases h2 : i < k
            · simp [h1, h2, show i < k + 1 by omega]
            · simp [h1, h2, show ¬ i < k + 1 by omega])
        have hb' := hb.setCell (p := ⟨w.heap.size, k, none⟩) (Nat.le_refl _) (.iface 92 (.string (z k)))
        have H1 := Lib.hid hrow'
        have H2 := Lib.hid hb'
        clear hrow' hb' hrow hb hc ha hnil hmk
        go_wp2
        go_roundw
        case rel => exact ⟨k + 1, by omega, by go_num, H1.out, H2.out⟩
        case measure => simp [intOf]; omega
      · have hkn' : k = n := by omega
        subst hkn'
        clear hnil hmk
        go_wp2
        go_ret
        exact ⟨_, rfl, .inr ⟨_, rfl, Nat.le_refl _, hrow.congr (fun i hi => by simp [hi])⟩, hb⟩
end Go.Proofs.Ytibehkcjmakobaa
