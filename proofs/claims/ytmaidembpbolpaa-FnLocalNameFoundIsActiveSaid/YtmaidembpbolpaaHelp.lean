import Derived.Test.YtmaidembpbolpaaProg
import Derived.Test.YtmaidembpbolpaaHp
import Derived.Test.YtmaidembpbolpaaLnMath
import Derived.WalkKit
import Derived.WalkSpells
import Derived.WalkLawsBesides
import Derived.Lib.Hide
import Derived.Lib.Builder
import Derived.OpenShut
import Derived.Handy
import Derived.LaidEqlPtr
import Derived.Laws.EntriesVeiled
import Derived.Deep.QuietTactic
import Derived.BigQuiet
import Derived.RegionTactic
import Derived.BigRegion
import Derived.Deep.AppendLies
namespace Go.Proofs.Ytmaidembpbolpaa
open Go.RowKit Go.ChangeShapes Go.Deep
theorem clone_strs_info : (Try.prog.info? 9).map (fun i => (i.zero, i.size, i.bytes)) = some (some (.string ByteArray.empty), 1, 16) := by kernel_rfl
set_option maxHeartbeats 400000 in
theorem clone_strs (A : Option Addr) (n c : Nat) (z : Nat → ByteArray) (w : World) (ha : Arr w A n c (fun i => .string (z i))) (hn : n ≤ 1048576) :
    Calls Try.prog 9 #[.slice A n c] w fun e w' => ∃ A', e = .returned (.slice A' n n) ∧ Own w' w.heap.size 9 A' n (fun i => .string (z i)) ∧ Below w.heap.size w w' := by
  have hnil := fun w => Lib.run_eql_slice_nil (P := Try.prog) w 29 9 A n c 0 0 Try.underlying29
  rcases ha.some_ with ⟨rfl, rfl, rfl⟩ | ⟨x, rfl⟩
  · go_enter Try.func9, Try.ntmps9
    go_wp2
    go_ret
    exact ⟨none, rfl, .inl ⟨rfl, rfl⟩, Below.refl _ _⟩
  · have hmk := run_make_row' (P := Try.prog) 29 9 (.string ByteArray.empty) 16 Try.underlying29 clone_strs_info rfl .i64 .i64 n (by omega) (by omega)
    go_enter Try.func9, Try.ntmps9
    go_wp2
    go_loopw [4] (fun i wr => ∃ k : Nat, k ≤ n ∧ i = .int .i64 k ∧ wr.rowIs w.heap.size 9 n (fun j => .string (if j < k then z j else ByteArray.empty)) ∧ Below w.heap.size w wr) (fun i _ => n - (intOf i).toNat)
    case atStart => exact ⟨0, Nat.zero_le _, rfl, World.rowIs_made w _ n 9, by go_grown⟩
    case round =>
      obtain ⟨k, hk, rfl, hrow, hb⟩ := hrel
      by_cases hkn : k < n
      · obtain ⟨b, off, hx, hlt, hc⟩ := ha.at_ hkn
        injection hx with hx
        subst hx
        have c1 : wr.cell? ⟨b, off + k, none⟩ = some (.string (z k)) := (hb.cell (p := ⟨b, off + k, none⟩) hlt).trans hc
        have c2 := hrow.cell hkn
        simp only [Nat.lt_irrefl, if_false] at c2
        have c3 := hrow.frozen k
        have hrow' := (hrow.set k (.string (z k))).congr (g := fun j => .string (if j < k + 1 then z j else ByteArray.empty)) (fun i hi => by
          by_cases h1 : i = k
          · subst h1; simp
          · by_cases h2 : i < k
            · simp [h1, h2, show i < k + 1 by omega]
            · simp [h1, h2, show ¬ i < k + 1 by omega])
        have hb' := hb.setCell (p := ⟨w.heap.size, k, none⟩) (Nat.le_refl _) (.string (z k))
        have H1 := Lib.hid hrow'
        have H2 := Lib.hid hb'
        clear hrow' hb' hrow hb hc ha hnil hmk
        go_wp2
        go_roundw
        case rel => exact ⟨k + 1, by omega, by go_num, H1.out, H2.out⟩
        case measure => simp [intOf]; omega
      · have hkn' : k = n := by omega
        subst hkn'
        clear hnil hmk
        go_wp2
        go_ret
        exact ⟨_, rfl, .inr ⟨_, rfl, Nat.le_refl _, hrow.congr (fun i hi => by simp [hi])⟩, hb⟩

theorem clone_ints_info : (Try.prog.info? 3).map (fun i => (i.zero, i.size, i.bytes)) = some (some (.int .i64 0), 1, 8) := by kernel_rfl
set_option maxHeartbeats 400000 in
theorem clone_ints (A : Option Addr) (n c : Nat) (z : Nat → Int) (w : World) (ha : Arr w A n c (fun i => .int .i64 (z i))) (hn : n ≤ 1048576) :
    Calls Try.prog 10 #[.slice A n c] w fun e w' => ∃ A', e = .returned (.slice A' n n) ∧ Own w' w.heap.size 3 A' n (fun i => .int .i64 (z i)) ∧ Below w.heap.size w w' := by
  have hnil := fun w => Lib.run_eql_slice_nil (P := Try.prog) w 26 3 A n c 0 0 Try.underlying26
  rcases ha.some_ with ⟨rfl, rfl, rfl⟩ | ⟨x, rfl⟩
  · go_enter Try.func10, Try.ntmps10
    go_wp2
    go_ret
    exact ⟨none, rfl, .inl ⟨rfl, rfl⟩, Below.refl _ _⟩
  · have hmk := run_make_row' (P := Try.prog) 26 3 (.int .i64 0) 8 Try.underlying26 clone_ints_info rfl .i64 .i64 n (by omega) (by omega)
    go_enter Try.func10, Try.ntmps10
    go_wp2
    go_loopw [4] (fun i wr => ∃ k : Nat, k ≤ n ∧ i = .int .i64 k ∧ wr.rowIs w.heap.size 3 n (fun j => .int .i64 (if j < k then z j else 0)) ∧ Below w.heap.size w wr) (fun i _ => n - (intOf i).toNat)
    case atStart => exact ⟨0, Nat.zero_le _, rfl, World.rowIs_made w _ n 3, by go_grown⟩
    case round =>
      obtain ⟨k, hk, rfl, hrow, hb⟩ := hrel
      by_cases hkn : k < n
      · obtain ⟨b, off, hx, hlt, hc⟩ := ha.at_ hkn
        injection hx with hx
        subst hx
        have c1 : wr.cell? ⟨b, off + k, none⟩ = some (.int .i64 (z k)) := (hb.cell (p := ⟨b, off + k, none⟩) hlt).trans hc
        have c2 := hrow.cell hkn
        simp only [Nat.lt_irrefl, if_false] at c2
        have c3 := hrow.frozen k
        have hrow' := (hrow.set k (.int .i64 (z k))).congr (g := fun j => .int .i64 (if j < k + 1 then z j else 0)) (fun i hi => by
          by_cases h1 : i = k
          · subst h1; simp
          · by_cases h2 : i < k
            · simp [h1, h2, show i < k + 1 by omega]
            · simp [h1, h2, show ¬ i < k + 1 by omega])
        have hb' := hb.setCell (p := ⟨w.heap.size, k, none⟩) (Nat.le_refl _) (.int .i64 (z k))
        have H1 := Lib.hid hrow'
        have H2 := Lib.hid hb'
        clear hrow' hb' hrow hb hc ha hnil hmk
        go_wp2
        go_roundw
        case rel => exact ⟨k + 1, by omega, by go_num, H1.out, H2.out⟩
        case measure => simp [intOf]; omega
      · have hkn' : k = n := by omega
        subst hkn'
        clear hnil hmk
        go_wp2
        go_ret
        exact ⟨_, rfl, .inr ⟨_, rfl, Nat.le_refl _, hrow.congr (fun i hi => by simp [hi])⟩, hb⟩

theorem bytes4 (A0 : Option Addr) (n0 c0 : Nat) (z0 : Nat → ByteArray) (A1 : Option Addr) (n1 c1 : Nat) (z1 : Nat → Int) (A2 : Option Addr) (n2 c2 : Nat) (z2 : Nat → Int) (a3 : Int) (a4 : Int) (w : World) (h0 : Arr w A0 n0 c0 (fun i => .string (z0 i))) (h1 : Arr w A1 n1 c1 (fun i => .int .i64 (z1 i))) (h2 : Arr w A2 n2 c2 (fun i => .int .i64 (z2 i))) :
    Calls Try.prog 7 #[.slice A0 n0 c0, .slice A1 n1 c1, .slice A2 n2 c2, .int .i64 a3, .int .i64 a4] w (SomeB (n0 ≤ 1048576 ∧ n1 ≤ 1048576 ∧ n2 ≤ 1048576) w) := by
  have m0 := h0.len
  unfold maxLen at m0
  have m1 := h1.len
  unfold maxLen at m1
  have m2 := h2.len
  unfold maxLen at m2
  by_cases b0 : 1048576 < n0
  · go_enter Try.func7, Try.ntmps7
    go_wp2
    go_ret
    exact ⟨false, rfl, rfl, fun h => by cases h⟩
  · have e0 : n0 ≤ 1048576 := by omega
    go_enter Try.func7, Try.ntmps7
    go_wp2
    go_loop [11, 12] (fun t i => ∃ (k : Nat) (q : Int), k ≤ n0 ∧ i = .int .i64 k ∧ t = .int .i64 q ∧ 0 ≤ q ∧ q ≤ 1048576) (fun _ i => n0 - (intOf i).toNat)
    case atStart => exact ⟨0, _, Nat.zero_le _, rfl, rfl, by omega, by omega⟩
    case round =>
      obtain ⟨k0, q0, hk0, rfl, rfl, hq0, hr0⟩ := hrel
      by_cases hkn0 : k0 < n0
      · obtain ⟨b, off, hx, _, hc⟩ := h0.at_ hkn0
        subst hx
        by_cases u1 : 1048576 < (z0 k0).size
        · go_wp2
          go_ret
          exact ⟨false, rfl, rfl, fun h => by cases h⟩
        · have u1' : (z0 k0).size ≤ 1048576 := by omega
          by_cases u2 : 1048576 < q0 + ((z0 k0).size : Int)
          · go_wp2
            go_ret
            exact ⟨false, rfl, rfl, fun h => by cases h⟩
          · have u2' : q0 + ((z0 k0).size : Int) ≤ 1048576 := by omega
            go_wp2
            go_round
            case rel => exact ⟨k0 + 1, _, by omega, by go_num, rfl, by omega, by omega⟩
            case measure => simp [intOf]; omega
      · have hke0 : ¬ k0 < n0 := hkn0
        by_cases b1 : 1048576 < n1
        · go_wp2
          go_ret
          exact ⟨false, rfl, rfl, fun h => by cases h⟩
        · have e1 : n1 ≤ 1048576 := by omega
          by_cases d1 : 1048576 < q0 + (n1 : Int)
          · go_wp2
            go_ret
            exact ⟨false, rfl, rfl, fun h => by cases h⟩
          · have g1 : q0 + (n1 : Int) ≤ 1048576 := by omega
            by_cases b2 : 1048576 < n2
            · go_wp2
              go_ret
              exact ⟨false, rfl, rfl, fun h => by cases h⟩
            · have e2 : n2 ≤ 1048576 := by omega
              by_cases d2 : 1048576 < q0 + (n1 : Int) + (n2 : Int)
              · go_wp2
                go_ret
                exact ⟨false, rfl, rfl, fun h => by cases h⟩
              · have g2 : q0 + (n1 : Int) + (n2 : Int) ≤ 1048576 := by omega
                go_wp2
                go_ret
                exact ⟨true, rfl, rfl, fun _ => by first | trivial | omega⟩

theorem bytes5 (A0 : Option Addr) (n0 c0 : Nat) (z0 : Nat → ByteArray) (A1 : Option Addr) (n1 c1 : Nat) (z1 : Nat → Int) (A2 : Option Addr) (n2 c2 : Nat) (z2 : Nat → Int) (a3 : Int) (a4 : Int) (w : World) (h0 : Arr w A0 n0 c0 (fun i => .string (z0 i))) (h1 : Arr w A1 n1 c1 (fun i => .int .i64 (z1 i))) (h2 : Arr w A2 n2 c2 (fun i => .int .i64 (z2 i))) :
    Calls Try.prog 13 #[.slice A0 n0 c0, .slice A1 n1 c1, .slice A2 n2 c2, .int .i64 a3, .int .i64 a4] w (SomeB (n0 ≤ 1048576 ∧ n1 ≤ 1048576 ∧ n2 ≤ 1048576) w) := by
  have m0 := h0.len
  unfold maxLen at m0
  have m1 := h1.len
  unfold maxLen at m1
  have m2 := h2.len
  unfold maxLen at m2
  by_cases b0 : 1048576 < n0
  · go_enter Try.func13, Try.ntmps13
    go_wp2
    go_ret
    exact ⟨false, rfl, rfl, fun h => by cases h⟩
  · have e0 : n0 ≤ 1048576 := by omega
    go_enter Try.func13, Try.ntmps13
    go_wp2
    go_loop [11, 12] (fun t i => ∃ (k : Nat) (q : Int), k ≤ n0 ∧ i = .int .i64 k ∧ t = .int .i64 q ∧ 0 ≤ q ∧ q ≤ 1048576) (fun _ i => n0 - (intOf i).toNat)
    case atStart => exact ⟨0, _, Nat.zero_le _, rfl, rfl, by omega, by omega⟩
    case round =>
      obtain ⟨k0, q0, hk0, rfl, rfl, hq0, hr0⟩ := hrel
      by_cases hkn0 : k0 < n0
      · obtain ⟨b, off, hx, _, hc⟩ := h0.at_ hkn0
        subst hx
        by_cases u1 : 1048576 < (z0 k0).size
        · go_wp2
          go_ret
          exact ⟨false, rfl, rfl, fun h => by cases h⟩
        · have u1' : (z0 k0).size ≤ 1048576 := by omega
          by_cases u2 : 1048576 < q0 + ((z0 k0).size : Int)
          · go_wp2
            go_ret
            exact ⟨false, rfl, rfl, fun h => by cases h⟩
          · have u2' : q0 + ((z0 k0).size : Int) ≤ 1048576 := by omega
            go_wp2
            go_round
            case rel => exact ⟨k0 + 1, _, by omega, by go_num, rfl, by omega, by omega⟩
            case measure => simp [intOf]; omega
      · have hke0 : ¬ k0 < n0 := hkn0
        by_cases b1 : 1048576 < n1
        · go_wp2
          go_ret
          exact ⟨false, rfl, rfl, fun h => by cases h⟩
        · have e1 : n1 ≤ 1048576 := by omega
          by_cases d1 : 1048576 < q0 + (n1 : Int)
          · go_wp2
            go_ret
            exact ⟨false, rfl, rfl, fun h => by cases h⟩
          · have g1 : q0 + (n1 : Int) ≤ 1048576 := by omega
            by_cases b2 : 1048576 < n2
            · go_wp2
              go_ret
              exact ⟨false, rfl, rfl, fun h => by cases h⟩
            · have e2 : n2 ≤ 1048576 := by omega
              by_cases d2 : 1048576 < q0 + (n1 : Int) + (n2 : Int)
              · go_wp2
                go_ret
                exact ⟨false, rfl, rfl, fun h => by cases h⟩
              · have g2 : q0 + (n1 : Int) + (n2 : Int) ≤ 1048576 := by omega
                go_wp2
                go_ret
                exact ⟨true, rfl, rfl, fun _ => by first | trivial | omega⟩

def NotB (P : Prop) (w : World) (e : Ending) (w' : World) : Prop := ∃ b : Bool, e = .returned (.bool b) ∧ w = w' ∧ (b = false → P)
theorem toobig (A0 : Option Addr) (n0 c0 : Nat) (z0 : Nat → ByteArray) (A1 : Option Addr) (n1 c1 : Nat) (A2 : Option Addr) (n2 c2 : Nat) (w : World) (h0 : Arr w A0 n0 c0 (fun i => .string (z0 i))) (m1 : n1 ≤ 65536) (m2 : n2 ≤ 65536) (m0 : n0 ≤ 65536) :
    Calls Try.prog 8 #[.slice A0 n0 c0, .slice A1 n1 c1, .slice A2 n2 c2] w (NotB (n1 = n0 ∧ n2 = n0) w) := by
  go_enter Try.func8, Try.ntmps8
  go_wp2
  go_loop [7, 8] (fun t i => ∃ (k : Nat) (q : Int), k ≤ n0 ∧ i = .int .i64 k ∧ t = .int .i64 q) (fun _ i => n0 - (intOf i).toNat)
  case atStart => exact ⟨0, _, Nat.zero_le _, rfl, rfl⟩
  case round =>
    obtain ⟨k, q, hk, rfl, rfl⟩ := hrel
    by_cases hkn : k < n0
    · obtain ⟨b, off, hx, _, hc⟩ := h0.at_ hkn
      subst hx
      by_cases u2 : 1048576 < wrap64 (q + ((z0 k).size : Int))
      · go_wp2
        go_ret
        exact ⟨true, rfl, rfl, fun h => by cases h⟩
      · go_wp2
        go_round
        case rel => exact ⟨k + 1, _, by omega, by go_num, rfl⟩
        case measure => simp [intOf]; omega
    · by_cases u : 1048576 < q
      · go_wp2
        go_ret
        exact ⟨true, rfl, rfl, fun h => by cases h⟩
      · by_cases v1 : n1 = n0
        · by_cases v2 : n2 = n0
          · go_wp2
            go_ret
            exact ⟨_, rfl, rfl, fun _ => by first | exact ⟨v1, v2⟩ | trivial⟩
          · have v2' : ((n2 : Int) == (n0 : Int)) = false := beq_eq_false_iff_ne.2 (by omega)
            have v2'' : ((n2 : Int) != (n0 : Int)) = true := by simp [bne, v2']
            go_wp2
            go_ret
            exact ⟨true, rfl, rfl, fun h => by cases h⟩
        · have v2' : ((n1 : Int) == (n0 : Int)) = false := beq_eq_false_iff_ne.2 (by omega)
          have v2'' : ((n1 : Int) != (n0 : Int)) = true := by simp [bne, v2']
          go_wp2
          go_ret
          exact ⟨true, rfl, rfl, fun h => by cases h⟩
end Go.Proofs.Ytmaidembpbolpaa
