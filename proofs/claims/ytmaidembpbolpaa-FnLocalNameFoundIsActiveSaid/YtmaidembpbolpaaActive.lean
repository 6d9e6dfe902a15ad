import Derived.Test.YtmaidembpbolpaaProg
import Derived.Test.YtmaidembpbolpaaHp
import Derived.Test.YtmaidembpbolpaaLnMath
import Derived.Test.YtmaidembpbolpaaOr
import Derived.Test.YtmaidembpbolpaaHelp
import Derived.Test.YtmaidembpbolpaaBuild
import Derived.Test.YtmaidembpbolpaaModel
import Derived.WalkKit
import Derived.WalkSpells
import Derived.WalkLawsBesides
import Derived.Lib.Hide
import Derived.Lib.Builder
import Derived.OpenShut
import Derived.Handy
import Derived.LaidEqlPtr
import Derived.Laws.EntriesVeiled
import Derived.Deep.QuietTactic
import Derived.BigQuiet
import Derived.RegionTactic
import Derived.BigRegion
import Derived.Deep.AppendLies
namespace Go.Proofs.Ytmaidembpbolpaa
open Go.RowKit Go.ChangeShapes Go.Deep
set_option maxHeartbeats 1000000 in
set_option maxRecDepth 100000 in
theorem law5 (A0 : Option Addr) (n0 c0 : Nat) (z0 : Nat → ByteArray) (A1 : Option Addr) (n1 c1 : Nat) (z1 : Nat → Int) (A2 : Option Addr) (n2 c2 : Nat) (z2 : Nat → Int) (r pc : Int) (w : World)
    (h0 : Arr w A0 n0 c0 (fun i => .string (z0 i))) (h1 : Arr w A1 n1 c1 (fun i => .int .i64 (z1 i))) (h2 : Arr w A2 n2 c2 (fun i => .int .i64 (z2 i))) (hr0 : -9223372036854775808 ≤ r) (hr1 : r ≤ 9223372036854775807) :
    Calls Try.prog 5 #[.slice A0 n0 c0, .slice A1 n1 c1, .slice A2 n2 c2, .int .i64 r, .int .i64 pc] w fun e w' => e = .returned (.bool true) ∧ Below w.heap.size w w' := by
  have m0 := h0.len
  have m1 := h1.len
  have m2 := h2.len
  unfold maxLen at m0 m1 m2
  go_enter Try.func5, Try.ntmps5
  go_wp2_with fail
  refine (bytes5 _ _ _ _ _ _ _ _ _ _ _ _ _ _ _ h0 h1 h2).mono ?_
  rintro e w' ⟨b, rfl, rfl, hb⟩
  cases b
  · go_wp2
    go_ret
    exact ⟨rfl, Below.refl _ _⟩
  obtain ⟨b0, b1, b2⟩ := hb rfl
  by_cases t0 : 65536 < n0
  · go_wp2
    go_ret
    exact ⟨rfl, Below.refl _ _⟩
  by_cases t1 : 65536 < n1
  · go_wp2
    go_ret
    exact ⟨rfl, Below.refl _ _⟩
  by_cases t2 : 65536 < n2
  · go_wp2
    go_ret
    exact ⟨rfl, Below.refl _ _⟩
  go_wp2_with fail
  refine (toobig _ _ _ z0 _ _ _ _ _ _ _ h0 (by omega) (by omega) (by omega)).mono ?_
  rintro e w' ⟨b, rfl, rfl, hb⟩
  cases b
  · obtain ⟨rfl, rfl⟩ := hb rfl
    clear hb
    go_wp2_with fail
    refine (clone_strs _ _ _ _ _ h0 (by omega)).mono ?_
    rintro e w1 ⟨B0, rfl, o0, k0⟩
    go_wp2_with fail
    refine (clone_ints _ _ _ _ _ (h1.below k0) (by omega)).mono ?_
    rintro e w2 ⟨B1, rfl, o1, k1⟩
    go_wp2_with fail
    refine (clone_ints _ _ _ _ _ ((h2.below k0).below k1) (by omega)).mono ?_
    rintro e w3 ⟨B2, rfl, o2, k2⟩
    have a0 := ((o0.arr (by unfold maxLen; omega)).below k1).below k2
    have a1 := (o1.arr (by unfold maxLen; omega)).below k2
    have a2 := o2.arr (by unfold maxLen; omega)
    go_wp2_with fail
    refine (build_ok _ _ _ _ _ _ _ _ _ _ _ a0 a1 a2 (by omega)).mono ?_
    rintro e w4 ⟨p, q, d, X, rfl, hfn, k3⟩
    have a0' := a0.below k3
    have a1' := a1.below k3
    have a2' := a2.below k3
    have K : Below w.heap.size w w4 := ((k0.trans (k1.mono k0.size)).trans (k2.mono (Nat.le_trans k0.size k1.size))).trans (k3.mono (Nat.le_trans (Nat.le_trans k0.size k1.size) k2.size))
    clear o0 o1 o2 a0 a1 a2 h0 h1 h2 k0 k1 k2 k3
    obtain ⟨R, hR0, hR1, hR2⟩ : ∃ R : Nat, R ≤ n2 ∧ (∀ i, i < R → z1 i < pc) ∧ (R < n2 → ¬ z1 R < pc) :=
      ⟨run (fun i => decide (z1 i < pc)) n2, run_le _ _, fun i hi => by simpa using run_lt (fun i => decide (z1 i < pc)) hi, fun h => by simpa using run_stop (fun i => decide (z1 i < pc)) h⟩
    go_wp2_with fail
    refine (localname hfn (by omega) r pc hr0 hr1 R hR0 hR1 (fun h => by have := hR2 h; omega)).mono ?_
    rintro e w' ⟨rfl, s, b, rfl, hans⟩
    have ANS := Lib.hid hans
    have HR1 := Lib.hid hR1
    have HR2 := Lib.hid hR2
    have KK := Lib.hid K
    clear hans hR1 hR2 K
    rcases ANS.out with ⟨rfl, i, hi, hpi, hri, rfl⟩ | ⟨rfl, rfl, hno⟩
    · have hci := cnt_le (fun i => decide (pc < z2 i)) i
      obtain ⟨N, hN⟩ : ∃ N, cnt (fun i => decide (pc < z2 i)) i = N := ⟨_, rfl⟩
      rw [hN] at hri hci
      have q1 : 1 ≤ r := by omega
      have q2 : r ≤ (n2 : Int) := by omega
      have hin : i < n2 := by omega
      have hprev : 2 ≤ r → ∃ i', i' < R ∧ pc < z2 i' ∧ r - 1 = (cnt (fun i => decide (pc < z2 i)) i' + 1 : Nat) := by
        intro h2
        have hj : N - 1 < (acts (fun i => decide (pc < z2 i)) i).length := by show _ < cnt _ _; omega
        obtain ⟨a, b, c⟩ := acts_lt (fun i => decide (pc < z2 i)) (List.getElem?_eq_getElem hj)
        exact ⟨(acts (fun i => decide (pc < z2 i)) i)[N - 1], by omega, by simpa using b, by rw [c]; omega⟩
      have HP := Lib.hid hprev
      have c12 := localname hfn (by omega) (r - 1) pc (by omega) (by omega) R hR0 HR1.out (fun h => by have := HR2.out h; omega)
      have C12 := Lib.hid c12
      have HRI := Lib.hid hri
      clear hprev c12 hri ANS hfn
      go_wp2
      go_loop [15] (fun v => ∃ j : Nat, j ≤ i ∧ v = .int .i64 j) (fun v => n2 - (intOf v).toNat)
      case atStart => exact ⟨0, Nat.zero_le _, rfl⟩
      case round =>
        obtain ⟨j, hj, rfl⟩ := hrel
        have hjn : j < n2 := by omega
        obtain ⟨b0, o0, e0, l0, d0⟩ := a0'.at_ hjn
        obtain ⟨b1, o1, e1, l1, d1⟩ := a1'.at_ hjn
        obtain ⟨b2, o2, e2, l2, d2⟩ := a2'.at_ hjn
        subst e0
        subst e1
        subst e2
        have t1 := HR1.out j (by omega)
        by_cases es : (z0 j).toList = (z0 i).toList
        · have eb : ((z0 j).toList == (z0 i).toList) = true := beq_iff_eq.2 es
          by_cases t2 : pc < z2 j
          · clear es a0' a1' a2' hpi
            by_cases h2 : 2 ≤ r
            · have q4 : wrap64 (r - 1) = r - 1 := by unfold wrap64; omega
              go_wp2_with fail
              refine C12.out.mono ?_
              rintro e w' ⟨rfl, s, b, rfl, hans⟩
              have hbt : b = true := by
                rcases hans with ⟨hb, _⟩ | ⟨_, _, hno⟩
                · exact hb
                · obtain ⟨i', h1, h2', h3⟩ := HP.out h2
                  exact absurd h3 (hno i' h1 h2')
              subst hbt
              clear hans
              go_wp2
              go_ret
              exact ⟨rfl, KK.out⟩
            · go_wp2
              go_ret
              exact ⟨rfl, KK.out⟩
          · have hji : j ≠ i := by rintro rfl; exact t2 hpi
            clear es a0' a1' a2'
            go_wp2
            go_round
            case rel => exact ⟨j + 1, by omega, by go_num⟩
            case measure => simp [intOf]; omega
        · have eb : ((z0 j).toList == (z0 i).toList) = false := beq_eq_false_iff_ne.2 es
          have hji : j ≠ i := by rintro rfl; exact es rfl
          clear es a0' a1' a2'
          go_wp2
          go_round
          case rel => exact ⟨j + 1, by omega, by go_num⟩
          case measure => simp [intOf]; omega
    · clear hno ANS a0' a1' a2' hfn
      go_wp2
      go_ret
      exact ⟨rfl, KK.out⟩
  · go_wp2
    go_ret
    exact ⟨rfl, Below.refl _ _⟩
end Go.Proofs.Ytmaidembpbolpaa
