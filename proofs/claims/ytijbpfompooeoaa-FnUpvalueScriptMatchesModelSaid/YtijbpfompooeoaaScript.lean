import Derived.Test.YtijbpfompooeoaaProg
import Derived.Test.YtijbpfompooeoaaHp
import Derived.Test.YtijbpfompooeoaaOr
import Derived.Test.YtijbpfompooeoaaUv
import Derived.Test.YtijbpfompooeoaaHelp
import Derived.Test.YtijbpfompooeoaaState
import Derived.Test.YtijbpfompooeoaaTwo
import Derived.WalkKit
import Derived.WalkSpells
import Derived.WalkLawsBesides
import Derived.Lib.Hide
import Derived.Lib.Builder
import Derived.OpenShut
import Derived.Handy
import Derived.LaidEqlPtr
import Derived.Laws.EntriesVeiled
import Derived.Deep.QuietTactic
import Derived.BigQuiet
import Derived.RegionTactic
import Derived.BigRegion
import Derived.Deep.AppendLies
namespace Go.Proofs.Ytijbpfompooeoaa
open Go.RowKit Go.ChangeShapes Go.Deep
def Rel3 (w0 : World) (a b r g d n i j n3 : Nat) (va vb vc vd vt : Value) (w : World) : Prop :=
  ∃ (T : Nat) (M : Nat → ByteArray) (ao bo : ByteArray) (ac bc : Bool), T ≤ n3 ∧ vt = .int .i64 T ∧ va = .bool ac ∧ vb = .bool bc ∧ vc = .string ao ∧ vd = .string bo ∧ S2 w0 w a b r g d n i j M M ao ac bo bc
set_option maxHeartbeats 4000000 in
set_option maxRecDepth 100000 in
theorem law3 (A : Option Addr) (n c : Nat) (z : Nat → ByteArray) (ia ib : Int) (A3 : Option Addr) (n3 c3 : Nat) (ops : Nat → Int) (A4 : Option Addr) (n4 c4 : Nat) (vals : Nat → ByteArray) (w : World)
    (h : Arr w A n c (fun i => .string (z i))) (h3 : Arr w A3 n3 c3 (fun i => .int .u8 (ops i))) (h4 : Arr w A4 n4 c4 (fun i => .string (vals i))) (hop : ∀ t, t < n3 → 0 ≤ ops t ∧ ops t ≤ 255) :
    Calls Try.prog 3 #[.slice A n c, .int .i64 ia, .int .i64 ib, .slice A3 n3 c3, .slice A4 n4 c4] w fun e w' => e = .returned (.bool true) ∧ Below w.heap.size w w' := by
  have m0 := h.len
  have m3 := h3.len
  have m4 := h4.len
  unfold maxLen at m0 m3 m4
  have HOP := Lib.hid hop
  clear hop
  go_enter Try.func3, Try.ntmps3
  go_wp2_with fail
  refine (bytes3 _ _ _ _ _ _ _ _ _ _ _ _ _ _ _ h h3 h4).mono ?_
  rintro e w' ⟨b, rfl, rfl, hb⟩
  cases b
  · go_wp2
    go_ret
    exact ⟨rfl, Below.refl _ _⟩
  obtain ⟨b1, b2, b3⟩ := hb rfl
  clear hb
  by_cases t1 : 65536 < n
  · go_wp2
    go_ret
    exact ⟨rfl, Below.refl _ _⟩
  by_cases t2 : 65536 < n4
  · go_wp2
    go_ret
    exact ⟨rfl, Below.refl _ _⟩
  by_cases t3 : 65536 < n3
  · go_wp2
    go_ret
    exact ⟨rfl, Below.refl _ _⟩
  go_wp2_with fail
  refine (str_bytes _ _ _ _ _ h (by omega)).mono ?_
  rintro e w' ⟨q, rfl, rfl, q0, q1, hq⟩
  clear hq
  go_wp2_with fail
  refine (str_bytes _ _ _ _ _ h4 (by omega)).mono ?_
  rintro e w' ⟨p, rfl, rfl, p0, p1, hq⟩
  clear hq
  by_cases t5 : 1048576 < q + p + (n3 : Int)
  · go_wp2
    go_ret
    exact ⟨rfl, Below.refl _ _⟩
  by_cases t6 : n = 0
  · subst t6
    go_wp2
    go_ret
    exact ⟨rfl, Below.refl _ _⟩
  have t6' : ((n : Int) == 0) = false := beq_eq_false_iff_ne.2 (by omega)
  by_cases t7 : ia < 0
  · go_wp2
    go_ret
    exact ⟨rfl, Below.refl _ _⟩
  by_cases t8 : (n : Int) ≤ ia
  · go_wp2
    go_ret
    exact ⟨rfl, Below.refl _ _⟩
  by_cases t9 : ib < 0
  · go_wp2
    go_ret
    exact ⟨rfl, Below.refl _ _⟩
  by_cases ta : (n : Int) ≤ ib
  · go_wp2
    go_ret
    exact ⟨rfl, Below.refl _ _⟩
  obtain ⟨i, rfl⟩ : ∃ i : Nat, ia = (i : Int) := ⟨ia.toNat, by omega⟩
  obtain ⟨j, rfl⟩ : ∃ j : Nat, ib = (j : Int) := ⟨ib.toNat, by omega⟩
  have hi : i < n := by omega
  have hj : j < n := by omega
  go_wp2_with fail
  refine (clone_strs _ _ _ _ _ h (by omega)).mono ?_
  rintro e w1 ⟨B, rfl, o, k0⟩
  go_wp2_with fail
  refine (clone_strs _ _ _ _ _ (h4.below k0) (by omega)).mono ?_
  rintro e w2 ⟨B4, rfl, o4, k1⟩
  go_wp2_with fail
  refine (clone_bytes _ _ _ _ _ ((h3.below k0).below k1) (by omega)).mono ?_
  rintro e w3 ⟨B3, rfl, o3, k2⟩
  have aB := ((o.arr (by unfold maxLen; omega)).below k1).below k2
  have aB4 := (o4.arr (by unfold maxLen; omega)).below k2
  have aB3 := o3.arr (by unfold maxLen; omega)
  have K0 : Below w.heap.size w w3 := (k0.trans (k1.mono k0.size)).trans (k2.mono (Nat.le_trans k0.size k1.size))
  have KK := Lib.hid K0
  clear o o4 o3 k0 k1 k2 h h3 h4 K0
  go_wp2_with fail
  refine (build_reg _ _ _ _ _ aB (by omega)).mono ?_
  rintro e w4 ⟨r, g, rfl, rg, k1, lr, lg⟩
  go_wp2_with fail
  refine (uv_new _ _ _ _ _).mono ?_
  rintro e w5 ⟨ua, rfl, hua, k2, lua⟩
  go_wp2_with fail
  refine (uv_new _ _ _ _ _).mono ?_
  rintro e w6 ⟨ub, rfl, hub, k3, lub⟩
  have hmk := run_make_row' (P := Try.prog) 22 9 (.string ByteArray.empty) 16 Try.underlying22 clone_strs_info rfl .i64 .i64 n (by omega) (by omega)
  have K6 : Below w3.heap.size w3 w6 := (k1.trans (k2.mono k1.size)).trans (k3.mono (Nat.le_trans k1.size k2.size))
  have ha6 := hua.below k3
  have hr6 := (rg.below k2).below k3
  have hne : ua ≠ ub := by
    have := World.rowIs.lt hua
    omega
  have l6a : w3.heap.size ≤ ua := Nat.le_trans k1.size lua
  have l6b : w3.heap.size ≤ ub := Nat.le_trans (Nat.le_trans k1.size k2.size) lub
  have AB := Lib.hid aB
  have AB4 := Lib.hid aB4
  have AB3 := Lib.hid aB3
  have HK6 := Lib.hid K6
  have HA := Lib.hid ha6
  have HB := Lib.hid hub
  have HR := Lib.hid hr6
  have LL := Lib.hid (And.intro l6a (And.intro l6b (And.intro lr (And.intro lg hne))))
  clear k1 k2 k3 aB aB3 aB4 K6 ha6 hub hr6 hua rg lr lg lua lub l6a l6b hne
  go_wp2
  go_loopw [15] (fun v wr => ∃ k : Nat, k ≤ n ∧ v = .int .i64 k ∧ wr.rowIs w6.heap.size 9 n (fun t => if t < k then .string (z t) else .string ByteArray.empty) ∧ Below w6.heap.size w6 wr) (fun v _ => n - (intOf v).toNat)
  case atStart => exact ⟨0, Nat.zero_le _, rfl, World.rowIs_made w6 _ n 9, by go_grown⟩
  case round =>
    obtain ⟨k, hk, rfl, hrow, hb⟩ := hrel
    by_cases hkn : k < n
    · obtain ⟨b, off, hx, hlt, hc⟩ := (AB.out.below HK6.out).at_ hkn
      subst hx
      have c1 : wr.cell? ⟨b, off + k, none⟩ = some (.string (z k)) := (hb.cell (p := ⟨b, off + k, none⟩) hlt).trans hc
      have c2 := hrow.cell hkn
      simp only [Nat.lt_irrefl, if_false] at c2
      have c3 := hrow.frozen k
      have hrow' := (hrow.set k (.string (z k))).congr (g := fun t => if t < k + 1 then .string (z t) else .string ByteArray.empty) (fun i hi => by
        by_cases h1 : i = k
        · subst h1; simp
        · by_cases h2 : i < k
          · simp [h1, h2, show i < k + 1 by omega]
          · simp [h1, h2, show ¬ i < k + 1 by omega])
      have hb' := hb.setCell (p := ⟨w6.heap.size, k, none⟩) (Nat.le_refl _) (.string (z k))
      have H1 := Lib.hid hrow'
      have H2 := Lib.hid hb'
      clear hrow' hb' hrow hb hc hmk
      go_wp2
      go_roundw
      case rel => exact ⟨k + 1, by omega, by go_num, H1.out, H2.out⟩
      case measure => simp [intOf]; omega
    · obtain rfl : k = n := by omega
      have hS : S2 w3 wr ua ub r g w6.heap.size k i j z z ByteArray.empty false ByteArray.empty false :=
        ⟨HA.out.below hb, HB.out.below hb, LL.out.2.2.2.2, HR.out.below hb, hrow.congr (fun t ht => by simp [ht]), HK6.out.trans (hb.mono HK6.out.size), LL.out.1, LL.out.2.1, LL.out.2.2.1, LL.out.2.2.2.1, HK6.out.size, hi, hj, by omega⟩
      have HS := Lib.hid hS
      clear hS hrow hb hmk HA HB HR LL HK6 AB
      obtain ⟨d, hd⟩ : ∃ d : Nat, d = w6.heap.size := ⟨_, rfl⟩
      rw [← hd] at HS ⊢
      clear hd
      go_wp2
      go_loopw [16, 17, 18, 19, 20] (fun va vb vc vd vt wr => Rel3 w3 ua ub r g d k i j n3 va vb vc vd vt wr) (fun _ _ _ _ vt _ => n3 - (intOf vt).toNat)
      case atStart => exact ⟨0, z, _, _, _, _, Nat.zero_le _, rfl, rfl, rfl, rfl, rfl, HS.out⟩
      case round =>
        clear HS
        obtain ⟨T, M, ao, bo, ac, bc, hT, rfl, rfl, rfl, rfl, rfl, hS⟩ := hrel
        have HS := Lib.hid hS
        clear hS
        by_cases hTn : T < n3
        · obtain ⟨b3', o3, e3, l3, d3⟩ := (AB3.out.below HS.out.bel).at_ hTn
          subst e3
          obtain ⟨x, hx⟩ : ∃ x, ops T = x := ⟨_, rfl⟩
          have hx0 := (HOP.out T hTn).1
          have hx1 := (HOP.out T hTn).2
          rw [hx] at d3 hx0 hx1
          clear hx
          by_cases hv : n4 < 1
          · obtain hm | hm | hm | hm | hm | hm : x % 6 = 0 ∨ x % 6 = 1 ∨ x % 6 = 2 ∨ x % 6 = 3 ∨ x % 6 = 4 ∨ x % 6 = 5 := by omega
            · have f0 : (x % 6 == 0) = true := beq_iff_eq.2 (by omega)
              have f1 : (x % 6 == 1) = false := beq_eq_false_iff_ne.2 (by omega)
              have f2 : (x % 6 == 2) = false := beq_eq_false_iff_ne.2 (by omega)
              have f3 : (x % 6 == 3) = false := beq_eq_false_iff_ne.2 (by omega)
              have f4 : (x % 6 == 4) = false := beq_eq_false_iff_ne.2 (by omega)
              cases ac
              · go_wp2_with fail
                refine (HS.out.set_o ByteArray.empty).mono ?_
                rintro e wc ⟨rfl, hS1⟩
                have hwt := hS1.wt
                have c2 := World.rowIs.cell hwt (i := i) (by omega)
                have c3 := World.rowIs.frozen hwt i
                have H1 := Lib.hid (S2.want hS1 i ByteArray.empty)
                clear hS1 hwt HS
                go_wp2_with fail
                refine H1.out.agrees.mono ?_
                rintro e wa ⟨rfl, hA⟩
                have HA := Lib.hid hA
                clear hA
                go_wp2_with fail
                refine HA.out.swap.agrees.mono ?_
                rintro e wb ⟨rfl, hB⟩
                have HB := Lib.hid hB.swap
                clear hB HA
                go_wp2
                go_roundw
                case rel => first | exact ⟨T + 1, _, _, _, _, _, by omega, by go_num, rfl, rfl, rfl, rfl, HB.out⟩ | ((repeat apply Exists.intro); exact ⟨⟨T + 1, _, _, _, _, _, by omega, by go_num, rfl, rfl, rfl, rfl, HB.out⟩, rfl⟩)
                case measure => simp [intOf]; omega
              · go_wp2_with fail
                refine (HS.out.set_c ByteArray.empty).mono ?_
                rintro e wc ⟨rfl, hS1⟩
                have H1 := Lib.hid hS1
                clear hS1 HS
                go_wp2_with fail
                refine H1.out.agrees.mono ?_
                rintro e wa ⟨rfl, hA⟩
                have HA := Lib.hid hA
                clear hA
                go_wp2_with fail
                refine HA.out.swap.agrees.mono ?_
                rintro e wb ⟨rfl, hB⟩
                have HB := Lib.hid hB.swap
                clear hB HA
                go_wp2
                go_roundw
                case rel => first | exact ⟨T + 1, _, _, _, _, _, by omega, by go_num, rfl, rfl, rfl, rfl, HB.out⟩ | ((repeat apply Exists.intro); exact ⟨⟨T + 1, _, _, _, _, _, by omega, by go_num, rfl, rfl, rfl, rfl, HB.out⟩, rfl⟩)
                case measure => simp [intOf]; omega
            · have f0 : (x % 6 == 0) = false := beq_eq_false_iff_ne.2 (by omega)
              have f1 : (x % 6 == 1) = true := beq_iff_eq.2 (by omega)
              have f2 : (x % 6 == 2) = false := beq_eq_false_iff_ne.2 (by omega)
              have f3 : (x % 6 == 3) = false := beq_eq_false_iff_ne.2 (by omega)
              have f4 : (x % 6 == 4) = false := beq_eq_false_iff_ne.2 (by omega)
              cases bc
              · go_wp2_with fail
                refine (HS.out.swap.set_o ByteArray.empty).mono ?_
                rintro e wc ⟨rfl, hS1⟩
                have hwt := hS1.wt
                have c2 := World.rowIs.cell hwt (i := j) (by omega)
                have c3 := World.rowIs.frozen hwt j
                have H1 := Lib.hid (S2.want hS1.swap j ByteArray.empty)
                clear hS1 hwt HS
                go_wp2_with fail
                refine H1.out.agrees.mono ?_
                rintro e wa ⟨rfl, hA⟩
                have HA := Lib.hid hA
                clear hA
                go_wp2_with fail
                refine HA.out.swap.agrees.mono ?_
                rintro e wb ⟨rfl, hB⟩
                have HB := Lib.hid hB.swap
                clear hB HA
                go_wp2
                go_roundw
                case rel => first | exact ⟨T + 1, _, _, _, _, _, by omega, by go_num, rfl, rfl, rfl, rfl, HB.out⟩ | ((repeat apply Exists.intro); exact ⟨⟨T + 1, _, _, _, _, _, by omega, by go_num, rfl, rfl, rfl, rfl, HB.out⟩, rfl⟩)
                case measure => simp [intOf]; omega
              · go_wp2_with fail
                refine (HS.out.swap.set_c ByteArray.empty).mono ?_
                rintro e wc ⟨rfl, hS1⟩
                have H1 := Lib.hid hS1.swap
                clear hS1 HS
                go_wp2_with fail
                refine H1.out.agrees.mono ?_
                rintro e wa ⟨rfl, hA⟩
                have HA := Lib.hid hA
                clear hA
                go_wp2_with fail
                refine HA.out.swap.agrees.mono ?_
                rintro e wb ⟨rfl, hB⟩
                have HB := Lib.hid hB.swap
                clear hB HA
                go_wp2
                go_roundw
                case rel => first | exact ⟨T + 1, _, _, _, _, _, by omega, by go_num, rfl, rfl, rfl, rfl, HB.out⟩ | ((repeat apply Exists.intro); exact ⟨⟨T + 1, _, _, _, _, _, by omega, by go_num, rfl, rfl, rfl, rfl, HB.out⟩, rfl⟩)
                case measure => simp [intOf]; omega
            · have f0 : (x % 6 == 0) = false := beq_eq_false_iff_ne.2 (by omega)
              have f1 : (x % 6 == 1) = false := beq_eq_false_iff_ne.2 (by omega)
              have f2 : (x % 6 == 2) = true := beq_iff_eq.2 (by omega)
              have f3 : (x % 6 == 3) = false := beq_eq_false_iff_ne.2 (by omega)
              have f4 : (x % 6 == 4) = false := beq_eq_false_iff_ne.2 (by omega)
              cases ac
              · go_wp2_with fail
                refine HS.out.close.mono ?_
                rintro e wc ⟨rfl, hS1⟩
                simp only [vl, Bool.false_eq_true, if_false] at hS1
                have c2 := World.rowIs.cell hS1.wt (i := i) (by omega)
                have H1 := Lib.hid hS1
                clear hS1 HS
                go_wp2_with fail
                refine H1.out.agrees.mono ?_
                rintro e wa ⟨rfl, hA⟩
                have HA := Lib.hid hA
                clear hA
                go_wp2_with fail
                refine HA.out.swap.agrees.mono ?_
                rintro e wb ⟨rfl, hB⟩
                have HB := Lib.hid hB.swap
                clear hB HA
                go_wp2
                go_roundw
                case rel => first | exact ⟨T + 1, _, _, _, _, _, by omega, by go_num, rfl, rfl, rfl, rfl, HB.out⟩ | ((repeat apply Exists.intro); exact ⟨⟨T + 1, _, _, _, _, _, by omega, by go_num, rfl, rfl, rfl, rfl, HB.out⟩, rfl⟩)
                case measure => simp [intOf]; omega
              · go_wp2_with fail
                refine HS.out.close.mono ?_
                rintro e wc ⟨rfl, hS1⟩
                simp only [vl, if_true] at hS1
                have c2 := World.rowIs.cell hS1.wt (i := i) (by omega)
                have H1 := Lib.hid hS1
                clear hS1 HS
                go_wp2_with fail
                refine H1.out.agrees.mono ?_
                rintro e wa ⟨rfl, hA⟩
                have HA := Lib.hid hA
                clear hA
                go_wp2_with fail
                refine HA.out.swap.agrees.mono ?_
                rintro e wb ⟨rfl, hB⟩
                have HB := Lib.hid hB.swap
                clear hB HA
                go_wp2
                go_roundw
                case rel => first | exact ⟨T + 1, _, _, _, _, _, by omega, by go_num, rfl, rfl, rfl, rfl, HB.out⟩ | ((repeat apply Exists.intro); exact ⟨⟨T + 1, _, _, _, _, _, by omega, by go_num, rfl, rfl, rfl, rfl, HB.out⟩, rfl⟩)
                case measure => simp [intOf]; omega
            · have f0 : (x % 6 == 0) = false := beq_eq_false_iff_ne.2 (by omega)
              have f1 : (x % 6 == 1) = false := beq_eq_false_iff_ne.2 (by omega)
              have f2 : (x % 6 == 2) = false := beq_eq_false_iff_ne.2 (by omega)
              have f3 : (x % 6 == 3) = true := beq_iff_eq.2 (by omega)
              have f4 : (x % 6 == 4) = false := beq_eq_false_iff_ne.2 (by omega)
              cases bc
              · go_wp2_with fail
                refine HS.out.swap.close.mono ?_
                rintro e wc ⟨rfl, hS1⟩
                simp only [vl, Bool.false_eq_true, if_false] at hS1
                have c2 := World.rowIs.cell hS1.wt (i := j) (by omega)
                have H1 := Lib.hid hS1.swap
                clear hS1 HS
                go_wp2_with fail
                refine H1.out.agrees.mono ?_
                rintro e wa ⟨rfl, hA⟩
                have HA := Lib.hid hA
                clear hA
                go_wp2_with fail
                refine HA.out.swap.agrees.mono ?_
                rintro e wb ⟨rfl, hB⟩
                have HB := Lib.hid hB.swap
                clear hB HA
                go_wp2
                go_roundw
                case rel => first | exact ⟨T + 1, _, _, _, _, _, by omega, by go_num, rfl, rfl, rfl, rfl, HB.out⟩ | ((repeat apply Exists.intro); exact ⟨⟨T + 1, _, _, _, _, _, by omega, by go_num, rfl, rfl, rfl, rfl, HB.out⟩, rfl⟩)
                case measure => simp [intOf]; omega
              · go_wp2_with fail
                refine HS.out.swap.close.mono ?_
                rintro e wc ⟨rfl, hS1⟩
                simp only [vl, if_true] at hS1
                have c2 := World.rowIs.cell hS1.wt (i := j) (by omega)
                have H1 := Lib.hid hS1.swap
                clear hS1 HS
                go_wp2_with fail
                refine H1.out.agrees.mono ?_
                rintro e wa ⟨rfl, hA⟩
                have HA := Lib.hid hA
                clear hA
                go_wp2_with fail
                refine HA.out.swap.agrees.mono ?_
                rintro e wb ⟨rfl, hB⟩
                have HB := Lib.hid hB.swap
                clear hB HA
                go_wp2
                go_roundw
                case rel => first | exact ⟨T + 1, _, _, _, _, _, by omega, by go_num, rfl, rfl, rfl, rfl, HB.out⟩ | ((repeat apply Exists.intro); exact ⟨⟨T + 1, _, _, _, _, _, by omega, by go_num, rfl, rfl, rfl, rfl, HB.out⟩, rfl⟩)
                case measure => simp [intOf]; omega
            · have f0 : (x % 6 == 0) = false := beq_eq_false_iff_ne.2 (by omega)
              have f1 : (x % 6 == 1) = false := beq_eq_false_iff_ne.2 (by omega)
              have f2 : (x % 6 == 2) = false := beq_eq_false_iff_ne.2 (by omega)
              have f3 : (x % 6 == 3) = false := beq_eq_false_iff_ne.2 (by omega)
              have f4 : (x % 6 == 4) = true := beq_iff_eq.2 (by omega)
              have hTk : T % k < k := Nat.mod_lt _ (by omega)
              obtain ⟨y, hy⟩ : ∃ y, T % k = y := ⟨_, rfl⟩
              have hy2 : (T : Int) % (k : Int) = (y : Int) := by omega
              rw [hy] at hTk
              go_wp2_with fail
              refine (HS.out.regset y hTk ByteArray.empty).mono ?_
              rintro e wc ⟨rfl, hS1⟩
              have c2 := World.rowIs.cell hS1.wt (i := y) hTk
              have c3 := World.rowIs.frozen hS1.wt y
              have H1 := Lib.hid (S2.want hS1 y ByteArray.empty)
              clear hS1 HS
              go_wp2_with fail
              refine H1.out.agrees.mono ?_
              rintro e wa ⟨rfl, hA⟩
              have HA := Lib.hid hA
              clear hA
              go_wp2_with fail
              refine HA.out.swap.agrees.mono ?_
              rintro e wb ⟨rfl, hB⟩
              have HB := Lib.hid hB.swap
              clear hB HA
              go_wp2
              go_roundw
              case rel => first | exact ⟨T + 1, _, _, _, _, _, by omega, by go_num, rfl, rfl, rfl, rfl, HB.out⟩ | ((repeat apply Exists.intro); exact ⟨⟨T + 1, _, _, _, _, _, by omega, by go_num, rfl, rfl, rfl, rfl, HB.out⟩, rfl⟩)
              case measure => simp [intOf]; omega
            · have f0 : (x % 6 == 0) = false := beq_eq_false_iff_ne.2 (by omega)
              have f1 : (x % 6 == 1) = false := beq_eq_false_iff_ne.2 (by omega)
              have f2 : (x % 6 == 2) = false := beq_eq_false_iff_ne.2 (by omega)
              have f3 : (x % 6 == 3) = false := beq_eq_false_iff_ne.2 (by omega)
              have f4 : (x % 6 == 4) = false := beq_eq_false_iff_ne.2 (by omega)
              go_wp2_with fail
              refine HS.out.agrees.mono ?_
              rintro e wa ⟨rfl, hA⟩
              have HA := Lib.hid hA
              clear hA
              go_wp2_with fail
              refine HA.out.swap.agrees.mono ?_
              rintro e wb ⟨rfl, hB⟩
              have HB := Lib.hid hB.swap
              clear hB HA
              go_wp2
              go_roundw
              case rel => first | exact ⟨T + 1, _, _, _, _, _, by omega, by go_num, rfl, rfl, rfl, rfl, HB.out⟩ | ((repeat apply Exists.intro); exact ⟨⟨T + 1, _, _, _, _, _, by omega, by go_num, rfl, rfl, rfl, rfl, HB.out⟩, rfl⟩)
              case measure => simp [intOf]; omega
          · obtain ⟨y4, hy4⟩ : ∃ y4, T % n4 = y4 := ⟨_, rfl⟩
            have hy4l : y4 < n4 := by rw [← hy4]; exact Nat.mod_lt _ (by omega)
            have hy4i : (T : Int) % (n4 : Int) = (y4 : Int) := by omega
            obtain ⟨b4', o4, e4, l4, d4⟩ := (AB4.out.below HS.out.bel).at_ hy4l
            subst e4
            obtain ⟨sv, hsv⟩ : ∃ sv, vals y4 = sv := ⟨_, rfl⟩
            rw [hsv] at d4
            clear hy4 hsv
            obtain hm | hm | hm | hm | hm | hm : x % 6 = 0 ∨ x % 6 = 1 ∨ x % 6 = 2 ∨ x % 6 = 3 ∨ x % 6 = 4 ∨ x % 6 = 5 := by omega
            · have f0 : (x % 6 == 0) = true := beq_iff_eq.2 (by omega)
              have f1 : (x % 6 == 1) = false := beq_eq_false_iff_ne.2 (by omega)
              have f2 : (x % 6 == 2) = false := beq_eq_false_iff_ne.2 (by omega)
              have f3 : (x % 6 == 3) = false := beq_eq_false_iff_ne.2 (by omega)
              have f4 : (x % 6 == 4) = false := beq_eq_false_iff_ne.2 (by omega)
              cases ac
              · go_wp2_with fail
                refine (HS.out.set_o sv).mono ?_
                rintro e wc ⟨rfl, hS1⟩
                have hwt := hS1.wt
                have c2 := World.rowIs.cell hwt (i := i) (by omega)
                have c3 := World.rowIs.frozen hwt i
                have H1 := Lib.hid (S2.want hS1 i sv)
                clear hS1 hwt HS
                go_wp2_with fail
                refine H1.out.agrees.mono ?_
                rintro e wa ⟨rfl, hA⟩
                have HA := Lib.hid hA
                clear hA
                go_wp2_with fail
                refine HA.out.swap.agrees.mono ?_
                rintro e wb ⟨rfl, hB⟩
                have HB := Lib.hid hB.swap
                clear hB HA
                go_wp2
                go_roundw
                case rel => first | exact ⟨T + 1, _, _, _, _, _, by omega, by go_num, rfl, rfl, rfl, rfl, HB.out⟩ | ((repeat apply Exists.intro); exact ⟨⟨T + 1, _, _, _, _, _, by omega, by go_num, rfl, rfl, rfl, rfl, HB.out⟩, rfl⟩)
                case measure => simp [intOf]; omega
              · go_wp2_with fail
                refine (HS.out.set_c sv).mono ?_
                rintro e wc ⟨rfl, hS1⟩
                have H1 := Lib.hid hS1
                clear hS1 HS
                go_wp2_with fail
                refine H1.out.agrees.mono ?_
                rintro e wa ⟨rfl, hA⟩
                have HA := Lib.hid hA
                clear hA
                go_wp2_with fail
                refine HA.out.swap.agrees.mono ?_
                rintro e wb ⟨rfl, hB⟩
                have HB := Lib.hid hB.swap
                clear hB HA
                go_wp2
                go_roundw
                case rel => first | exact ⟨T + 1, _, _, _, _, _, by omega, by go_num, rfl, rfl, rfl, rfl, HB.out⟩ | ((repeat apply Exists.intro); exact ⟨⟨T + 1, _, _, _, _, _, by omega, by go_num, rfl, rfl, rfl, rfl, HB.out⟩, rfl⟩)
                case measure => simp [intOf]; omega
            · have f0 : (x % 6 == 0) = false := beq_eq_false_iff_ne.2 (by omega)
              have f1 : (x % 6 == 1) = true := beq_iff_eq.2 (by omega)
              have f2 : (x % 6 == 2) = false := beq_eq_false_iff_ne.2 (by omega)
              have f3 : (x % 6 == 3) = false := beq_eq_false_iff_ne.2 (by omega)
              have f4 : (x % 6 == 4) = false := beq_eq_false_iff_ne.2 (by omega)
              cases bc
              · go_wp2_with fail
                refine (HS.out.swap.set_o sv).mono ?_
                rintro e wc ⟨rfl, hS1⟩
                have hwt := hS1.wt
                have c2 := World.rowIs.cell hwt (i := j) (by omega)
                have c3 := World.rowIs.frozen hwt j
                have H1 := Lib.hid (S2.want hS1.swap j sv)
                clear hS1 hwt HS
                go_wp2_with fail
                refine H1.out.agrees.mono ?_
                rintro e wa ⟨rfl, hA⟩
                have HA := Lib.hid hA
                clear hA
                go_wp2_with fail
                refine HA.out.swap.agrees.mono ?_
                rintro e wb ⟨rfl, hB⟩
                have HB := Lib.hid hB.swap
                clear hB HA
                go_wp2
                go_roundw
                case rel => first | exact ⟨T + 1, _, _, _, _, _, by omega, by go_num, rfl, rfl, rfl, rfl, HB.out⟩ | ((repeat apply Exists.intro); exact ⟨⟨T + 1, _, _, _, _, _, by omega, by go_num, rfl, rfl, rfl, rfl, HB.out⟩, rfl⟩)
                case measure => simp [intOf]; omega
              · go_wp2_with fail
                refine (HS.out.swap.set_c sv).mono ?_
                rintro e wc ⟨rfl, hS1⟩
                have H1 := Lib.hid hS1.swap
                clear hS1 HS
                go_wp2_with fail
                refine H1.out.agrees.mono ?_
                rintro e wa ⟨rfl, hA⟩
                have HA := Lib.hid hA
                clear hA
                go_wp2_with fail
                refine HA.out.swap.agrees.mono ?_
                rintro e wb ⟨rfl, hB⟩
                have HB := Lib.hid hB.swap
                clear hB HA
                go_wp2
                go_roundw
                case rel => first | exact ⟨T + 1, _, _, _, _, _, by omega, by go_num, rfl, rfl, rfl, rfl, HB.out⟩ | ((repeat apply Exists.intro); exact ⟨⟨T + 1, _, _, _, _, _, by omega, by go_num, rfl, rfl, rfl, rfl, HB.out⟩, rfl⟩)
                case measure => simp [intOf]; omega
            · have f0 : (x % 6 == 0) = false := beq_eq_false_iff_ne.2 (by omega)
              have f1 : (x % 6 == 1) = false := beq_eq_false_iff_ne.2 (by omega)
              have f2 : (x % 6 == 2) = true := beq_iff_eq.2 (by omega)
              have f3 : (x % 6 == 3) = false := beq_eq_false_iff_ne.2 (by omega)
              have f4 : (x % 6 == 4) = false := beq_eq_false_iff_ne.2 (by omega)
              cases ac
              · go_wp2_with fail
                refine HS.out.close.mono ?_
                rintro e wc ⟨rfl, hS1⟩
                simp only [vl, Bool.false_eq_true, if_false] at hS1
                have c2 := World.rowIs.cell hS1.wt (i := i) (by omega)
                have H1 := Lib.hid hS1
                clear hS1 HS
                go_wp2_with fail
                refine H1.out.agrees.mono ?_
                rintro e wa ⟨rfl, hA⟩
                have HA := Lib.hid hA
                clear hA
                go_wp2_with fail
                refine HA.out.swap.agrees.mono ?_
                rintro e wb ⟨rfl, hB⟩
                have HB := Lib.hid hB.swap
                clear hB HA
                go_wp2
                go_roundw
                case rel => first | exact ⟨T + 1, _, _, _, _, _, by omega, by go_num, rfl, rfl, rfl, rfl, HB.out⟩ | ((repeat apply Exists.intro); exact ⟨⟨T + 1, _, _, _, _, _, by omega, by go_num, rfl, rfl, rfl, rfl, HB.out⟩, rfl⟩)
                case measure => simp [intOf]; omega
              · go_wp2_with fail
                refine HS.out.close.mono ?_
                rintro e wc ⟨rfl, hS1⟩
                simp only [vl, if_true] at hS1
                have c2 := World.rowIs.cell hS1.wt (i := i) (by omega)
                have H1 := Lib.hid hS1
                clear hS1 HS
                go_wp2_with fail
                refine H1.out.agrees.mono ?_
                rintro e wa ⟨rfl, hA⟩
                have HA := Lib.hid hA
                clear hA
                go_wp2_with fail
                refine HA.out.swap.agrees.mono ?_
                rintro e wb ⟨rfl, hB⟩
                have HB := Lib.hid hB.swap
                clear hB HA
                go_wp2
                go_roundw
                case rel => first | exact ⟨T + 1, _, _, _, _, _, by omega, by go_num, rfl, rfl, rfl, rfl, HB.out⟩ | ((repeat apply Exists.intro); exact ⟨⟨T + 1, _, _, _, _, _, by omega, by go_num, rfl, rfl, rfl, rfl, HB.out⟩, rfl⟩)
                case measure => simp [intOf]; omega
            · have f0 : (x % 6 == 0) = false := beq_eq_false_iff_ne.2 (by omega)
              have f1 : (x % 6 == 1) = false := beq_eq_false_iff_ne.2 (by omega)
              have f2 : (x % 6 == 2) = false := beq_eq_false_iff_ne.2 (by omega)
              have f3 : (x % 6 == 3) = true := beq_iff_eq.2 (by omega)
              have f4 : (x % 6 == 4) = false := beq_eq_false_iff_ne.2 (by omega)
              cases bc
              · go_wp2_with fail
                refine HS.out.swap.close.mono ?_
                rintro e wc ⟨rfl, hS1⟩
                simp only [vl, Bool.false_eq_true, if_false] at hS1
                have c2 := World.rowIs.cell hS1.wt (i := j) (by omega)
                have H1 := Lib.hid hS1.swap
                clear hS1 HS
                go_wp2_with fail
                refine H1.out.agrees.mono ?_
                rintro e wa ⟨rfl, hA⟩
                have HA := Lib.hid hA
                clear hA
                go_wp2_with fail
                refine HA.out.swap.agrees.mono ?_
                rintro e wb ⟨rfl, hB⟩
                have HB := Lib.hid hB.swap
                clear hB HA
                go_wp2
                go_roundw
                case rel => first | exact ⟨T + 1, _, _, _, _, _, by omega, by go_num, rfl, rfl, rfl, rfl, HB.out⟩ | ((repeat apply Exists.intro); exact ⟨⟨T + 1, _, _, _, _, _, by omega, by go_num, rfl, rfl, rfl, rfl, HB.out⟩, rfl⟩)
                case measure => simp [intOf]; omega
              · go_wp2_with fail
                refine HS.out.swap.close.mono ?_
                rintro e wc ⟨rfl, hS1⟩
                simp only [vl, if_true] at hS1
                have c2 := World.rowIs.cell hS1.wt (i := j) (by omega)
                have H1 := Lib.hid hS1.swap
                clear hS1 HS
                go_wp2_with fail
                refine H1.out.agrees.mono ?_
                rintro e wa ⟨rfl, hA⟩
                have HA := Lib.hid hA
                clear hA
                go_wp2_with fail
                refine HA.out.swap.agrees.mono ?_
                rintro e wb ⟨rfl, hB⟩
                have HB := Lib.hid hB.swap
                clear hB HA
                go_wp2
                go_roundw
                case rel => first | exact ⟨T + 1, _, _, _, _, _, by omega, by go_num, rfl, rfl, rfl, rfl, HB.out⟩ | ((repeat apply Exists.intro); exact ⟨⟨T + 1, _, _, _, _, _, by omega, by go_num, rfl, rfl, rfl, rfl, HB.out⟩, rfl⟩)
                case measure => simp [intOf]; omega
            · have f0 : (x % 6 == 0) = false := beq_eq_false_iff_ne.2 (by omega)
              have f1 : (x % 6 == 1) = false := beq_eq_false_iff_ne.2 (by omega)
              have f2 : (x % 6 == 2) = false := beq_eq_false_iff_ne.2 (by omega)
              have f3 : (x % 6 == 3) = false := beq_eq_false_iff_ne.2 (by omega)
              have f4 : (x % 6 == 4) = true := beq_iff_eq.2 (by omega)
              have hTk : T % k < k := Nat.mod_lt _ (by omega)
              obtain ⟨y, hy⟩ : ∃ y, T % k = y := ⟨_, rfl⟩
              have hy2 : (T : Int) % (k : Int) = (y : Int) := by omega
              rw [hy] at hTk
              go_wp2_with fail
              refine (HS.out.regset y hTk sv).mono ?_
              rintro e wc ⟨rfl, hS1⟩
              have c2 := World.rowIs.cell hS1.wt (i := y) hTk
              have c3 := World.rowIs.frozen hS1.wt y
              have H1 := Lib.hid (S2.want hS1 y sv)
              clear hS1 HS
              go_wp2_with fail
              refine H1.out.agrees.mono ?_
              rintro e wa ⟨rfl, hA⟩
              have HA := Lib.hid hA
              clear hA
              go_wp2_with fail
              refine HA.out.swap.agrees.mono ?_
              rintro e wb ⟨rfl, hB⟩
              have HB := Lib.hid hB.swap
              clear hB HA
              go_wp2
              go_roundw
              case rel => first | exact ⟨T + 1, _, _, _, _, _, by omega, by go_num, rfl, rfl, rfl, rfl, HB.out⟩ | ((repeat apply Exists.intro); exact ⟨⟨T + 1, _, _, _, _, _, by omega, by go_num, rfl, rfl, rfl, rfl, HB.out⟩, rfl⟩)
              case measure => simp [intOf]; omega
            · have f0 : (x % 6 == 0) = false := beq_eq_false_iff_ne.2 (by omega)
              have f1 : (x % 6 == 1) = false := beq_eq_false_iff_ne.2 (by omega)
              have f2 : (x % 6 == 2) = false := beq_eq_false_iff_ne.2 (by omega)
              have f3 : (x % 6 == 3) = false := beq_eq_false_iff_ne.2 (by omega)
              have f4 : (x % 6 == 4) = false := beq_eq_false_iff_ne.2 (by omega)
              go_wp2_with fail
              refine HS.out.agrees.mono ?_
              rintro e wa ⟨rfl, hA⟩
              have HA := Lib.hid hA
              clear hA
              go_wp2_with fail
              refine HA.out.swap.agrees.mono ?_
              rintro e wb ⟨rfl, hB⟩
              have HB := Lib.hid hB.swap
              clear hB HA
              go_wp2
              go_roundw
              case rel => first | exact ⟨T + 1, _, _, _, _, _, by omega, by go_num, rfl, rfl, rfl, rfl, HB.out⟩ | ((repeat apply Exists.intro); exact ⟨⟨T + 1, _, _, _, _, _, by omega, by go_num, rfl, rfl, rfl, rfl, HB.out⟩, rfl⟩)
              case measure => simp [intOf]; omega
        · have hc := HS.out.rg
          have a14 : Arr wr (some ⟨d, 0, none⟩) k k (fun t => .string (M t)) := Own.arr (B := 0) (e := 9) (.inr ⟨_, rfl, Nat.zero_le _, HS.out.wt⟩) (by unfold maxLen; omega)
          have c17 := cells_equal hc a14 (by omega)
          clear hc a14
          go_wp2_with fail
          refine c17.mono ?_
          rintro e w' ⟨rfl, rfl⟩
          clear c17
          go_wp2
          go_ret
          exact ⟨rfl, KK.out.trans (HS.out.bel.mono KK.out.size)⟩
end Go.Proofs.Ytijbpfompooeoaa
