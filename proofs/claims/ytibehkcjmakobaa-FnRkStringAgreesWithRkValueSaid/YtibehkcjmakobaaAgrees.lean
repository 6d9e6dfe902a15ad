import Derived.Test.YtibehkcjmakobaaProg
import Derived.Test.YtibehkcjmakobaaHp
import Derived.Test.YtibehkcjmakobaaOr
import Derived.Test.YtibehkcjmakobaaRk
import Derived.Test.YtibehkcjmakobaaHelp
import Derived.WalkKit
import Derived.WalkSpells
import Derived.WalkLawsBesides
import Derived.Lib.Hide
import Derived.Lib.Builder
import Derived.OpenShut
import Derived.Handy
import Derived.LaidEqlPtr
import Derived.Laws.EntriesVeiled
import Derived.Deep.QuietTactic
import Derived.BigQuiet
import Derived.RegionTactic
import Derived.BigRegion
import Derived.Deep.AppendLies
namespace Go.Proofs.Ytibehkcjmakobaa
open Go.RowKit Go.ChangeShapes Go.Deep
set_option maxHeartbeats 4000000 in
set_option maxRecDepth 100000 in
theorem law5 (lb idx : Int) (A1 : Option Addr) (n1 c1 : Nat) (z1 : Nat → ByteArray) (A2 : Option Addr) (n2 c2 : Nat) (z2 : Nat → ByteArray) (w : World) (h1 : Arr w A1 n1 c1 (fun i => .string (z1 i))) (h2 : Arr w A2 n2 c2 (fun i => .string (z2 i))) (d0 : -9223372036854775808 ≤ lb) (d1 : lb ≤ 9223372036854775807) :
    Calls Try.prog 5 #[.int .i64 lb, .slice A1 n1 c1, .slice A2 n2 c2, .int .i64 idx] w fun e w' => e = .returned (.bool true) ∧ Below w.heap.size w w' := by
  have m1 := h1.len
  have m2 := h2.len
  unfold maxLen at m1 m2
  go_enter Try.func5, Try.ntmps5
  go_wp2_with fail
  refine (bytes5 _ _ _ _ _ _ _ _ _ _ _ h1 h2).mono ?_
  rintro e w' ⟨b, rfl, rfl, hb⟩
  cases b
  · go_wp2
    go_ret
    exact ⟨rfl, Below.refl _ _⟩
  obtain ⟨b1, b2⟩ := hb rfl
  clear hb
  by_cases t1 : 65536 < n1
  · go_wp2
    go_ret
    exact ⟨rfl, Below.refl _ _⟩
  by_cases t2 : 65536 < n2
  · go_wp2
    go_ret
    exact ⟨rfl, Below.refl _ _⟩
  go_wp2_with fail
  refine (str_bytes _ _ _ _ _ h1 (by omega)).mono ?_
  rintro e w' ⟨q1, rfl, rfl⟩
  go_wp2_with fail
  refine (str_bytes _ _ _ _ _ h2 (by omega)).mono ?_
  rintro e w' ⟨q2, rfl, rfl⟩
  by_cases t3 : 1048576 < wrap64 (wrap64 (16 * ((n1 : Int) + n2) + q1) + q2)
  · go_wp2
    go_ret
    exact ⟨rfl, Below.refl _ _⟩
  by_cases t4 : idx < 0
  · go_wp2
    go_ret
    exact ⟨rfl, Below.refl _ _⟩
  by_cases t5 : 511 < idx
  · go_wp2
    go_ret
    exact ⟨rfl, Below.refl _ _⟩
  have T3 := Lib.hid t3
  have c18 := clone_strs _ _ _ _ _ h1 (by omega)
  by_cases t6 : 256 ≤ idx
  · by_cases t7 : (n1 : Int) ≤ idx - 256
    · go_wp2
      go_ret
      exact ⟨rfl, Below.refl _ _⟩
    obtain ⟨i, rfl⟩ : ∃ i : Nat, idx = (i : Int) + 256 := ⟨(idx - 256).toNat, by omega⟩
    have hin : i < n1 := by omega
    go_wp2_with fail
    refine c18.mono ?_
    rintro e w1 ⟨B0, rfl, o0, k0⟩
    go_wp2_with fail
    refine (str_vals _ _ _ _ _ (h1.below k0) (by omega)).mono ?_
    rintro e w2 ⟨B1, rfl, o1, k1⟩
    go_wp2_with fail
    refine (str_vals _ _ _ _ _ ((h2.below k0).below k1) (by omega)).mono ?_
    rintro e w3 ⟨B2, rfl, o2, k2⟩
    go_wp2_with fail
    refine (new_rk _ _ _ _ _ _ _ _ _ _ _).mono ?_
    rintro e w4 ⟨p, r, f, g, q, rfl, rk, k3⟩
    have a0 := (((o0.arr (by unfold maxLen; omega)).below k1).below k2).below k3
    have a1 := ((o1.arr (by unfold maxLen; omega)).below k2).below k3
    have s1 := rk_string_k rk a0 i (by omega) hin
    have s2 := rk_value ((rk_const rk a1 i (by omega) hin).mono fun e w' h => ⟨h.1, 0, h.2 ▸ rfl⟩)
    have K : Below w.heap.size w w4 := ((k0.trans (k1.mono k0.size)).trans (k2.mono (Nat.le_trans k0.size k1.size))).trans (k3.mono (Nat.le_trans (Nat.le_trans k0.size k1.size) k2.size))
    have KK := Lib.hid K
    have ee : ((z1 i).toList == (z1 i).toList) = true := by simp
    clear k0 k1 k2 k3 rk a0 a1 K o0 o1 o2 h1 h2 c18
    go_wp2_with fail
    refine s1.mono ?_
    rintro e w' ⟨rfl, rfl⟩
    go_wp2_with fail
    refine s2.mono ?_
    rintro e w' ⟨rfl, m, rfl⟩
    clear s1 s2
    go_wp2
    go_ret
    exact ⟨rfl, below_drewN KK.out _⟩
  · by_cases t8 : lb < 0
    · go_wp2
      go_ret
      exact ⟨rfl, Below.refl _ _⟩
    by_cases t9 : (n2 : Int) < lb
    · go_wp2
      go_ret
      exact ⟨rfl, Below.refl _ _⟩
    by_cases ta : (n2 : Int) ≤ lb + idx
    · go_wp2
      go_ret
      exact ⟨rfl, Below.refl _ _⟩
    obtain ⟨i, hi⟩ : ∃ i : Nat, lb + idx = (i : Int) := ⟨(lb + idx).toNat, by omega⟩
    have hin : i < n2 := by omega
    go_wp2_with fail
    refine c18.mono ?_
    rintro e w1 ⟨B0, rfl, o0, k0⟩
    go_wp2_with fail
    refine (str_vals _ _ _ _ _ (h1.below k0) (by omega)).mono ?_
    rintro e w2 ⟨B1, rfl, o1, k1⟩
    go_wp2_with fail
    refine (str_vals _ _ _ _ _ ((h2.below k0).below k1) (by omega)).mono ?_
    rintro e w3 ⟨B2, rfl, o2, k2⟩
    go_wp2_with fail
    refine (new_rk _ _ _ _ _ _ _ _ _ _ _).mono ?_
    rintro e w4 ⟨p, r, f, g, q, rfl, rk, k3⟩
    have a2 := (o2.arr (by unfold maxLen; omega)).below k3
    have s1 := rk_string rk a2 (by omega) idx i (by omega) (by omega) hi hin
    have s2 := fun m => rk_value (rk_reg (w := w4.drewN m) ⟨rk.c13, rk.c16, rk.r0, rk.f5, rk.f1, rk.g2, rk.q8, rk.q14⟩ a2 (by omega) idx i (by omega) (by omega) hi hin)
    have K : Below w.heap.size w w4 := ((k0.trans (k1.mono k0.size)).trans (k2.mono (Nat.le_trans k0.size k1.size))).trans (k3.mono (Nat.le_trans (Nat.le_trans k0.size k1.size) k2.size))
    have KK := Lib.hid K
    have S2 := Lib.hid s2
    have ee : ((z2 i).toList == (z2 i).toList) = true := by simp
    clear k0 k1 k2 k3 rk a2 K o0 o1 o2 h1 h2 c18 s2
    go_wp2_with fail
    refine s1.mono ?_
    rintro e w' ⟨rfl, m, rfl⟩
    go_wp2_with fail
    refine (S2.out m).mono ?_
    rintro e w' ⟨rfl, m', rfl⟩
    clear s1
    go_wp2
    go_ret
    exact ⟨rfl, below_drewN KK.out _⟩
end Go.Proofs.Ytibehkcjmakobaa
