import Derived.Test.YtibehkcjmakobaaProg
import Derived.Test.YtibehkcjmakobaaHp
import Derived.Test.YtibehkcjmakobaaOr
import Derived.Test.YtibehkcjmakobaaRk
import Derived.Test.YtibehkcjmakobaaHelp
import Derived.WalkKit
import Derived.WalkSpells
import Derived.WalkLawsBesides
import Derived.Lib.Hide
import Derived.Lib.Builder
import Derived.OpenShut
import Derived.Handy
import Derived.LaidEqlPtr
import Derived.Laws.EntriesVeiled
import Derived.Deep.QuietTactic
import Derived.BigQuiet
import Derived.RegionTactic
import Derived.BigRegion
import Derived.Deep.AppendLies
namespace Go.Proofs.Ytibehkcjmakobaa
open Go.RowKit Go.ChangeShapes Go.Deep
set_option maxHeartbeats 4000000 in
set_option maxRecDepth 100000 in
theorem law4 (lb d idx : Int) (A : Option Addr) (n c : Nat) (z : Nat → Nat) (w : World) (h : Arr w A n c (fun i => .float .f64 (z i))) (d0 : -9223372036854775808 ≤ lb) (d1 : lb ≤ 9223372036854775807) :
    Calls Try.prog 4 #[.int .i64 lb, .int .i64 d, .slice A n c, .int .i64 idx] w fun e w' => e = .returned (.bool true) ∧ Below w.heap.size w w' := by
  have m0 := h.len
  unfold maxLen at m0
  go_enter Try.func4, Try.ntmps4
  go_wp2_with fail
  refine (bytes4 _ _ _ _ _ _ _ _ h).mono ?_
  rintro e w' ⟨b, rfl, rfl, hb⟩
  cases b
  · go_wp2
    go_ret
    exact ⟨rfl, Below.refl _ _⟩
  have hn := hb rfl
  clear hb
  by_cases t1 : 65536 < n
  · go_wp2
    go_ret
    exact ⟨rfl, Below.refl _ _⟩
  by_cases t2 : d < -255
  · go_wp2
    go_ret
    exact ⟨rfl, Below.refl _ _⟩
  by_cases t3 : 255 < d
  · go_wp2
    go_ret
    exact ⟨rfl, Below.refl _ _⟩
  by_cases t4 : idx < 0
  · go_wp2
    go_ret
    exact ⟨rfl, Below.refl _ _⟩
  by_cases t5 : 255 < idx
  · go_wp2
    go_ret
    exact ⟨rfl, Below.refl _ _⟩
  by_cases t6 : idx - d < 0
  · go_wp2
    go_ret
    exact ⟨rfl, Below.refl _ _⟩
  by_cases t7 : 255 < idx - d
  · go_wp2
    go_ret
    exact ⟨rfl, Below.refl _ _⟩
  by_cases t8 : lb < 0
  · go_wp2
    go_ret
    exact ⟨rfl, Below.refl _ _⟩
  by_cases t9 : (n : Int) < lb
  · go_wp2
    go_ret
    exact ⟨rfl, Below.refl _ _⟩
  by_cases ta : lb + d < 0
  · go_wp2
    go_ret
    exact ⟨rfl, Below.refl _ _⟩
  by_cases tb : (n : Int) ≤ lb + idx
  · go_wp2
    go_ret
    exact ⟨rfl, Below.refl _ _⟩
  obtain ⟨i, hi⟩ : ∃ i : Nat, lb + idx = (i : Int) := ⟨(lb + idx).toNat, by omega⟩
  have hin : i < n := by omega
  have hi2 : lb + d + (idx - d) = (i : Int) := by omega
  go_wp2_with fail
  refine (num_vals _ _ _ _ _ h (by omega)).mono ?_
  rintro e w1 ⟨B, rfl, o, k0⟩
  go_wp2_with fail
  refine (new_rk _ _ _ _ _ _ _ _ _ _ _).mono ?_
  rintro e w2 ⟨p, r, f, g, q, rfl, rk, k1⟩
  go_wp2_with fail
  refine (new_rk _ _ _ _ _ _ _ _ _ _ _).mono ?_
  rintro e w3 ⟨p', r', f', g', q', rfl, rk', k2⟩
  have aB := (((o.arr (by unfold maxLen; omega)).below k1).below k2)
  have c1 := rk_number (rk.below k2) aB (by omega) idx i (by omega) (by omega) hi hin
  have c2 := fun m => rk_number (w := w3.drewN m) ⟨rk'.c13, rk'.c16, rk'.r0, rk'.f5, rk'.f1, rk'.g2, rk'.q8, rk'.q14⟩ aB (by omega) (idx - d) i (by omega) (by omega) hi2 hin
  have K : Below w.heap.size w w3 := (k0.trans (k1.mono k0.size)).trans (k2.mono (Nat.le_trans k0.size k1.size))
  obtain ⟨b, off, rfl, hl, hc⟩ := h.at_ hin
  have hc' : w3.cell? ⟨b, off + i, none⟩ = some (.float .f64 (z i)) := (K.cell (p := ⟨b, off + i, none⟩) hl).trans hc
  have e1 : wrap64 (lb + idx) = i := by rw [hi]; unfold wrap64; omega
  have KK := Lib.hid K
  have C2 := Lib.hid c2
  clear k0 k1 k2 rk rk' o aB K c2 h hc
  go_wp2_with fail
  refine c1.mono ?_
  rintro e w' ⟨rfl, m, rfl⟩
  go_wp2_with fail
  refine (C2.out m).mono ?_
  rintro e w' ⟨rfl, m', rfl⟩
  clear c1
  go_wp2_with (go_at_call 13; refine (same_float _ _).mono ?_; rintro e w' ⟨rfl, rfl⟩)
  go_ret
  exact ⟨rfl, below_drewN KK.out _⟩
end Go.Proofs.Ytibehkcjmakobaa
