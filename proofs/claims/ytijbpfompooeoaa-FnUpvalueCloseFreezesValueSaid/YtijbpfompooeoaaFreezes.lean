import Derived.Test.YtijbpfompooeoaaProg
import Derived.Test.YtijbpfompooeoaaHp
import Derived.Test.YtijbpfompooeoaaOr
import Derived.Test.YtijbpfompooeoaaUv
import Derived.Test.YtijbpfompooeoaaHelp
import Derived.Test.YtijbpfompooeoaaState
import Derived.WalkKit
import Derived.WalkSpells
import Derived.WalkLawsBesides
import Derived.Lib.Hide
import Derived.Lib.Builder
import Derived.OpenShut
import Derived.Handy
import Derived.LaidEqlPtr
import Derived.Laws.EntriesVeiled
import Derived.Deep.QuietTactic
import Derived.BigQuiet
import Derived.RegionTactic
import Derived.BigRegion
import Derived.Deep.AppendLies
namespace Go.Proofs.Ytijbpfompooeoaa
open Go.RowKit Go.ChangeShapes Go.Deep
set_option maxHeartbeats 4000000 in
set_option maxRecDepth 100000 in
theorem law5 (A : Option Addr) (n c : Nat) (z : Nat → ByteArray) (k : Int) (own : ByteArray) (cl : Bool) (x y : ByteArray) (w : World) (h : Arr w A n c (fun i => .string (z i))) (s1 : own.size ≤ maxLen) (s2 : x.size ≤ maxLen) (s3 : y.size ≤ maxLen) :
    Calls Try.prog 5 #[.slice A n c, .int .i64 k, .string own, .bool cl, .string x, .string y] w fun e w' => e = .returned (.bool true) ∧ Below w.heap.size w w' := by
  have m0 := h.len
  go_enter Try.func5, Try.ntmps5
  go_wp2_with fail
  refine (bytes5 _ _ _ _ _ _ _ _ _ _ h s1 s2 s3).mono ?_
  rintro e w' ⟨b, rfl, rfl, hb⟩
  cases b
  · go_wp2
    go_ret
    exact ⟨rfl, Below.refl _ _⟩
  obtain ⟨b1, b2, b3, b4⟩ := hb rfl
  clear hb m0 s1 s2 s3
  by_cases t1 : 65536 < n
  · go_wp2
    go_ret
    exact ⟨rfl, Below.refl _ _⟩
  by_cases t2 : 65536 < own.size
  · go_wp2
    go_ret
    exact ⟨rfl, Below.refl _ _⟩
  by_cases t3 : 65536 < x.size
  · go_wp2
    go_ret
    exact ⟨rfl, Below.refl _ _⟩
  by_cases t4 : 65536 < y.size
  · go_wp2
    go_ret
    exact ⟨rfl, Below.refl _ _⟩
  go_wp2_with fail
  refine (str_bytes _ _ _ _ _ h (by omega)).mono ?_
  rintro e w' ⟨q, rfl, rfl, q0, q1, hq⟩
  clear hq
  by_cases t5 : 1048576 < q + (own.size : Int) + (x.size : Int) + (y.size : Int)
  · go_wp2
    go_ret
    exact ⟨rfl, Below.refl _ _⟩
  by_cases t6 : k < 0
  · go_wp2
    go_ret
    exact ⟨rfl, Below.refl _ _⟩
  by_cases t7 : (n : Int) ≤ k
  · go_wp2
    go_ret
    exact ⟨rfl, Below.refl _ _⟩
  obtain ⟨i, rfl⟩ : ∃ i : Nat, k = (i : Int) := ⟨k.toNat, by omega⟩
  have hi : i < n := by omega
  go_wp2_with fail
  refine (clone_strs _ _ _ _ _ h (by omega)).mono ?_
  rintro e w1 ⟨B, rfl, o, k0⟩
  go_wp2_with fail
  refine (build_reg _ _ _ _ _ (o.arr (by unfold maxLen; omega)) (by omega)).mono ?_
  rintro e w2 ⟨r, g, rfl, rg, k1, lr, lg⟩
  go_wp2_with fail
  refine (uv_new _ _ _ _ _).mono ?_
  rintro e w3 ⟨u, rfl, huv, k2, lu⟩
  have hs := S.made (w0 := w) rg (k0.trans (k1.mono k0.size)) (Nat.le_trans k0.size lr) (Nat.le_trans k0.size lg) hi (by omega) huv k2 lu
  have HS := Lib.hid hs
  clear rg k1 k0 huv k2 hs o h lr lg lu
  go_wp2_with fail
  refine HS.out.value.mono ?_
  rintro e w4 ⟨rfl, h1⟩
  have H1 := Lib.hid h1
  obtain ⟨v0, hv0⟩ : ∃ v, vl z i own cl = v := ⟨_, rfl⟩
  rw [hv0]
  clear HS h1
  go_wp2_with fail
  have c2 := H1.out.close
  rw [hv0] at c2
  clear hv0
  refine c2.mono ?_
  rintro e w5 ⟨rfl, h2⟩
  have H2 := Lib.hid h2
  clear H1 h2 c2
  go_wp2_with fail
  refine H2.out.closed.mono ?_
  rintro e w' ⟨rfl, rfl⟩
  go_wp2_with fail
  refine H2.out.value.mono ?_
  rintro e w6 ⟨rfl, h3⟩
  have H3 := Lib.hid h3
  clear H2 h3
  have e1 : (v0.toList == v0.toList) = true := by simp
  have e2 : (v0.toList != v0.toList) = false := by simp
  simp only [vl, if_true]
  go_wp2_with fail
  refine (H3.out.regset i hi y).mono ?_
  rintro e w7 ⟨rfl, h4⟩
  have H4 := Lib.hid h4
  clear H3 h4
  go_wp2_with fail
  refine H4.out.value.mono ?_
  rintro e w8 ⟨rfl, h5⟩
  have H5 := Lib.hid h5
  clear H4 h5
  simp only [vl, if_true]
  go_wp2_with fail
  refine H5.out.close.mono ?_
  rintro e w9 ⟨rfl, h6⟩
  simp only [vl, if_true] at h6
  have H6 := Lib.hid h6
  clear H5 h6
  go_wp2_with fail
  refine H6.out.value.mono ?_
  rintro e w10 ⟨rfl, h7⟩
  have H7 := Lib.hid h7
  clear H6 h7
  simp only [vl, if_true]
  go_wp2_with fail
  refine H7.out.closed.mono ?_
  rintro e w' ⟨rfl, rfl⟩
  go_wp2_with fail
  refine (H7.out.set_c x).mono ?_
  rintro e w11 ⟨rfl, h8⟩
  have H8 := Lib.hid h8
  clear H7 h8
  go_wp2_with fail
  refine H8.out.value.mono ?_
  rintro e w12 ⟨rfl, h9⟩
  have H9 := Lib.hid h9
  clear H8 h9
  simp only [vl, if_true]
  have e3 : (x.toList == x.toList) = true := by simp
  have e4 : (x.toList != x.toList) = false := by simp
  go_wp2_with fail
  refine (H9.out.regget i hi).mono ?_
  rintro e w' ⟨rfl, rfl⟩
  have e5 : (y.toList == y.toList) = true := by simp
  simp only [upd, if_true]
  go_wp2
  go_ret
  exact ⟨rfl, H9.out.bel⟩
end Go.Proofs.Ytijbpfompooeoaa
