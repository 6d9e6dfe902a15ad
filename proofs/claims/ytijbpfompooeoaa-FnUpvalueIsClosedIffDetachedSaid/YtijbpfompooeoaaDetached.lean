import Derived.Test.YtijbpfompooeoaaProg
import Derived.Test.YtijbpfompooeoaaHp
import Derived.Test.YtijbpfompooeoaaOr
import Derived.Test.YtijbpfompooeoaaUv
import Derived.Test.YtijbpfompooeoaaHelp
import Derived.Test.YtijbpfompooeoaaState
import Derived.WalkKit
import Derived.WalkSpells
import Derived.WalkLawsBesides
import Derived.Lib.Hide
import Derived.Lib.Builder
import Derived.OpenShut
import Derived.Handy
import Derived.LaidEqlPtr
import Derived.Laws.EntriesVeiled
import Derived.Deep.QuietTactic
import Derived.BigQuiet
import Derived.RegionTactic
import Derived.BigRegion
import Derived.Deep.AppendLies
namespace Go.Proofs.Ytijbpfompooeoaa
open Go.RowKit Go.ChangeShapes Go.Deep
theorem hash_ne (v : ByteArray) : v.toList ≠ (v ++ ⟨#[35]⟩).toList := by
  intro h
  rw [ByteArray.toList_eq, ByteArray.toList_eq] at h
  have := congrArg List.length h
  simp at this
set_option maxHeartbeats 2000000 in
set_option maxRecDepth 100000 in
theorem law6 (A : Option Addr) (n c : Nat) (z : Nat → ByteArray) (k : Int) (own : ByteArray) (cl nr dc : Bool) (w : World) (h : Arr w A n c (fun i => .string (z i))) (s1 : own.size ≤ maxLen) :
    Calls Try.prog 6 #[.slice A n c, .int .i64 k, .string own, .bool cl, .bool nr, .bool dc] w fun e w' => e = .returned (.bool true) ∧ Below w.heap.size w w' := by
  go_enter Try.func6, Try.ntmps6
  go_wp2_with fail
  refine (bytes6 _ _ _ _ _ _ _ _ _ _ h s1).mono ?_
  rintro e w' ⟨b, rfl, rfl, hb⟩
  cases b
  · go_wp2
    go_ret
    exact ⟨rfl, Below.refl _ _⟩
  obtain ⟨b1, b2⟩ := hb rfl
  clear hb s1
  by_cases t1 : 65536 < n
  · go_wp2
    go_ret
    exact ⟨rfl, Below.refl _ _⟩
  by_cases t2 : 65536 < own.size
  · go_wp2
    go_ret
    exact ⟨rfl, Below.refl _ _⟩
  go_wp2_with fail
  refine (str_bytes _ _ _ _ _ h (by omega)).mono ?_
  rintro e w' ⟨q, rfl, rfl, q0, q1, hq⟩
  have HQ := Lib.hid hq
  clear hq
  by_cases t5 : 1048576 < q + (own.size : Int)
  · go_wp2
    go_ret
    exact ⟨rfl, Below.refl _ _⟩
  have CS := Lib.hid (clone_strs _ _ _ _ _ h (by omega))
  cases nr
  · by_cases t6 : k < 0
    · go_wp2
      go_ret
      exact ⟨rfl, Below.refl _ _⟩
    by_cases t7 : (n : Int) ≤ k
    · go_wp2
      go_ret
      exact ⟨rfl, Below.refl _ _⟩
    obtain ⟨i, rfl⟩ : ∃ i : Nat, k = (i : Int) := ⟨k.toNat, by omega⟩
    have hi : i < n := by omega
    have hzi := HQ.out (by omega) i hi
    clear h HQ
    go_wp2_with fail
    refine CS.out.mono ?_
    rintro e w1 ⟨B, rfl, o, k0⟩
    have aB := o.arr (by unfold maxLen; omega)
    go_wp2_with fail
    refine (build_reg _ _ _ _ _ aB (by omega)).mono ?_
    rintro e w2 ⟨r, g, rfl, rg, k1, lr, lg⟩
    go_wp2_with fail
    refine (uv_new _ _ _ _ _).mono ?_
    rintro e w3 ⟨u, rfl, huv, k2, lu⟩
    have hs := S.made (w0 := w1) rg k1 lr lg hi (by omega) huv k2 lu
    have HS := Lib.hid hs
    have K0 := Lib.hid k0
    clear CS hs huv k2 rg k1 k0 o aB lr lg lu
    obtain ⟨v0, hv0⟩ : ∃ v, vl z i own cl = v := ⟨_, rfl⟩
    have hsz : v0.size ≤ 1048576 := by
      rw [← hv0]
      unfold vl
      split
      · omega
      · exact hzi
    clear hzi
    obtain ⟨yv, hyv⟩ : ∃ y, v0 ++ ⟨#[35]⟩ = y := ⟨_, rfl⟩
    have yne : v0.toList ≠ yv.toList := fun he => by
      have := hash_ne v0
      rw [hyv] at this
      exact this he
    have e0 : (v0.toList == yv.toList) = false := beq_eq_false_iff_ne.2 yne
    have e1 : (v0.toList != yv.toList) = true := by simpa using yne
    have e4 : (v0.toList == v0.toList) = true := by simp
    have e5 : (yv.toList == yv.toList) = true := by simp
    have e2 : (v0.toList != v0.toList) = false := by simp
    have e3 : (yv.toList != yv.toList) = false := by simp
    clear yne
    cases dc
    · cases cl
      · have hv := hv0
        go_wp2_with fail
        refine HS.out.value.mono ?_
        simp only [hv]
        rintro e w4 ⟨rfl, h1⟩
        have H1 := Lib.hid h1
        clear h1
        go_wp2_with fail
        refine (H1.out.regset i hi yv).mono ?_
        rintro e w5 ⟨rfl, h2⟩
        have H2 := Lib.hid h2
        clear H1 h2
        go_wp2_with fail
        refine H2.out.value.mono ?_
        rintro e w6 ⟨rfl, h3⟩
        have H3 := Lib.hid h3
        clear H2 h3
        simp only [vl, upd, if_true, Bool.false_eq_true, if_false]
        go_wp2_with fail
        refine H3.out.closed.mono ?_
        rintro e w' ⟨rfl, rfl⟩
        go_wp2_with fail
        refine H3.out.closed.mono ?_
        rintro e w' ⟨rfl, rfl⟩
        go_wp2
        go_ret
        exact ⟨rfl, K0.out.trans (H3.out.bel.mono K0.out.size)⟩
      · have hv := hv0
        go_wp2_with fail
        refine HS.out.value.mono ?_
        simp only [hv]
        rintro e w4 ⟨rfl, h1⟩
        have H1 := Lib.hid h1
        clear h1
        go_wp2_with fail
        refine (H1.out.regset i hi yv).mono ?_
        rintro e w5 ⟨rfl, h2⟩
        have H2 := Lib.hid h2
        clear H1 h2
        go_wp2_with fail
        refine H2.out.value.mono ?_
        rintro e w6 ⟨rfl, h3⟩
        have H3 := Lib.hid h3
        clear H2 h3
        simp only [vl, if_true] at hv ⊢
        rw [hv]
        go_wp2_with fail
        refine H3.out.closed.mono ?_
        rintro e w' ⟨rfl, rfl⟩
        go_wp2_with fail
        refine H3.out.closed.mono ?_
        rintro e w' ⟨rfl, rfl⟩
        go_wp2
        go_ret
        exact ⟨rfl, K0.out.trans (H3.out.bel.mono K0.out.size)⟩
    · cases cl
      all_goals
        go_wp2_with fail
        refine HS.out.close.mono ?_
        simp only [hv0]
        rintro e w7 ⟨rfl, h1⟩
        have H0 := Lib.hid h1
        clear HS h1
        have hv : vl z i v0 true = v0 := rfl
        go_wp2_with fail
        refine H0.out.value.mono ?_
        simp only [hv]
        rintro e w4 ⟨rfl, h1⟩
        have H1 := Lib.hid h1
        clear h1
        go_wp2_with fail
        refine (H1.out.regset i hi yv).mono ?_
        rintro e w5 ⟨rfl, h2⟩
        have H2 := Lib.hid h2
        clear H1 h2
        go_wp2_with fail
        refine H2.out.value.mono ?_
        rintro e w6 ⟨rfl, h3⟩
        have H3 := Lib.hid h3
        clear H2 h3
        simp only [vl, if_true]
        go_wp2_with fail
        refine H3.out.closed.mono ?_
        rintro e w' ⟨rfl, rfl⟩
        go_wp2_with fail
        refine H3.out.closed.mono ?_
        rintro e w' ⟨rfl, rfl⟩
        go_wp2
        go_ret
        exact ⟨rfl, K0.out.trans (H3.out.bel.mono K0.out.size)⟩
  · clear h HQ
    go_wp2_with fail
    refine CS.out.mono ?_
    rintro e w1 ⟨B, rfl, o, k0⟩
    go_wp2_with fail
    refine (uv_new _ _ _ _ _).mono ?_
    rintro e w2 ⟨u, rfl, huv, k1, lu⟩
    have hcl : (cl || (none : Option Addr).isNone) = true := by simp
    have bel := k0.trans (k1.mono k0.size)
    have lu2 := Nat.le_trans k0.size lu
    clear CS o k0 k1 lu
    have e1 : (own.toList == own.toList) = true := by simp
    cases dc
    · have BEL := Lib.hid bel
      have HU := Lib.hid huv
      clear bel huv
      go_wp2_with fail
      refine (value_str (value_own HU.out hcl)).mono ?_
      rintro e w' ⟨rfl, m, rfl⟩
      go_wp2_with fail
      refine (is_closed (w := w2.drewN m) HU.out (fun a ha => by cases ha)).mono ?_
      rintro e w' ⟨rfl, rfl⟩
      rw [hcl]
      go_wp2
      go_ret
      exact ⟨rfl, below_drewN BEL.out m⟩
    · go_wp2_with fail
      refine (close_uv huv (value_own huv hcl)).mono ?_
      rintro e w3 ⟨rfl, h1, f1⟩
      have BEL := Lib.hid (bel.trans ((Fr.below f1 bel.size (fun x hx => by subst hx; exact lu2))))
      have HU := Lib.hid h1
      clear bel huv h1 f1
      go_wp2_with fail
      refine (value_str (value_own HU.out rfl)).mono ?_
      rintro e w' ⟨rfl, m, rfl⟩
      go_wp2_with fail
      refine (is_closed (w := w3.drewN m) HU.out (fun a ha => by cases ha)).mono ?_
      rintro e w' ⟨rfl, rfl⟩
      go_wp2
      go_ret
      exact ⟨rfl, below_drewN BEL.out m⟩
end Go.Proofs.Ytijbpfompooeoaa
