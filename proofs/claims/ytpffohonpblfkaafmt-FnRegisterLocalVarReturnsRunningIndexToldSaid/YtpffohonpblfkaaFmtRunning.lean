/- The laws on local variables, walked. -/
import Derived.Test.YtpffohonpblfkaaFmtHelp
namespace Go.Proofs.YtpffohonpblfkaaFmt
open Go.RowKit Go.ChangeShapes Go.Deep
set_option maxHeartbeats 4000000 in
set_option maxRecDepth 100000 in
theorem law7 (A0 : Option Addr) (n0 c0 : Nat) (o : Nat → Bool) (A1 : Option Addr) (n1 c1 : Nat) (z : Nat → ByteArray) (w : World) (h0 : Arr w A0 n0 c0 (fun i => .bool (o i))) (h1 : Arr w A1 n1 c1 (fun i => .string (z i))) :
    Calls Tryf.prog 7 #[.slice A0 n0 c0, .slice A1 n1 c1] w fun e w' => e = .returned (.bool true) ∧ Below w.heap.size w w' := by
  have m0 := h0.len
  have m1 := h1.len
  unfold maxLen at m0 m1
  have HA := Lib.hid h0
  have HB := Lib.hid h1
  clear h0 h1
  go_enter Tryf.func7, Tryf.ntmps7
  go_wp2_with fail
  refine (bytes7 _ _ _ _ _ _ _ _ _ HA.out HB.out).mono ?_
  rintro e w' ⟨b, rfl, rfl, hb⟩
  cases b
  · go_wp2
    go_ret
    exact ⟨rfl, Below.refl _ _⟩
  obtain ⟨b0, b1⟩ := hb rfl
  clear hb
  by_cases t1 : 4096 < n0
  · go_wp2
    go_ret
    exact ⟨rfl, Below.refl _ _⟩
  by_cases t2 : 4096 < n1
  · go_wp2
    go_ret
    exact ⟨rfl, Below.refl _ _⟩
  go_wp2_with fail
  refine (str_count _ _ _ _ _ HB.out (by omega)).mono ?_
  rintro e w' ⟨x, rfl, rfl⟩
  by_cases t5 : 1048576 < wrap64 ((n0 : Int) + x)
  · go_wp2
    go_ret
    exact ⟨rfl, Below.refl _ _⟩
  have t5' : ¬ 1048576 < wrap64 ((n0 : Int) + x) := t5
  clear t5
  go_wp2_with fail
  refine (regs18 _ _ _ _ n1 z _ HA.out (by omega)).mono ?_
  rintro e w' ⟨rfl, rfl⟩
  obtain ⟨R, hR⟩ : ∃ R, (regN o n1 z n0).length = R := ⟨_, rfl⟩
  rw [hR]
  have HR := Lib.hid hR
  clear hR
  by_cases t6 : 200 < R
  · go_wp2
    go_ret
    exact ⟨rfl, Below.refl _ _⟩
  go_wp2_with fail
  refine (clone_bools _ _ _ _ _ HA.out (by omega)).mono ?_
  rintro e w1 ⟨B0, rfl, o0, k0⟩
  go_wp2_with fail
  refine (clone_strs _ _ _ _ _ (HB.out.below k0) (by omega)).mono ?_
  rintro e w2 ⟨B1, rfl, o1, k1⟩
  have A0H := Lib.hid ((o0.arr (by unfold maxLen; omega)).below k1)
  have A1H := Lib.hid (o1.arr (by unfold maxLen; omega))
  have K := Lib.hid (k0.trans (k1.mono k0.size))
  clear o0 o1 k0 k1
  go_wp2_with fail
  refine (new13 _).mono ?_
  rintro e w3 ⟨f, rfl, hc⟩
  have HC := Lib.hid hc
  clear hc t5'
  go_wp2
  go_loopw [6, 7] (fun v6 v7 wr => ∃ k nb : Nat, k ≤ n0 ∧ nb ≤ k + 1 ∧ v7 = .int .i64 k ∧ v6 = .int .i64 (regN o n1 z k).length ∧ Hid (CXN w2 wr f (regN o n1 z k) nb)) (fun _ v7 _ => n0 - (intOf v7).toNat)
  case atStart => exact ⟨0, 1, Nat.zero_le _, by omega, rfl, rfl, HC⟩
  case round =>
    clear HC
    obtain ⟨k, nb, hk, hnb, rfl, rfl, hh⟩ := hrel
    have HH := Lib.hid hh.out
    clear hh
    have hRk : (regN o n1 z k).length ≤ 200 := by have h1 := regN_le (o := o) (n := n1) (z := z) hk; have h2 := HR.out; omega
    by_cases hkn : k < n0
    · have hR1 : (regN o n1 z (k + 1)).length ≤ 200 := by have h1 := regN_le (o := o) (n := n1) (z := z) (show k + 1 ≤ n0 by omega); have h2 := HR.out; omega
      have hs : regN o n1 z (k + 1) = if o k then regN o n1 z k else regN o n1 z k ++ [nmv n1 z k] := rfl
      obtain ⟨b, off, hx, _, hcell⟩ := (A0H.out.below HH.out.bel).at_ hkn
      subst hx
      obtain ⟨nm, hnm⟩ : ∃ nm, regN o n1 z k = nm := ⟨_, rfl⟩
      rw [hnm] at hs HH hRk
      obtain ⟨L, hL⟩ : ∃ L, nm.length = L := ⟨_, rfl⟩
      have HL := Lib.hid hL
      have hle : (regN o n1 z k).length = L := by rw [hnm]; exact hL
      try rw [hle]
      rw [hL] at hRk
      clear hnm hL hle
      cases hb : o k
      · rw [hb] at hcell hs
        simp only [Bool.false_eq_true, if_false] at hs
        have hR2 : L + 1 ≤ 200 := by rw [hs] at hR1; simp at hR1; rw [HL.out] at hR1; omega
        have HS := Lib.hid hs
        have c21 := fun W (hb : Below w2.heap.size w2 W) => name21 _ _ _ _ k W (A1H.out.below hb) (by omega) (by omega)
        obtain ⟨name, hname⟩ : ∃ name, nmv n1 z k = name := ⟨_, rfl⟩
        simp only [hname] at c21
        have HNM := Lib.hid hname
        have C21 := Lib.hid c21
        clear hs hb hR1 hname c21
        have cc := count22 HH.out (by rw [HL.out]; omega)
        rw [HL.out] at cc
        have e1 : ((L : Int) != (L : Int)) = false := by simp
        have e2 : (((L : Int) + 1) != ((L : Int) + 1)) = false := by simp
        have e3 : (name.toList != name.toList) = false := by simp
        go_wp2_with fail
        refine cc.mono ?_
        rintro e w5 ⟨rfl, rfl⟩
        clear cc
        go_wp2_with fail
        refine (C21.out _ HH.out.bel).mono ?_
        rintro e wx ⟨rfl, rfl⟩
        have cr := reg20 HH.out (by rw [HL.out]; exact hR2) name
        rw [HL.out] at cr
        go_wp2_with fail
        refine cr.mono ?_
        rintro e w4 ⟨rfl, h4⟩
        have hlen : (nm ++ [name]).length = L + 1 := by rw [List.length_append, HL.out]; rfl
        have HLEN := Lib.hid hlen
        have H4 := Lib.hid h4
        clear cr h4 hlen
        have cd := dlen29 H4.out
        rw [HLEN.out] at cd
        go_wp2_with fail
        refine cd.mono ?_
        rintro e w6 ⟨rfl, rfl⟩
        clear cd
        have cn := dname30 H4.out L (by rw [HLEN.out]; omega) (by rw [HLEN.out]; omega)
        have en : nth (nm ++ [name]) L = name := by rw [← HL.out]; exact nth_snoc
        rw [en] at cn
        clear en
        go_wp2_with fail
        refine cn.mono ?_
        rintro e w6 ⟨rfl, rfl⟩
        clear cn
        go_wp2
        go_roundw
        case rel => exact ⟨k + 1, nb, by omega, by omega, by go_num, by rw [HS.out, HNM.out, HLEN.out]; go_num, by rw [HS.out, HNM.out]; exact H4⟩
        case measure => simp [intOf]; omega
      · rw [hb] at hcell hs
        simp only [if_true] at hs
        have HS := Lib.hid hs
        have ce := enter19 HH.out (by omega)
        clear hs hb hR1
        go_wp2_with fail
        refine ce.mono ?_
        rintro e w4 ⟨rfl, h4⟩
        have H4 := Lib.hid h4
        clear h4 ce
        go_wp2
        go_roundw
        case rel => exact ⟨k + 1, nb + 1, by omega, by omega, by go_num, by rw [HS.out, HL.out], by rw [HS.out]; exact H4⟩
        case measure => simp [intOf]; omega
    · obtain rfl : k = n0 := by omega
      go_wp2
      go_ret
      exact ⟨rfl, K.out.trans (HH.out.bel.mono K.out.size)⟩
end Go.Proofs.YtpffohonpblfkaaFmt
