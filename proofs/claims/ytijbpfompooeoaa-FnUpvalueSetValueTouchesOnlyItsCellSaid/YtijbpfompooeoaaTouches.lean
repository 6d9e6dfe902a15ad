import Derived.Test.YtijbpfompooeoaaProg
import Derived.Test.YtijbpfompooeoaaHp
import Derived.Test.YtijbpfompooeoaaOr
import Derived.Test.YtijbpfompooeoaaUv
import Derived.Test.YtijbpfompooeoaaHelp
import Derived.Test.YtijbpfompooeoaaState
import Derived.WalkKit
import Derived.WalkSpells
import Derived.WalkLawsBesides
import Derived.Lib.Hide
import Derived.Lib.Builder
import Derived.OpenShut
import Derived.Handy
import Derived.LaidEqlPtr
import Derived.Laws.EntriesVeiled
import Derived.Deep.QuietTactic
import Derived.BigQuiet
import Derived.RegionTactic
import Derived.BigRegion
import Derived.Deep.AppendLies
namespace Go.Proofs.Ytijbpfompooeoaa
open Go.RowKit Go.ChangeShapes Go.Deep
set_option maxHeartbeats 1500000 in
set_option maxRecDepth 100000 in
theorem law4 (A : Option Addr) (n c : Nat) (z : Nat → ByteArray) (k : Int) (own x : ByteArray) (cl nr : Bool) (w : World) (h : Arr w A n c (fun i => .string (z i))) (s1 : own.size ≤ maxLen) (s2 : x.size ≤ maxLen) :
    Calls Try.prog 4 #[.slice A n c, .int .i64 k, .string own, .string x, .bool cl, .bool nr] w fun e w' => e = .returned (.bool true) ∧ Below w.heap.size w w' := by
  go_enter Try.func4, Try.ntmps4
  go_wp2_with fail
  refine (bytes4 _ _ _ _ _ _ _ _ _ _ h s1 s2).mono ?_
  rintro e w' ⟨b, rfl, rfl, hb⟩
  cases b
  · go_wp2
    go_ret
    exact ⟨rfl, Below.refl _ _⟩
  obtain ⟨b1, b2, b3⟩ := hb rfl
  clear hb s1 s2
  by_cases t1 : 65536 < n
  · go_wp2
    go_ret
    exact ⟨rfl, Below.refl _ _⟩
  by_cases t2 : 65536 < own.size
  · go_wp2
    go_ret
    exact ⟨rfl, Below.refl _ _⟩
  by_cases t3 : 65536 < x.size
  · go_wp2
    go_ret
    exact ⟨rfl, Below.refl _ _⟩
  go_wp2_with fail
  refine (str_bytes _ _ _ _ _ h (by omega)).mono ?_
  rintro e w' ⟨q, rfl, rfl, q0, q1, hq⟩
  clear hq
  by_cases t5 : 1048576 < q + (own.size : Int) + (x.size : Int)
  · go_wp2
    go_ret
    exact ⟨rfl, Below.refl _ _⟩
  have hmk := run_make_row' (P := Try.prog) 22 9 (.string ByteArray.empty) 16 Try.underlying22 clone_strs_info rfl .i64 .i64 n (by omega) (by omega)
  have MK := Lib.hid hmk
  clear hmk
  have e1 : (x.toList == x.toList) = true := by simp
  have e2 : (x.toList != x.toList) = false := by simp
  have CS := Lib.hid (clone_strs _ _ _ _ _ h (by omega))
  cases nr
  · by_cases t6 : k < 0
    · go_wp2
      go_ret
      exact ⟨rfl, Below.refl _ _⟩
    by_cases t7 : (n : Int) ≤ k
    · go_wp2
      go_ret
      exact ⟨rfl, Below.refl _ _⟩
    obtain ⟨i, rfl⟩ : ∃ i : Nat, k = (i : Int) := ⟨k.toNat, by omega⟩
    have hi : i < n := by omega
    clear h
    go_wp2_with fail
    refine CS.out.mono ?_
    rintro e w1 ⟨B, rfl, o, k0⟩
    have aB := o.arr (by unfold maxLen; omega)
    go_wp2_with fail
    refine (build_reg _ _ _ _ _ aB (by omega)).mono ?_
    rintro e w2 ⟨r, g, rfl, rg, k1, lr, lg⟩
    go_wp2_with fail
    refine (uv_new _ _ _ _ _).mono ?_
    rintro e w3 ⟨u, rfl, huv, k2, lu⟩
    have hs := S.made (w0 := w1) rg k1 lr lg hi (by omega) huv k2 lu
    have HS := Lib.hid hs
    have AB1 := Lib.hid aB
    have K0 := Lib.hid k0
    clear CS hs huv k2 rg k1 k0 o aB lr lg lu
    go_wp2_with fail
    refine HS.out.closed.mono ?_
    rintro e w' ⟨rfl, rfl⟩
    cases cl
    · go_wp2_with fail
      refine (HS.out.set_o x).mono ?_
      rintro e w4 ⟨rfl, h1⟩
      have H1 := Lib.hid h1
      clear HS h1
      go_wp2_with fail
      refine H1.out.value.mono ?_
      rintro e wS ⟨rfl, h2⟩
      have H2 := Lib.hid h2
      clear H1 h2
      simp only [vl, upd, if_true, Bool.false_eq_true, if_false]
      go_wp2_with fail
      refine H2.out.closed.mono ?_
      rintro e w' ⟨rfl, rfl⟩
      have AB := Lib.hid (AB1.out.below H2.out.bel)
      have RGS := Lib.hid H2.out.rg
      have BELS := Lib.hid (K0.out.trans (H2.out.bel.mono K0.out.size))
      clear H2 AB1 K0
      have hmk := MK.out
      go_wp2
      go_loopw [19] (fun i wr => ∃ j : Nat, j ≤ n ∧ i = .int .i64 j ∧ wr.rowIs wS.heap.size 9 n (fun t => if t < j then .string (z t) else .string ByteArray.empty) ∧ Below wS.heap.size wS wr) (fun i _ => n - (intOf i).toNat)
      case atStart => exact ⟨0, Nat.zero_le _, rfl, World.rowIs_made wS _ n 9, by go_grown⟩
      case round =>
        obtain ⟨j, hj, rfl, hrow, hb⟩ := hrel
        by_cases hjn : j < n
        · obtain ⟨b, off, hx, hlt, hc⟩ := AB.out.at_ hjn
          subst hx
          have c1 : wr.cell? ⟨b, off + j, none⟩ = some (.string (z j)) := (hb.cell (p := ⟨b, off + j, none⟩) hlt).trans hc
          have c2 := hrow.cell hjn
          simp only [Nat.lt_irrefl, if_false] at c2
          have c3 := hrow.frozen j
          have hrow' := (hrow.set j (.string (z j))).congr (g := fun t => if t < j + 1 then .string (z t) else .string ByteArray.empty) (fun i hi => by
            by_cases h1 : i = j
            · subst h1; simp
            · by_cases h2 : i < j
              · simp [h1, h2, show i < j + 1 by omega]
              · simp [h1, h2, show ¬ i < j + 1 by omega])
          have hb' := hb.setCell (p := ⟨wS.heap.size, j, none⟩) (Nat.le_refl _) (.string (z j))
          have H1 := Lib.hid hrow'
          have H2 := Lib.hid hb'
          clear hrow' hb' hrow hb hc hmk
          go_wp2
          go_roundw
          case rel => exact ⟨j + 1, by omega, by go_num, H1.out, H2.out⟩
          case measure => simp [intOf]; omega
        · obtain rfl : j = n := by omega
          have c2 := hrow.cell hi
          have c3 := hrow.frozen i
          simp only [if_pos hi] at c2
          have hW : Arr (wr.setCell ⟨wS.heap.size, i, none⟩ (.string x)) (some ⟨wS.heap.size, 0, none⟩) j j (fun t => .string (upd z i x t)) :=
            Own.arr (B := wS.heap.size) (e := 9) (.inr ⟨_, rfl, Nat.le_refl _, (hrow.set i (.string x)).congr (fun t ht => by by_cases h1 : t = i <;> simp [upd, h1, ht])⟩) (by unfold maxLen; omega)
          have hb' := hb.setCell (p := ⟨wS.heap.size, i, none⟩) (Nat.le_refl _) (.string x)
          have c17 := cells_equal (RGS.out.below hb') hW (by omega)
          have FIN := Lib.hid (BELS.out.trans (hb'.mono BELS.out.size))
          clear hrow hb hmk hW hb'
          go_wp2_with (go_at_call 17; refine c17.mono ?_; rintro e w' ⟨rfl, rfl⟩)
          go_ret
          exact ⟨rfl, FIN.out⟩
    · go_wp2_with fail
      refine (HS.out.set_c x).mono ?_
      rintro e w4 ⟨rfl, h1⟩
      have H1 := Lib.hid h1
      clear HS h1
      go_wp2_with fail
      refine H1.out.value.mono ?_
      rintro e wS ⟨rfl, h2⟩
      have H2 := Lib.hid h2
      clear H1 h2
      simp only [vl, if_true]
      go_wp2_with fail
      refine H2.out.closed.mono ?_
      rintro e w' ⟨rfl, rfl⟩
      have AB := Lib.hid (AB1.out.below H2.out.bel)
      have RGS := Lib.hid H2.out.rg
      have BELS := Lib.hid (K0.out.trans (H2.out.bel.mono K0.out.size))
      clear H2 AB1 K0
      have hmk := MK.out
      go_wp2
      go_loopw [19] (fun i wr => ∃ j : Nat, j ≤ n ∧ i = .int .i64 j ∧ wr.rowIs wS.heap.size 9 n (fun t => if t < j then .string (z t) else .string ByteArray.empty) ∧ Below wS.heap.size wS wr) (fun i _ => n - (intOf i).toNat)
      case atStart => exact ⟨0, Nat.zero_le _, rfl, World.rowIs_made wS _ n 9, by go_grown⟩
      case round =>
        obtain ⟨j, hj, rfl, hrow, hb⟩ := hrel
        by_cases hjn : j < n
        · obtain ⟨b, off, hx, hlt, hc⟩ := AB.out.at_ hjn
          subst hx
          have c1 : wr.cell? ⟨b, off + j, none⟩ = some (.string (z j)) := (hb.cell (p := ⟨b, off + j, none⟩) hlt).trans hc
          have c2 := hrow.cell hjn
          simp only [Nat.lt_irrefl, if_false] at c2
          have c3 := hrow.frozen j
          have hrow' := (hrow.set j (.string (z j))).congr (g := fun t => if t < j + 1 then .string (z t) else .string ByteArray.empty) (fun i hi => by
            by_cases h1 : i = j
            · subst h1; simp
            · by_cases h2 : i < j
              · simp [h1, h2, show i < j + 1 by omega]
              · simp [h1, h2, show ¬ i < j + 1 by omega])
          have hb' := hb.setCell (p := ⟨wS.heap.size, j, none⟩) (Nat.le_refl _) (.string (z j))
          have H1 := Lib.hid hrow'
          have H2 := Lib.hid hb'
          clear hrow' hb' hrow hb hc hmk
          go_wp2
          go_roundw
          case rel => exact ⟨j + 1, by omega, by go_num, H1.out, H2.out⟩
          case measure => simp [intOf]; omega
        · obtain rfl : j = n := by omega
          have hW : Arr wr (some ⟨wS.heap.size, 0, none⟩) j j (fun t => .string (z t)) :=
            Own.arr (B := wS.heap.size) (e := 9) (.inr ⟨_, rfl, Nat.le_refl _, hrow.congr (fun t ht => by simp [ht])⟩) (by unfold maxLen; omega)
          have c17 := cells_equal (RGS.out.below hb) hW (by omega)
          have FIN := Lib.hid (BELS.out.trans (hb.mono BELS.out.size))
          clear hrow hb hmk hW
          go_wp2_with (go_at_call 17; refine c17.mono ?_; rintro e w' ⟨rfl, rfl⟩)
          go_ret
          exact ⟨rfl, FIN.out⟩
  · clear h
    go_wp2_with fail
    refine CS.out.mono ?_
    rintro e w1 ⟨B, rfl, o, k0⟩
    have aB := o.arr (by unfold maxLen; omega)
    go_wp2_with fail
    refine (build_reg _ _ _ _ _ aB (by omega)).mono ?_
    rintro e w2 ⟨r, g, rfl, rg, k1, lr, lg⟩
    go_wp2_with fail
    refine (uv_new _ _ _ _ _).mono ?_
    rintro e w3 ⟨u, rfl, huv, k2, lu⟩
    have hcl : (cl || (none : Option Addr).isNone) = true := by simp
    have rg3 := rg.below k2
    have hne := uv_ne huv rg3
    have HU := Lib.hid huv
    have RG3 := Lib.hid rg3
    have NE := Lib.hid hne
    have BEL := Lib.hid (k1.trans (k2.mono k1.size))
    have AB1 := Lib.hid aB
    have LU := Lib.hid (Nat.le_trans k1.size lu)
    have K0 := Lib.hid k0
    clear CS huv k2 rg k1 k0 o aB lr lg lu rg3 hne
    go_wp2_with fail
    refine (is_closed HU.out (fun a ha => by cases ha)).mono ?_
    rintro e w' ⟨rfl, rfl⟩
    rw [hcl]
    go_wp2_with fail
    refine (set_own HU.out (fun a ha => by cases ha) hcl x).mono ?_
    rintro e w4 ⟨rfl, h1, f1⟩
    have H1 := Lib.hid h1
    have bel1 : Below w1.heap.size w1 w4 := Fr.bel BEL.out f1 (fun t ht => by subst ht; exact LU.out)
    have B1 := Lib.hid bel1
    have RG4 := Lib.hid (RG3.out.fr f1 (fun e => NE.out.1 e.symm) (fun e => NE.out.2 e.symm))
    clear h1 f1 bel1
    go_wp2_with fail
    refine (value_str (value_own H1.out hcl)).mono ?_
    rintro e w5 ⟨rfl, m, rfl⟩
    obtain ⟨wS, hwS⟩ : ∃ wS : World, w4.drewN m = wS := ⟨_, rfl⟩
    have UVS : UV wS u none k x cl := by rw [← hwS]; exact H1.out
    have rgs : RG wS r g n z := by rw [← hwS]; exact ⟨RG4.out.row, RG4.out.arr, RG4.out.ne⟩
    have belS : Below w1.heap.size w1 wS := by rw [← hwS]; exact below_drewN B1.out m
    rw [hwS]
    have US := Lib.hid UVS
    have RGS := Lib.hid rgs
    have AB := Lib.hid (AB1.out.below belS)
    have BELS := Lib.hid (K0.out.trans (belS.mono K0.out.size))
    clear hwS UVS rgs belS H1 B1 RG4 AB1 HU RG3 NE BEL LU K0
    go_wp2_with fail
    refine (is_closed US.out (fun a ha => by cases ha)).mono ?_
    rintro e w' ⟨rfl, rfl⟩
    rw [hcl]
    clear hcl
    cases cl
    all_goals
      have hmk := MK.out
      go_wp2
      go_loopw [19] (fun i wr => ∃ j : Nat, j ≤ n ∧ i = .int .i64 j ∧ wr.rowIs wS.heap.size 9 n (fun t => if t < j then .string (z t) else .string ByteArray.empty) ∧ Below wS.heap.size wS wr) (fun i _ => n - (intOf i).toNat)
      case atStart => exact ⟨0, Nat.zero_le _, rfl, World.rowIs_made wS _ n 9, by go_grown⟩
      case round =>
        obtain ⟨j, hj, rfl, hrow, hb⟩ := hrel
        by_cases hjn : j < n
        · obtain ⟨b, off, hx, hlt, hc⟩ := AB.out.at_ hjn
          subst hx
          have c1 : wr.cell? ⟨b, off + j, none⟩ = some (.string (z j)) := (hb.cell (p := ⟨b, off + j, none⟩) hlt).trans hc
          have c2 := hrow.cell hjn
          simp only [Nat.lt_irrefl, if_false] at c2
          have c3 := hrow.frozen j
          have hrow' := (hrow.set j (.string (z j))).congr (g := fun t => if t < j + 1 then .string (z t) else .string ByteArray.empty) (fun i hi => by
            by_cases h1 : i = j
            · subst h1; simp
            · by_cases h2 : i < j
              · simp [h1, h2, show i < j + 1 by omega]
              · simp [h1, h2, show ¬ i < j + 1 by omega])
          have hb' := hb.setCell (p := ⟨wS.heap.size, j, none⟩) (Nat.le_refl _) (.string (z j))
          have H1 := Lib.hid hrow'
          have H2 := Lib.hid hb'
          clear hrow' hb' hrow hb hc hmk
          go_wp2
          go_roundw
          case rel => exact ⟨j + 1, by omega, by go_num, H1.out, H2.out⟩
          case measure => simp [intOf]; omega
        · obtain rfl : j = n := by omega
          have hW : Arr wr (some ⟨wS.heap.size, 0, none⟩) j j (fun t => .string (z t)) :=
            Own.arr (B := wS.heap.size) (e := 9) (.inr ⟨_, rfl, Nat.le_refl _, hrow.congr (fun t ht => by simp [ht])⟩) (by unfold maxLen; omega)
          have c17 := cells_equal (RGS.out.below hb) hW (by omega)
          have FIN := Lib.hid (BELS.out.trans (hb.mono BELS.out.size))
          clear hrow hb hmk hW
          go_wp2_with (go_at_call 17; refine c17.mono ?_; rintro e w' ⟨rfl, rfl⟩)
          go_ret
          exact ⟨rfl, FIN.out⟩
end Go.Proofs.Ytijbpfompooeoaa
