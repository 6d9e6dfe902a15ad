/- The laws FnGetLabelPcLastWriteWins and FnGetLabelPcFreshLabelsRoundTrip, walked. -/
import Derived.Test.YtpffohonpblfkaaLabels
import Derived.IntWalk
namespace Go.Proofs.Ytpffohonpblfkaa
open Go.RowKit Go.ChangeShapes Go.Deep Go.Maps
theorem clone_ints_info : (Try.prog.info? 3).map (fun i => (i.zero, i.size, i.bytes)) = some (some (.int .i64 0), 1, 8) := by kernel_rfl
set_option maxHeartbeats 400000 in
theorem clone_ints (A : Option Addr) (n c : Nat) (z : Nat → Int) (w : World) (ha : Arr w A n c (fun i => .int .i64 (z i))) (hn : n ≤ 1048576) :
    Calls Try.prog 6 #[.slice A n c] w fun e w' => ∃ A', e = .returned (.slice A' n n) ∧ Own w' w.heap.size 3 A' n (fun i => .int .i64 (z i)) ∧ Below w.heap.size w w' := by
  have hnil := fun w => Lib.run_eql_slice_nil (P := Try.prog) w 22 3 A n c 0 0 Try.underlying22
  rcases ha.some_ with ⟨rfl, rfl, rfl⟩ | ⟨x, rfl⟩
  · go_enter Try.func6, Try.ntmps6
    go_wp2
    go_ret
    exact ⟨none, rfl, .inl ⟨rfl, rfl⟩, Below.refl _ _⟩
  · have hmk := run_make_row' (P := Try.prog) 22 3 (.int .i64 0) 8 Try.underlying22 clone_ints_info rfl .i64 .i64 n (by omega) (by omega)
    go_enter Try.func6, Try.ntmps6
    go_wp2
    go_loopw [4] (fun i wr => ∃ k : Nat, k ≤ n ∧ i = .int .i64 k ∧ wr.rowIs w.heap.size 3 n (fun j => .int .i64 (if j < k then z j else 0)) ∧ Below w.heap.size w wr) (fun i _ => n - (intOf i).toNat)
    case atStart => exact ⟨0, Nat.zero_le _, rfl, World.rowIs_made w _ n 3, by go_grown⟩
    case round =>
      obtain ⟨k, hk, rfl, hrow, hb⟩ := hrel
      by_cases hkn : k < n
      · obtain ⟨b, off, hx, hlt, hc⟩ := ha.at_ hkn
        injection hx with hx
        subst hx
        have c1 : wr.cell? ⟨b, off + k, none⟩ = some (.int .i64 (z k)) := (hb.cell (p := ⟨b, off + k, none⟩) hlt).trans hc
        have c2 := hrow.cell hkn
        simp only [Nat.lt_irrefl, if_false] at c2
        have c3 := hrow.frozen k
        have hrow' := (hrow.set k (.int .i64 (z k))).congr (g := fun j => .int .i64 (if j < k + 1 then z j else 0)) (fun i hi => by
          by_cases h1 : i = k
          · subst h1; simp
          · by_cases h2 : i < k
            · simp [h1, h2, show i < k + 1 by omega]
            · simp [h1, h2, show ¬ i < k + 1 by omega])
        have hb' := hb.setCell (p := ⟨w.heap.size, k, none⟩) (Nat.le_refl _) (.int .i64 (z k))
        have H1 := Lib.hid hrow'
        have H2 := Lib.hid hb'
        clear hrow' hb' hrow hb hc ha hnil hmk
        go_wp2
        go_roundw
        case rel => exact ⟨k + 1, by omega, by go_num, H1.out, H2.out⟩
        case measure => simp [intOf]; omega
      · have hkn' : k = n := by omega
        subst hkn'
        clear hnil hmk
        go_wp2
        go_ret
        exact ⟨_, rfl, .inr ⟨_, rfl, Nat.le_refl _, hrow.congr (fun i hi => by simp [hi])⟩, hb⟩

theorem bytes3 (A0 : Option Addr) (n0 c0 : Nat) (z0 : Nat → Int) (w : World) (h0 : Arr w A0 n0 c0 (fun i => .int .i64 (z0 i))) :
    Calls Try.prog 5 #[.slice A0 n0 c0] w (SomeB (n0 ≤ 1048576) w) := by
  have m0 := h0.len
  unfold maxLen at m0
  by_cases b0 : 1048576 < n0
  · go_enter Try.func5, Try.ntmps5
    go_wp2
    go_ret
    exact ⟨false, rfl, rfl, fun h => by cases h⟩
  · have e0 : n0 ≤ 1048576 := by omega
    go_enter Try.func5, Try.ntmps5
    go_wp2
    go_ret
    exact ⟨true, rfl, rfl, fun _ => by first | trivial | omega⟩

theorem bytes4 (A0 : Option Addr) (n0 c0 : Nat) (z0 : Nat → Int) (A1 : Option Addr) (n1 c1 : Nat) (z1 : Nat → Int) (a2 : Int) (w : World) (h0 : Arr w A0 n0 c0 (fun i => .int .i64 (z0 i))) (h1 : Arr w A1 n1 c1 (fun i => .int .i64 (z1 i))) :
    Calls Try.prog 11 #[.slice A0 n0 c0, .slice A1 n1 c1, .int .i64 a2] w (SomeB (n0 ≤ 1048576 ∧ n1 ≤ 1048576) w) := by
  have m0 := h0.len
  unfold maxLen at m0
  have m1 := h1.len
  unfold maxLen at m1
  by_cases b0 : 1048576 < n0
  · go_enter Try.func11, Try.ntmps11
    go_wp2
    go_ret
    exact ⟨false, rfl, rfl, fun h => by cases h⟩
  · have e0 : n0 ≤ 1048576 := by omega
    by_cases b1 : 1048576 < n1
    · go_enter Try.func11, Try.ntmps11
      go_wp2
      go_ret
      exact ⟨false, rfl, rfl, fun h => by cases h⟩
    · have e1 : n1 ≤ 1048576 := by omega
      by_cases d1 : 1048576 < (n0 : Int) + (n1 : Int)
      · go_enter Try.func11, Try.ntmps11
        go_wp2
        go_ret
        exact ⟨false, rfl, rfl, fun h => by cases h⟩
      · have g1 : (n0 : Int) + (n1 : Int) ≤ 1048576 := by omega
        go_enter Try.func11, Try.ntmps11
        go_wp2
        go_ret
        exact ⟨true, rfl, rfl, fun _ => by first | trivial | omega⟩

def mm (z0 z1 : Nat → Int) : Nat → Int → Int
  | 0 => fun _ => 0
  | i + 1 => updI (mm z0 z1 i) (z0 i) (z1 i)
theorem mm_hit {z0 z1 : Nat → Int} {i : Nat} {q : Int} (h : z0 i = q) : mm z0 z1 (i + 1) q = z1 i := by simp [mm, updI, h]
theorem mm_miss {z0 z1 : Nat → Int} {q : Int} {i : Nat} : ∀ {n : Nat}, i ≤ n → (∀ j, i ≤ j → j < n → z0 j ≠ q) → mm z0 z1 n q = mm z0 z1 i q := by
  intro n
  induction n with
  | zero => intro hi _; rw [show i = 0 by omega]
  | succ n ih =>
    intro hi h
    by_cases e : i = n + 1
    · rw [e]
    · have h1 := h n (by omega) (by omega)
      have h2 := ih (by omega) (fun j hj hjn => h j hj (by omega))
      rw [← h2]
      simp only [mm, updI]
      rw [if_neg (fun e => h1 e.symm)]
set_option maxHeartbeats 2000000 in
set_option maxRecDepth 100000 in
theorem law4 (A0 : Option Addr) (n0 c0 : Nat) (z0 : Nat → Int) (A1 : Option Addr) (n1 c1 : Nat) (z1 : Nat → Int) (q : Int) (w : World) (h0 : Arr w A0 n0 c0 (fun i => .int .i64 (z0 i))) (h1 : Arr w A1 n1 c1 (fun i => .int .i64 (z1 i)))
    (hz0 : ∀ i, i < n0 → (Lit.int .i64 (z0 i)).wf = true) (hz1 : ∀ i, i < n1 → (Lit.int .i64 (z1 i)).wf = true) (hq : (Lit.int .i64 q).wf = true) :
    Calls Try.prog 4 #[.slice A0 n0 c0, .slice A1 n1 c1, .int .i64 q] w fun e w' => e = .returned (.bool true) ∧ Below w.heap.size w w' := by
  have m0 := h0.len
  have m1 := h1.len
  unfold maxLen at m0 m1
  have HA := Lib.hid h0
  have HB := Lib.hid h1
  have Z0 := Lib.hid hz0
  have Z1 := Lib.hid hz1
  have HQ := Lib.hid hq
  clear h0 h1 hz0 hz1 hq
  go_enter Try.func4, Try.ntmps4
  go_wp2_with fail
  refine (bytes4 _ _ _ _ _ _ _ _ _ _ HA.out HB.out).mono ?_
  rintro e w' ⟨b, rfl, rfl, hb⟩
  cases b
  · go_wp2
    go_ret
    exact ⟨rfl, Below.refl _ _⟩
  obtain ⟨b0, b1⟩ := hb rfl
  clear hb
  by_cases t1 : 65536 < n0
  · go_wp2
    go_ret
    exact ⟨rfl, Below.refl _ _⟩
  by_cases t2 : 65536 < n1
  · go_wp2
    go_ret
    exact ⟨rfl, Below.refl _ _⟩
  go_wp2_with fail
  refine (clone_ints _ _ _ _ _ HA.out (by omega)).mono ?_
  rintro e w1 ⟨B0, rfl, o0, k0⟩
  go_wp2_with fail
  refine (clone_ints _ _ _ _ _ (HB.out.below k0) (by omega)).mono ?_
  rintro e w2 ⟨B1, rfl, o1, k1⟩
  have a0 := (o0.arr (by unfold maxLen; omega)).below k1
  have a1 := o1.arr (by unfold maxLen; omega)
  have A0H := Lib.hid a0
  have A1H := Lib.hid a1
  have K := Lib.hid (k0.trans (k1.mono k0.size))
  clear o0 o1 k0 k1 a0 a1
  by_cases t4 : n1 < n0
  · obtain ⟨N, hN0, hN1, hN2⟩ : ∃ N : Nat, N ≤ n0 ∧ N ≤ n1 ∧ N = n1 := ⟨_, by omega, by omega, rfl⟩
    have HN := Lib.hid hN2
    clear hN2
    go_wp2_with fail
    refine (new_ctx _).mono ?_
    rintro e w3 ⟨f, b, rfl, hc⟩
    have HC := Lib.hid hc
    clear hc
    go_wp2
    rw [← HN.out]
    go_loopw [9] (fun v9 wr => ∃ k : Nat, k ≤ N ∧ v9 = .int .i64 k ∧ Hid (FC w2 wr f b k 1 (mm z0 z1 k))) (fun v9 _ => N - (intOf v9).toNat)
    case atStart => exact ⟨0, Nat.zero_le _, rfl, HC⟩
    case round =>
      clear HC
      obtain ⟨k, hk, rfl, hh⟩ := hrel
      have HH := Lib.hid hh.out
      clear hh
      by_cases hkN : k < N
      · obtain ⟨b0', off0, hx0, _, hc0⟩ := (A0H.out.below HH.out.bel).at_ (show k < n0 by omega)
        obtain ⟨b1', off1, hx1, _, hc1⟩ := (A1H.out.below HH.out.bel).at_ (show k < n1 by omega)
        subst hx0
        subst hx1
        have cs := set9 (HH.out.drewN 1) (by omega) (z0 k) (z1 k) (Z0.out k (by omega)) (Z1.out k (by omega))
        change Calls Try.prog 9 _ wr.drew _ at cs
        have d0 : (0 : Int) ≤ (k : Int) := by omega
        have d1 : (k : Int) < n0 := by omega
        have d2 : (k : Int) < n1 := by omega
        have CS := Lib.hid cs
        clear cs
        go_wp2
        go_still_tail 9, (by kernel_rfl)
        change wpList _ _ _ _ _ wr.drew
        go_wp2_with fail
        refine CS.out.mono ?_
        rintro e w4 ⟨rfl, h4, _⟩
        have H4 := Lib.hid h4
        clear h4
        go_wp2
        go_roundw
        case rel => exact ⟨k + 1, by omega, by go_num, H4⟩
        case measure => simp [intOf]; omega
      · obtain rfl : k = N := by omega
        clear HA HB
        go_wp2
        go_loopw [10, 11] (fun v10 v11 wr' => ∃ j : Nat, j ≤ k ∧ v10 = .int .i64 0 ∧ v11 = .int .i64 ((j : Int) - 1) ∧ wr' = wr ∧ Hid (∀ i, j ≤ i → i < k → z0 i ≠ q)) (fun _ v11 _ => (intOf v11 + 1).toNat)
        case atStart => exact ⟨k, Nat.le_refl _, rfl, rfl, rfl, Lib.hid (fun i hi hik => by omega)⟩
        case round =>
          obtain ⟨j, hj, rfl, rfl, rfl, hh⟩ := hrel
          have HJ := Lib.hid hh.out
          clear hh
          have cg : ∀ x, mm z0 z1 k q = x → Calls Try.prog 10 #[.pointer (some ⟨f, 0, none⟩), .int .i64 q] wr fun e w' => e = .returned (.int .i64 x) ∧ wr = w' := fun x hx => by
            have := get10 HH.out q HQ.out
            rw [hx] at this
            exact this
          have CG := Lib.hid cg
          clear cg
          by_cases hj0 : 0 < j
          · obtain ⟨b0', off0, hx0, _, hc0⟩ := (A0H.out.below HH.out.bel).at_ (show j - 1 < n0 by omega)
            obtain ⟨b1', off1, hx1, _, hc1⟩ := (A1H.out.below HH.out.bel).at_ (show j - 1 < n1 by omega)
            subst hx0
            subst hx1
            obtain ⟨r, hr⟩ : ∃ r : Int, (j : Int) - 1 = r := ⟨_, rfl⟩
            have HR := Lib.hid hr
            have r0 : 0 ≤ r := by omega
            have r1 : r < n0 := by omega
            have r2 : r < n1 := by omega
            have r3 : r.toNat = j - 1 := by omega
            obtain ⟨y, hy⟩ : ∃ y, z0 (j - 1) = y := ⟨_, rfl⟩
            obtain ⟨p, hp⟩ : ∃ p, z1 (j - 1) = p := ⟨_, rfl⟩
            rw [hy] at hc0
            rw [hp] at hc1
            rw [hr]
            have HY := Lib.hid hy
            have HP := Lib.hid hp
            clear hr hy hp
            by_cases hyq : y = q
            · have cg := CG.out p (by
                have e1 := mm_miss (z0 := z0) (z1 := z1) (q := q) (show j ≤ k by omega) HJ.out
                have e2 := mm_hit (z1 := z1) (show z0 (j - 1) = q by rw [HY.out]; exact hyq)
                rw [e1, ← HP.out, ← e2, show j - 1 + 1 = j by omega])
              have e3 : (y == q) = true := beq_iff_eq.2 hyq
              have e4 : (p == p) = true := by simp
              clear hyq
              go_wp2_with fail
              refine cg.mono ?_
              rintro e w5 ⟨rfl, rfl⟩
              go_wp2
              go_ret
              exact ⟨rfl, K.out.trans (HH.out.bel.mono K.out.size)⟩
            · have e3 : (y == q) = false := beq_eq_false_iff_ne.2 hyq
              have H2 : Hid (∀ i, j - 1 ≤ i → i < k → z0 i ≠ q) := Lib.hid (fun i hi hik => by
                by_cases e : i = j - 1
                · subst e; rw [HY.out]; exact hyq
                · exact HJ.out i (by omega) hik)
              clear hyq
              go_wp2
              go_roundw
              case rel => exact ⟨j - 1, by omega, by trivial, by have := HR.out; congr 1; omega, by trivial, H2⟩
              case measure => have := HR.out; simp [intOf]; omega
          · obtain rfl : j = 0 := by omega
            have cg := CG.out 0 (by rw [mm_miss (z0 := z0) (z1 := z1) (q := q) (Nat.zero_le k) HJ.out]; rfl)
            have e4 : ((0 : Int) == 0) = true := by simp
            go_wp2_with fail
            refine cg.mono ?_
            rintro e w5 ⟨rfl, rfl⟩
            go_wp2
            go_ret
            exact ⟨rfl, K.out.trans (HH.out.bel.mono K.out.size)⟩
  · obtain ⟨N, hN0, hN1, hN2⟩ : ∃ N : Nat, N ≤ n0 ∧ N ≤ n1 ∧ N = n0 := ⟨_, by omega, by omega, rfl⟩
    have HN := Lib.hid hN2
    clear hN2
    go_wp2_with fail
    refine (new_ctx _).mono ?_
    rintro e w3 ⟨f, b, rfl, hc⟩
    have HC := Lib.hid hc
    clear hc
    go_wp2
    rw [← HN.out]
    go_loopw [9] (fun v9 wr => ∃ k : Nat, k ≤ N ∧ v9 = .int .i64 k ∧ Hid (FC w2 wr f b k 1 (mm z0 z1 k))) (fun v9 _ => N - (intOf v9).toNat)
    case atStart => exact ⟨0, Nat.zero_le _, rfl, HC⟩
    case round =>
      clear HC
      obtain ⟨k, hk, rfl, hh⟩ := hrel
      have HH := Lib.hid hh.out
      clear hh
      by_cases hkN : k < N
      · obtain ⟨b0', off0, hx0, _, hc0⟩ := (A0H.out.below HH.out.bel).at_ (show k < n0 by omega)
        obtain ⟨b1', off1, hx1, _, hc1⟩ := (A1H.out.below HH.out.bel).at_ (show k < n1 by omega)
        subst hx0
        subst hx1
        have cs := set9 (HH.out.drewN 1) (by omega) (z0 k) (z1 k) (Z0.out k (by omega)) (Z1.out k (by omega))
        change Calls Try.prog 9 _ wr.drew _ at cs
        have d0 : (0 : Int) ≤ (k : Int) := by omega
        have d1 : (k : Int) < n0 := by omega
        have d2 : (k : Int) < n1 := by omega
        have CS := Lib.hid cs
        clear cs
        go_wp2
        go_still_tail 9, (by kernel_rfl)
        change wpList _ _ _ _ _ wr.drew
        go_wp2_with fail
        refine CS.out.mono ?_
        rintro e w4 ⟨rfl, h4, _⟩
        have H4 := Lib.hid h4
        clear h4
        go_wp2
        go_roundw
        case rel => exact ⟨k + 1, by omega, by go_num, H4⟩
        case measure => simp [intOf]; omega
      · obtain rfl : k = N := by omega
        clear HA HB
        go_wp2
        go_loopw [10, 11] (fun v10 v11 wr' => ∃ j : Nat, j ≤ k ∧ v10 = .int .i64 0 ∧ v11 = .int .i64 ((j : Int) - 1) ∧ wr' = wr ∧ Hid (∀ i, j ≤ i → i < k → z0 i ≠ q)) (fun _ v11 _ => (intOf v11 + 1).toNat)
        case atStart => exact ⟨k, Nat.le_refl _, rfl, rfl, rfl, Lib.hid (fun i hi hik => by omega)⟩
        case round =>
          obtain ⟨j, hj, rfl, rfl, rfl, hh⟩ := hrel
          have HJ := Lib.hid hh.out
          clear hh
          have cg : ∀ x, mm z0 z1 k q = x → Calls Try.prog 10 #[.pointer (some ⟨f, 0, none⟩), .int .i64 q] wr fun e w' => e = .returned (.int .i64 x) ∧ wr = w' := fun x hx => by
            have := get10 HH.out q HQ.out
            rw [hx] at this
            exact this
          have CG := Lib.hid cg
          clear cg
          by_cases hj0 : 0 < j
          · obtain ⟨b0', off0, hx0, _, hc0⟩ := (A0H.out.below HH.out.bel).at_ (show j - 1 < n0 by omega)
            obtain ⟨b1', off1, hx1, _, hc1⟩ := (A1H.out.below HH.out.bel).at_ (show j - 1 < n1 by omega)
            subst hx0
            subst hx1
            obtain ⟨r, hr⟩ : ∃ r : Int, (j : Int) - 1 = r := ⟨_, rfl⟩
            have HR := Lib.hid hr
            have r0 : 0 ≤ r := by omega
            have r1 : r < n0 := by omega
            have r2 : r < n1 := by omega
            have r3 : r.toNat = j - 1 := by omega
            obtain ⟨y, hy⟩ : ∃ y, z0 (j - 1) = y := ⟨_, rfl⟩
            obtain ⟨p, hp⟩ : ∃ p, z1 (j - 1) = p := ⟨_, rfl⟩
            rw [hy] at hc0
            rw [hp] at hc1
            rw [hr]
            have HY := Lib.hid hy
            have HP := Lib.hid hp
            clear hr hy hp
            by_cases hyq : y = q
            · have cg := CG.out p (by
                have e1 := mm_miss (z0 := z0) (z1 := z1) (q := q) (show j ≤ k by omega) HJ.out
                have e2 := mm_hit (z1 := z1) (show z0 (j - 1) = q by rw [HY.out]; exact hyq)
                rw [e1, ← HP.out, ← e2, show j - 1 + 1 = j by omega])
              have e3 : (y == q) = true := beq_iff_eq.2 hyq
              have e4 : (p == p) = true := by simp
              clear hyq
              go_wp2_with fail
              refine cg.mono ?_
              rintro e w5 ⟨rfl, rfl⟩
              go_wp2
              go_ret
              exact ⟨rfl, K.out.trans (HH.out.bel.mono K.out.size)⟩
            · have e3 : (y == q) = false := beq_eq_false_iff_ne.2 hyq
              have H2 : Hid (∀ i, j - 1 ≤ i → i < k → z0 i ≠ q) := Lib.hid (fun i hi hik => by
                by_cases e : i = j - 1
                · subst e; rw [HY.out]; exact hyq
                · exact HJ.out i (by omega) hik)
              clear hyq
              go_wp2
              go_roundw
              case rel => exact ⟨j - 1, by omega, by trivial, by have := HR.out; congr 1; omega, by trivial, H2⟩
              case measure => have := HR.out; simp [intOf]; omega
          · obtain rfl : j = 0 := by omega
            have cg := CG.out 0 (by rw [mm_miss (z0 := z0) (z1 := z1) (q := q) (Nat.zero_le k) HJ.out]; rfl)
            have e4 : ((0 : Int) == 0) = true := by simp
            go_wp2_with fail
            refine cg.mono ?_
            rintro e w5 ⟨rfl, rfl⟩
            go_wp2
            go_ret
            exact ⟨rfl, K.out.trans (HH.out.bel.mono K.out.size)⟩
theorem mm_fresh {z : Nat → Int} {i n : Nat} (h : i < n) : mm (fun i => 1 + (i : Int)) z n (1 + (i : Int)) = z i := by
  rw [mm_miss (show i + 1 ≤ n by omega) (fun j h1 _ e => by omega), mm_hit rfl]
theorem mm_unset {z : Nat → Int} {n : Nat} : mm (fun i => 1 + (i : Int)) z n (1 + (n : Int)) = 0 := by
  rw [mm_miss (Nat.zero_le n) (fun j _ h1 e => by omega)]; rfl
theorem quiet_left {P : Program} {f : FuncId} {args : Array Value} {w : World} {n : Nat} {v : Value}
    (h : Calls P f args (w.drewN n) fun e w' => e = .returned v ∧ w.drewN n = w') : Calls P f args (w.drewN n) fun e w'' => e = .returned v ∧ ∃ m, w'' = w.drewN m :=
  h.mono fun _ _ ⟨he, hm⟩ => ⟨he, n, hm.symm⟩
theorem quiet_add_left {P : Program} {f : FuncId} {args : Array Value} {w : World} {a n : Nat} {v : Value}
    (h : Calls P f args (w.drewN (a + n)) fun e w' => e = .returned v ∧ w.drewN (a + n) = w') :
    Calls P f args (w.drewN (a + n)) fun e w'' => e = .returned v ∧ ∃ m, w'' = w.drewN (a + m) :=
  h.mono fun _ _ ⟨he, hm⟩ => ⟨he, n, hm.symm⟩
theorem wf_small {n : Int} (h0 : -1000000 ≤ n) (h1 : n ≤ 1000000) : (Lit.int .i64 n).wf = true := WalkArith.wf_i64 (by omega)
set_option maxHeartbeats 2000000 in
set_option maxRecDepth 100000 in
theorem law3 (A0 : Option Addr) (n c0 : Nat) (z : Nat → Int) (w : World) (h0 : Arr w A0 n c0 (fun i => .int .i64 (z i))) (hz0 : ∀ i, i < n → (Lit.int .i64 (z i)).wf = true) :
    Calls Try.prog 3 #[.slice A0 n c0] w fun e w' => e = .returned (.bool true) ∧ Below w.heap.size w w' := by
  have m0 := h0.len
  unfold maxLen at m0
  have HA := Lib.hid h0
  have Z0 := Lib.hid hz0
  clear h0 hz0
  go_enter Try.func3, Try.ntmps3
  go_wp2_with fail
  refine (bytes3 _ _ _ _ _ HA.out).mono ?_
  rintro e w' ⟨b, rfl, rfl, hb⟩
  cases b
  · go_wp2
    go_ret
    exact ⟨rfl, Below.refl _ _⟩
  have b0 := hb rfl
  clear hb
  by_cases t1 : 65536 < n
  · go_wp2
    go_ret
    exact ⟨rfl, Below.refl _ _⟩
  go_wp2_with fail
  refine (clone_ints _ _ _ _ _ HA.out (by omega)).mono ?_
  rintro e w1 ⟨B0, rfl, o0, k0⟩
  have a0 := o0.arr (by unfold maxLen; omega)
  have A0H := Lib.hid a0
  have K := Lib.hid k0
  clear o0 k0 a0
  go_wp2_with fail
  refine (new_ctx _).mono ?_
  rintro e w2 ⟨f, b, rfl, hc⟩
  have hmk := run_make_row' (P := Try.prog) 22 3 (.int .i64 0) 8 Try.underlying22 clone_ints_info rfl .i64 .i64 n (by omega) (by omega)
  have HC := Lib.hid hc
  have hl2 := hc.bel.size
  clear hc
  go_wp2
  have S0 : Hid (FC w1 (w2.alloc (Obj.cells (madeCells #[Value.int IntKind.i64 0] n) 3)) f b 0 1 (fun _ => 0) ∧ (w2.alloc (Obj.cells (madeCells #[Value.int IntKind.i64 0] n) 3)).rowIs w2.heap.size 3 n (fun _ => .int .i64 0)) := Lib.hid ⟨HC.out.below (by go_grown), World.rowIs_made w2 _ n 3⟩
  clear hmk
  go_loopw [5] (fun v5 wr => ∃ k : Nat, k ≤ n ∧ v5 = .int .i64 k ∧ Hid (FC w1 wr f b k (1 + (k : Int)) (mm (fun i => 1 + (i : Int)) z k) ∧ wr.rowIs w2.heap.size 3 n (fun i => .int .i64 (if i < k then 1 + (i : Int) else 0)))) (fun v5 _ => n - (intOf v5).toNat)
  case atStart => exact ⟨0, Nat.zero_le _, rfl, Lib.hid ⟨S0.out.1, S0.out.2.congr (fun i hi => by simp)⟩⟩
  case round =>
    clear S0
    obtain ⟨k, hk, rfl, hh⟩ := hrel
    have HH := Lib.hid hh.out
    clear hh
    by_cases hkn : k < n
    · have cl := label8 HH.out.1 (by omega) (by omega)
      go_wp2_with fail
      refine cl.mono ?_
      rintro e w3 ⟨rfl, h3, f3⟩
      have r3 := f3.row HH.out.2 (HH.out.1.other HH.out.2 (by decide))
      have c3 := r3.cell hkn
      simp only [Nat.lt_irrefl, if_false] at c3
      have fz := r3.frozen k
      have lt3 := r3.lt
      have r4 := (r3.set k (.int .i64 (1 + (k : Int)))).congr (g := fun i => .int .i64 (if i < k + 1 then 1 + (i : Int) else 0)) (fun i hi => by
        by_cases e1 : i = k
        · subst e1; simp
        · by_cases e2 : i < k
          · simp [e1, e2, show i < k + 1 by omega]
          · simp [e1, e2, show ¬ i < k + 1 by omega])
      have h4 := h3.setRow r3 (by decide) hl2 k (.int .i64 (1 + (k : Int)))
      obtain ⟨w4, hw4⟩ : ∃ w4, w3.setCell ⟨w2.heap.size, k, none⟩ (.int .i64 (1 + (k : Int))) = w4 := ⟨_, rfl⟩
      rw [hw4] at r4 h4
      have c4 := r4.cell hkn
      simp only [Nat.lt_succ_self, if_true] at c4
      obtain ⟨b0', off0, hx0, _, hc0⟩ := (A0H.out.below h4.bel).at_ hkn
      subst hx0
      have cs := set9 (h4.drewN 1) (by omega) (1 + (k : Int)) (z k) (wf_small (by omega) (by omega)) (Z0.out k hkn)
      change Calls Try.prog 9 _ w4.drew _ at cs
      have CS := Lib.hid cs
      have H4 := Lib.hid h4
      have R4 := Lib.hid r4
      have HW := Lib.hid hw4
      clear cs h3 f3 r3 r4 h4 cl hw4
      have d0 : (0 : Int) ≤ (k : Int) := by omega
      have d1 : (k : Int) < n := by omega
      go_wp2
      rw [HW.out]
      go_still_tail 9, (by kernel_rfl)
      change wpList _ _ _ _ _ w4.drew
      go_wp2_with fail
      refine CS.out.mono ?_
      rintro e w5 ⟨rfl, h5, f5⟩
      have r5 := f5.row (w := w4.drew) R4.out ((H4.out.drewN 1).other (w := w4.drewN 1) R4.out (by decide))
      rw [show (1 + (k : Int) + 1) = 1 + ((k + 1 : Nat) : Int) by omega] at h5
      have H5 := Lib.hid (And.intro h5 r5)
      clear h5 f5 r5 CS
      go_wp2
      go_roundw
      case rel => exact ⟨k + 1, by omega, by go_num, H5⟩
      case measure => simp [intOf]; omega
    · obtain rfl : k = n := by omega
      clear HA
      go_wp2
      obtain ⟨wo, hwo⟩ : ∃ wo : World, wo = wr := ⟨_, rfl⟩
      subst hwo
      go_loopw [6] (fun v6 wr => ∃ j : Nat, j ≤ k ∧ v6 = .int .i64 j ∧ Hid (∃ m, wr = wo.drewN m)) (fun v6 _ => k - (intOf v6).toNat)
      case atStart => exact ⟨0, Nat.zero_le _, rfl, Lib.hid ⟨0, rfl⟩⟩
      case round =>
        obtain ⟨j, hj, rfl, hw⟩ := hrel
        have HW := Lib.hid hw.out
        clear hw
        have hfc : FC w1 wr f b k (1 + (k : Int)) (mm (fun i => 1 + (i : Int)) z k) := by
          obtain ⟨m, rfl⟩ := HW.out
          exact HH.out.1.drewN m
        by_cases hjk : j < k
        · have cj : wr.cell? ⟨w2.heap.size, j, none⟩ = some (.int .i64 (1 + (j : Int))) := by
            obtain ⟨m, rfl⟩ := HW.out
            have := HH.out.2.cell (i := j) hjk
            simpa [hjk] using this
          have c0 : wr.cell? ⟨w2.heap.size, 0, none⟩ = some (.int .i64 1) := by
            obtain ⟨m, rfl⟩ := HW.out
            have := HH.out.2.cell (i := 0) (by omega)
            simpa [show 0 < k by omega] using this
          obtain ⟨b0', off0, hx0, _, hc0⟩ := (A0H.out.below hfc.bel).at_ hjk
          subst hx0
          obtain ⟨y, hy⟩ : ∃ y, z j = y := ⟨_, rfl⟩
          have hmj := mm_fresh (z := z) hjk
          rw [hy] at hc0 hmj
          have HF := Lib.hid hfc
          have HM := Lib.hid hmj
          have e1 : IntKind.i64.wrap (1 + (j : Int)) = 1 + (j : Int) := IntWalk.i64_in _ (by omega)
          have e2 : ((1 + (j : Int)) != (1 + (j : Int))) = false := by simp
          have e3 : (y != y) = false := by simp
          have d0 : (0 : Int) ≤ (j : Int) := by omega
          have d1 : (j : Int) < k := by omega
          have d2 : 0 < k := by omega
          have hwfj := wf_small (n := 1 + (j : Int)) (by omega) (by omega)
          have HWF := Lib.hid hwfj
          clear hy hmj hfc hwfj
          go_wp2
          go_quiet (fail)
          go_wp2
          have cg : ∀ a, Calls Try.prog 10 #[.pointer (some ⟨f, 0, none⟩), .int .i64 (1 + (j : Int))] (wr.drewN a) fun e w' => e = .returned (.int .i64 y) ∧ wr.drewN a = w' := fun a => by
            have := get10 (HF.out.drewN a) (1 + (j : Int)) HWF.out
            rwa [HM.out] at this
          have CG := Lib.hid cg
          clear cg
          go_quiet ((go_at_call 10; exact quiet_add_left (CG.out _)))
          go_wp2
          go_roundw
          case rel => exact ⟨j + 1, by omega, by go_num, Lib.hid (by obtain ⟨m, rfl⟩ := HW.out; exact ⟨_, by simp only [World.drewN_drewN]; rfl⟩)⟩
          case measure => simp [intOf]; omega
        · have hwf := wf_small (n := 1 + (k : Int)) (by omega) (by omega)
          have cl := label8 hfc (by omega) (by omega)
          go_wp2_with fail
          refine cl.mono ?_
          rintro e w3 ⟨rfl, h3, f3⟩
          have cg := get10 h3 (1 + (k : Int)) hwf
          rw [mm_unset] at cg
          have e4 : ((0 : Int) == 0) = true := by simp
          have H3 := Lib.hid h3
          clear h3 f3 cl hfc hwf
          go_wp2_with fail
          refine cg.mono ?_
          rintro e w5 ⟨rfl, rfl⟩
          go_wp2
          go_ret
          exact ⟨rfl, K.out.trans (H3.out.bel.mono K.out.size)⟩
end Go.Proofs.Ytpffohonpblfkaa
