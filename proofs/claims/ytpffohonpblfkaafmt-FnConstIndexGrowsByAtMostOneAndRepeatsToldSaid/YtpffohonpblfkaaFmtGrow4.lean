/- The law on the table of constants, walked; case 4 of the least length. -/
import Derived.Test.YtpffohonpblfkaaFmtGrow
namespace Go.Proofs.YtpffohonpblfkaaFmt
open Go.RowKit Go.ChangeShapes Go.Deep
set_option maxHeartbeats 8000000 in
set_option maxRecDepth 100000 in
theorem law3_4 (A0 : Option Addr) (n0 c0 : Nat) (o : Nat → Bool) (A1 : Option Addr) (n1 c1 : Nat) (fl : Nat → Nat) (A2 : Option Addr) (n2 c2 : Nat) (z : Nat → ByteArray) (w : World) (h0 : Arr w A0 n0 c0 (fun i => .bool (o i))) (h1 : Arr w A1 n1 c1 (fun i => .float .f64 (fl i))) (h2 : Arr w A2 n2 c2 (fun i => .string (z i))) (t1 : n1 < n0) (t2 : n2 < n1) :
    Calls Tryf.prog 3 #[.slice A0 n0 c0, .slice A1 n1 c1, .slice A2 n2 c2] w fun e w' => e = .returned (.bool true) ∧ Below w.heap.size w w' := by
  have m0 := h0.len
  have m1 := h1.len
  have m2 := h2.len
  unfold maxLen at m0 m1 m2
  have HA := Lib.hid h0
  have HB := Lib.hid h1
  have HC := Lib.hid h2
  clear h0 h1 h2
  go_enter Tryf.func3, Tryf.ntmps3
  go_wp2_with fail
  refine (bytes3 _ _ _ _ _ _ _ _ _ _ _ _ _ HA.out HB.out HC.out).mono ?_
  rintro e w' ⟨b, rfl, rfl, hb⟩
  cases b
  · go_wp2
    go_ret
    exact ⟨rfl, Below.refl _ _⟩
  obtain ⟨b0, b1, b2⟩ := hb rfl
  clear hb
  by_cases u1 : 4096 < n0
  · go_wp2
    all_goals go_ret
    all_goals exact ⟨rfl, Below.refl _ _⟩
  by_cases u2 : 4096 < n1
  · go_wp2
    all_goals go_ret
    all_goals exact ⟨rfl, Below.refl _ _⟩
  by_cases u3 : 4096 < n2
  · go_wp2
    all_goals go_ret
    all_goals exact ⟨rfl, Below.refl _ _⟩
  go_wp2_with fail
  refine (str_count _ _ _ _ _ HC.out (by omega)).mono ?_
  rintro e w' ⟨x, rfl, rfl⟩
  by_cases t5 : 1048576 < wrap64 ((n0 : Int) + 8 * (n1 : Int) + x)
  · go_wp2
    go_ret
    exact ⟨rfl, Below.refl _ _⟩
  have t5' : ¬ 1048576 < wrap64 ((n0 : Int) + 8 * (n1 : Int) + x) := t5
  clear t5
  go_wp2_with fail
  refine (clone_bools _ _ _ _ _ HA.out (by omega)).mono ?_
  rintro e w1 ⟨B0, rfl, o0, k0⟩
  go_wp2_with fail
  refine (clone_floats _ _ _ _ _ (HB.out.below k0) (by omega)).mono ?_
  rintro e w2 ⟨B1, rfl, o1, k1⟩
  have k01 := k0.trans (k1.mono k0.size)
  go_wp2_with fail
  refine (clone_strs _ _ _ _ _ (HC.out.below k01) (by omega)).mono ?_
  rintro e w3 ⟨B2, rfl, o2, k2⟩
  have A0H := Lib.hid (((o0.arr (by unfold maxLen; omega)).below k1).below k2)
  have A1H := Lib.hid ((o1.arr (by unfold maxLen; omega)).below k2)
  have A2H := Lib.hid (o2.arr (by unfold maxLen; omega))
  have K := Lib.hid (k01.trans (k2.mono k01.size))
  clear o0 o1 o2 k0 k1 k2 k01 t5'
  go_wp2_with fail
  refine (newk13 _).mono ?_
  rintro e w4 hN
  obtain ⟨f, rfl, hc⟩ := hN
  have HC0 := Lib.hid hc
  clear hc
  go_wp2
  go_loopw [9] (fun v9 wr => ∃ (k : Nat) (cs : List KV), k ≤ n2 ∧ v9 = .int .i64 k ∧ cs.length ≤ 2 * k ∧ Hid (KPost w3 f cs wr)) (fun v9 _ => n2 - (intOf v9).toNat)
  case atStart => exact ⟨0, [], Nat.zero_le _, rfl, by simp, Lib.hid HC0.out⟩
  case round =>
    clear HC0
    obtain ⟨k, cs, hk, rfl, hl, HK⟩ := hrel
    by_cases hkn : k < n2
    · obtain ⟨L, hL⟩ : ∃ L : Int, L = cs.length := ⟨_, rfl⟩
      have HLI := Lib.hid hL
      obtain ⟨l, hll⟩ : ∃ l : Nat, cs.length = l := ⟨_, rfl⟩
      have HL := Lib.hid hll
      rw [hll] at hl
      clear hL hll
      cases hb : o k
      · have e0 := (A0H.out.below HK.out.bel).at_ (show k < n0 by omega)
        have e2 := (A2H.out.below HK.out.bel).at_ (show k < n2 by omega)
        obtain ⟨b0, o0, hx0, _, q0⟩ := e0
        subst hx0
        obtain ⟨b2, o2, hx2, _, q2⟩ := e2
        subst hx2
        have HB0 := Lib.hid hb
        rw [hb] at q0
        clear hb
        have c1 := ci16 HK.out (by rw [HL.out]; omega) (z k)
        go_wp2_with fail
        refine (count14 HK.out HLI.out (by rw [HL.out]; omega)).mono ?_
        rintro e wx ⟨rfl, rfl⟩
        go_wp2_with fail
        refine c1.mono ?_
        rintro e w4 hC
        obtain ⟨r, cs1, rfl, f1, k1⟩ := hC
        have l1 := found_len f1
        have F1 := Lib.hid f1
        have K1 := Lib.hid k1
        rw [HL.out] at l1
        obtain ⟨L1, hL1⟩ : ∃ L1 : Int, L1 = cs1.length := ⟨_, rfl⟩
        have HL1 := Lib.hid hL1
        obtain ⟨N1, hN1⟩ : ∃ N1 : Nat, cs1.length = N1 := ⟨_, rfl⟩
        have HN1 := Lib.hid hN1
        rw [hN1] at l1
        clear c1 f1 k1 hL1 hN1
        have q0w4 : w4.cell? ⟨b0, o0 + k, none⟩ = some (.bool false) := by
          obtain ⟨bb, oo, hx, _, hq⟩ := (A0H.out.below K1.out.bel).at_ (show k < n0 by omega)
          cases hx
          rw [HB0.out] at hq; exact hq
        have q2w4 : w4.cell? ⟨b2, o2 + k, none⟩ = some (.string (z k)) := by
          obtain ⟨bb, oo, hx, _, hq⟩ := (A2H.out.below K1.out.bel).at_ (show k < n2 by omega)
          cases hx
          exact hq
        have c2 := ci16 K1.out (by rw [HN1.out]; omega) (z k)
        have TW : ∀ r2 cs2, Found cs1 (.str (z k)) r2 cs2 → Twice L r L1 r2 cs2.length (eqk (.str (z k)) (.str (z k))) := fun r2 cs2 h => by have := found_twice F1.out h; rwa [← HLI.out, ← HL1.out] at this
        have C2 := Lib.hid c2
        have TW' := Lib.hid TW
        have hr : 0 ≤ r ∧ r ≤ L ∧ r < L1 ∧ (L1 = L ∨ L1 = L + 1) ∧ (L1 = L + 1 ↔ r = L) := by
          rcases F1.out with ⟨j, e1, e2, e3⟩ | ⟨e1, e2, e3⟩
          · have := e2.lt; have h1 := HLI.out; have h2 := HL1.out; rw [e3] at h2; omega
          · have h1 := HLI.out; have h2 := HL1.out; rw [e3] at h2; simp at h2; omega
        clear c2 TW
        have hL0 : 0 ≤ L := by have := HLI.out; omega
        have hLm : L ≤ 9000 := by have := HLI.out; rw [HL.out] at this; omega
        by_cases hg : L1 = L
        · obtain rfl := hg
          have hrl : r < L1 := hr.2.2.1
          have hr0 : 0 ≤ r := hr.1
          have q1 : (r == L1) = false := by simp; omega
          have q2 : (L1 == L1 + 1) = false := by simp; try omega
          have q3 : ¬ r = L1 := by omega
          clear hr
          go_wp2_with fail
          refine (count14 K1.out HL1.out (by rw [HN1.out]; omega)).mono ?_
          rintro e wx ⟨rfl, rfl⟩
          go_wp2_with fail
          refine C2.out.mono ?_
          rintro e w5 hC
          obtain ⟨r2, cs2, rfl, f2, k2⟩ := hC
          have tw := TW'.out _ _ f2
          have l2 := found_len f2
          have K2 := Lib.hid k2
          rw [HN1.out] at l2
          obtain ⟨L2, hL2⟩ : ∃ L2 : Int, L2 = cs2.length := ⟨_, rfl⟩
          have HL2 := Lib.hid hL2
          obtain ⟨N2, hN2⟩ : ∃ N2 : Nat, cs2.length = N2 := ⟨_, rfl⟩
          have HN2 := Lib.hid hN2
          rw [hN2] at l2
          rw [← hL2] at tw
          clear f2 k2 hL2 hN2
          have q0w5 : w5.cell? ⟨b0, o0 + k, none⟩ = some (.bool false) := by
            obtain ⟨bb, oo, hx, _, hq⟩ := (A0H.out.below K2.out.bel).at_ (show k < n0 by omega)
            cases hx
            rw [HB0.out] at hq; exact hq
          have q2w5 : w5.cell? ⟨b2, o2 + k, none⟩ = some (.string (z k)) := by
            obtain ⟨bb, oo, hx, _, hq⟩ := (A2H.out.below K2.out.bel).at_ (show k < n2 by omega)
            cases hx
            exact hq
          go_wp2_with fail
          refine (count14 K2.out HL2.out (by rw [HN2.out]; omega)).mono ?_
          rintro e wx ⟨rfl, rfl⟩
          obtain ⟨tw1, tw2, tw⟩ := tw
          obtain ⟨e1, e2, he⟩ : r2 = r ∧ L2 = L1 ∧ eqk (.str (z k)) (.str (z k)) = true := by
            rcases tw with ⟨d1, d2, d3, d4, d5⟩ | ⟨d1, d2, d3, d4, d5⟩ | ⟨d1, d2, d3, d4, d5⟩
            · exact ⟨d3, d4, d5⟩
            · omega
            · omega
          subst e1 e2
          clear he
          go_wp2
          go_quiet (fail)
          go_wp2
          go_roundw
          case rel => exact ⟨k + 1, cs2, by omega, by go_num, by rw [HN2.out]; omega, Lib.hid (KPost.drewN K2.out _)⟩
          case measure => simp [intOf]; omega

        · obtain ⟨hg1, hg2⟩ : L1 = L + 1 ∧ r = L := by omega
          subst hg1 hg2
          clear hr hg
          go_wp2_with fail
          refine (count14 K1.out HL1.out (by rw [HN1.out]; omega)).mono ?_
          rintro e wx ⟨rfl, rfl⟩
          go_wp2_with fail
          refine C2.out.mono ?_
          rintro e w5 hC
          obtain ⟨r2, cs2, rfl, f2, k2⟩ := hC
          have tw := TW'.out _ _ f2
          have l2 := found_len f2
          have K2 := Lib.hid k2
          rw [HN1.out] at l2
          obtain ⟨L2, hL2⟩ : ∃ L2 : Int, L2 = cs2.length := ⟨_, rfl⟩
          have HL2 := Lib.hid hL2
          obtain ⟨N2, hN2⟩ : ∃ N2 : Nat, cs2.length = N2 := ⟨_, rfl⟩
          have HN2 := Lib.hid hN2
          rw [hN2] at l2
          rw [← hL2] at tw
          clear f2 k2 hL2 hN2
          have q0w5 : w5.cell? ⟨b0, o0 + k, none⟩ = some (.bool false) := by
            obtain ⟨bb, oo, hx, _, hq⟩ := (A0H.out.below K2.out.bel).at_ (show k < n0 by omega)
            cases hx
            rw [HB0.out] at hq; exact hq
          have q2w5 : w5.cell? ⟨b2, o2 + k, none⟩ = some (.string (z k)) := by
            obtain ⟨bb, oo, hx, _, hq⟩ := (A2H.out.below K2.out.bel).at_ (show k < n2 by omega)
            cases hx
            exact hq
          go_wp2_with fail
          refine (count14 K2.out HL2.out (by rw [HN2.out]; omega)).mono ?_
          rintro e wx ⟨rfl, rfl⟩
          obtain ⟨tw1, tw2, tw⟩ := tw
          rcases tw with ⟨d1, d2, d3, d4, d5⟩ | ⟨d1, d2, d3, d4, he⟩ | ⟨d1, d2, d3, d4, he⟩
          · omega
          · subst d3 d4
            clear he
            go_wp2
            go_quiet (fail)
            go_wp2
            go_roundw
            case rel => exact ⟨k + 1, cs2, by omega, by go_num, by rw [HN2.out]; omega, Lib.hid (KPost.drewN K2.out _)⟩
            case measure => simp [intOf]; omega
          · rw [show eqk (.str (z k)) (.str (z k)) = true from bself _] at he; cases he
      · have e0 := (A0H.out.below HK.out.bel).at_ (show k < n0 by omega)
        have e1 := (A1H.out.below HK.out.bel).at_ (show k < n1 by omega)
        obtain ⟨b0, o0, hx0, _, q0⟩ := e0
        subst hx0
        obtain ⟨b1, o1, hx1, _, q1⟩ := e1
        subst hx1
        have HB0 := Lib.hid hb
        rw [hb] at q0
        clear hb
        have c1 := ci15 HK.out (by rw [HL.out]; omega) (fl k)
        go_wp2_with fail
        refine (count14 HK.out HLI.out (by rw [HL.out]; omega)).mono ?_
        rintro e wx ⟨rfl, rfl⟩
        go_wp2_with fail
        refine c1.mono ?_
        rintro e w4 hC
        obtain ⟨r, cs1, rfl, f1, k1⟩ := hC
        have l1 := found_len f1
        have F1 := Lib.hid f1
        have K1 := Lib.hid k1
        rw [HL.out] at l1
        obtain ⟨L1, hL1⟩ : ∃ L1 : Int, L1 = cs1.length := ⟨_, rfl⟩
        have HL1 := Lib.hid hL1
        obtain ⟨N1, hN1⟩ : ∃ N1 : Nat, cs1.length = N1 := ⟨_, rfl⟩
        have HN1 := Lib.hid hN1
        rw [hN1] at l1
        clear c1 f1 k1 hL1 hN1
        have q0w4 : w4.cell? ⟨b0, o0 + k, none⟩ = some (.bool true) := by
          obtain ⟨bb, oo, hx, _, hq⟩ := (A0H.out.below K1.out.bel).at_ (show k < n0 by omega)
          cases hx
          rw [HB0.out] at hq; exact hq
        have q1w4 : w4.cell? ⟨b1, o1 + k, none⟩ = some (.float .f64 (fl k)) := by
          obtain ⟨bb, oo, hx, _, hq⟩ := (A1H.out.below K1.out.bel).at_ (show k < n1 by omega)
          cases hx
          exact hq
        have c2 := ci15 K1.out (by rw [HN1.out]; omega) (fl k)
        have TW : ∀ r2 cs2, Found cs1 (.num (fl k)) r2 cs2 → Twice L r L1 r2 cs2.length (eqk (.num (fl k)) (.num (fl k))) := fun r2 cs2 h => by have := found_twice F1.out h; rwa [← HLI.out, ← HL1.out] at this
        have C2 := Lib.hid c2
        have TW' := Lib.hid TW
        have hr : 0 ≤ r ∧ r ≤ L ∧ r < L1 ∧ (L1 = L ∨ L1 = L + 1) ∧ (L1 = L + 1 ↔ r = L) := by
          rcases F1.out with ⟨j, e1, e2, e3⟩ | ⟨e1, e2, e3⟩
          · have := e2.lt; have h1 := HLI.out; have h2 := HL1.out; rw [e3] at h2; omega
          · have h1 := HLI.out; have h2 := HL1.out; rw [e3] at h2; simp at h2; omega
        clear c2 TW
        have hL0 : 0 ≤ L := by have := HLI.out; omega
        have hLm : L ≤ 9000 := by have := HLI.out; rw [HL.out] at this; omega
        by_cases hg : L1 = L
        · obtain rfl := hg
          have hrl : r < L1 := hr.2.2.1
          have hr0 : 0 ≤ r := hr.1
          have q1 : (r == L1) = false := by simp; omega
          have q2 : (L1 == L1 + 1) = false := by simp; try omega
          have q3 : ¬ r = L1 := by omega
          clear hr
          go_wp2_with fail
          refine (count14 K1.out HL1.out (by rw [HN1.out]; omega)).mono ?_
          rintro e wx ⟨rfl, rfl⟩
          go_wp2_with fail
          refine C2.out.mono ?_
          rintro e w5 hC
          obtain ⟨r2, cs2, rfl, f2, k2⟩ := hC
          have tw := TW'.out _ _ f2
          have l2 := found_len f2
          have K2 := Lib.hid k2
          rw [HN1.out] at l2
          obtain ⟨L2, hL2⟩ : ∃ L2 : Int, L2 = cs2.length := ⟨_, rfl⟩
          have HL2 := Lib.hid hL2
          obtain ⟨N2, hN2⟩ : ∃ N2 : Nat, cs2.length = N2 := ⟨_, rfl⟩
          have HN2 := Lib.hid hN2
          rw [hN2] at l2
          rw [← hL2] at tw
          clear f2 k2 hL2 hN2
          have q0w5 : w5.cell? ⟨b0, o0 + k, none⟩ = some (.bool true) := by
            obtain ⟨bb, oo, hx, _, hq⟩ := (A0H.out.below K2.out.bel).at_ (show k < n0 by omega)
            cases hx
            rw [HB0.out] at hq; exact hq
          have q1w5 : w5.cell? ⟨b1, o1 + k, none⟩ = some (.float .f64 (fl k)) := by
            obtain ⟨bb, oo, hx, _, hq⟩ := (A1H.out.below K2.out.bel).at_ (show k < n1 by omega)
            cases hx
            exact hq
          go_wp2_with fail
          refine (count14 K2.out HL2.out (by rw [HN2.out]; omega)).mono ?_
          rintro e wx ⟨rfl, rfl⟩
          obtain ⟨tw1, tw2, tw⟩ := tw
          obtain ⟨e1, e2, he⟩ : r2 = r ∧ L2 = L1 ∧ eqk (.num (fl k)) (.num (fl k)) = true := by
            rcases tw with ⟨d1, d2, d3, d4, d5⟩ | ⟨d1, d2, d3, d4, d5⟩ | ⟨d1, d2, d3, d4, d5⟩
            · exact ⟨d3, d4, d5⟩
            · omega
            · omega
          subst e1 e2
          have hn : (FloatKind.f64.format.order (fl k) (fl k) != some Ordering.eq) = false := by
            simp only [eqk, Op.floatEq] at he
            rw [bne, he]; rfl
          clear he
          go_wp2
          go_quiet (fail)
          go_wp2
          go_roundw
          case rel => exact ⟨k + 1, cs2, by omega, by go_num, by rw [HN2.out]; omega, Lib.hid (KPost.drewN K2.out _)⟩
          case measure => simp [intOf]; omega

        · obtain ⟨hg1, hg2⟩ : L1 = L + 1 ∧ r = L := by omega
          subst hg1 hg2
          clear hr hg
          go_wp2_with fail
          refine (count14 K1.out HL1.out (by rw [HN1.out]; omega)).mono ?_
          rintro e wx ⟨rfl, rfl⟩
          go_wp2_with fail
          refine C2.out.mono ?_
          rintro e w5 hC
          obtain ⟨r2, cs2, rfl, f2, k2⟩ := hC
          have tw := TW'.out _ _ f2
          have l2 := found_len f2
          have K2 := Lib.hid k2
          rw [HN1.out] at l2
          obtain ⟨L2, hL2⟩ : ∃ L2 : Int, L2 = cs2.length := ⟨_, rfl⟩
          have HL2 := Lib.hid hL2
          obtain ⟨N2, hN2⟩ : ∃ N2 : Nat, cs2.length = N2 := ⟨_, rfl⟩
          have HN2 := Lib.hid hN2
          rw [hN2] at l2
          rw [← hL2] at tw
          clear f2 k2 hL2 hN2
          have q0w5 : w5.cell? ⟨b0, o0 + k, none⟩ = some (.bool true) := by
            obtain ⟨bb, oo, hx, _, hq⟩ := (A0H.out.below K2.out.bel).at_ (show k < n0 by omega)
            cases hx
            rw [HB0.out] at hq; exact hq
          have q1w5 : w5.cell? ⟨b1, o1 + k, none⟩ = some (.float .f64 (fl k)) := by
            obtain ⟨bb, oo, hx, _, hq⟩ := (A1H.out.below K2.out.bel).at_ (show k < n1 by omega)
            cases hx
            exact hq
          go_wp2_with fail
          refine (count14 K2.out HL2.out (by rw [HN2.out]; omega)).mono ?_
          rintro e wx ⟨rfl, rfl⟩
          obtain ⟨tw1, tw2, tw⟩ := tw
          rcases tw with ⟨d1, d2, d3, d4, d5⟩ | ⟨d1, d2, d3, d4, he⟩ | ⟨d1, d2, d3, d4, he⟩
          · omega
          · subst d3 d4
            have hn : (FloatKind.f64.format.order (fl k) (fl k) != some Ordering.eq) = false := by
              simp only [eqk, Op.floatEq] at he
              rw [bne, he]; rfl
            clear he
            go_wp2
            go_quiet (fail)
            go_wp2
            go_roundw
            case rel => exact ⟨k + 1, cs2, by omega, by go_num, by rw [HN2.out]; omega, Lib.hid (KPost.drewN K2.out _)⟩
            case measure => simp [intOf]; omega
          · subst d3 d4
            have hn : (FloatKind.f64.format.order (fl k) (fl k) != some Ordering.eq) = true := by
              simp only [eqk, Op.floatEq] at he
              rw [bne, he]; rfl
            clear he
            go_wp2
            go_quiet (fail)
            go_wp2
            go_roundw
            case rel => exact ⟨k + 1, cs2, by omega, by go_num, by rw [HN2.out]; omega, Lib.hid (KPost.drewN K2.out _)⟩
            case measure => simp [intOf]; omega
    · obtain rfl : k = n2 := by omega
      go_wp2
      go_ret
      exact ⟨rfl, K.out.trans (HK.out.bel.mono K.out.size)⟩
end Go.Proofs.YtpffohonpblfkaaFmt
