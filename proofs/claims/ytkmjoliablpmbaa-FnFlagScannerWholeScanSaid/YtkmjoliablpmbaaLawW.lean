/- For every flag byte, markers and text: the scan delivers what the model by maximal runs says; the walk of the law. -/
import Derived.Test.YtkmjoliablpmbaaWhole
namespace Go.Proofs.Ytkmjoliablpmbaa
set_option linter.unusedVariables false
open Go.RowKit Go.ChangeShapes Go.Deep
def YesW (w : World) (e : Ending) (w' : World) : Prop := e = .returned (.bool true) ∧ Below w.heap.size w w'
set_option maxRecDepth 100000 in
set_option maxHeartbeats 1000000 in
theorem whole_big (fl : UInt8) (st en t : ByteArray) (w : World) (h1 : st.size ≤ maxLen) (h2 : en.size ≤ maxLen) (h3 : t.size ≤ maxLen) (hbig : 4096 < t.size ∨ 4096 < st.size ∨ 4096 < en.size) :
    Calls Try.prog 3 #[.int .u8 fl.toNat, .string st, .string en, .string t] w (YesW w) := by
  have B := bytes5 fl.toNat st en t w h1 h2 h3
  unfold maxLen at h1 h2 h3
  by_cases b1 : 4096 < t.size
  · clear hbig
    go_enter Try.func3, Try.ntmps3
    go_wp2_with fail
    refine B.mono ?_
    rintro e w1 ⟨b, rfl, rfl, hb⟩
    clear B hb
    cases b
    · go_wp2
      go_ret
      exact ⟨rfl, Below.refl _ _⟩
    · go_wp2
      go_ret
      exact ⟨rfl, Below.refl _ _⟩
  · have b1' : t.size ≤ 4096 := by omega
    by_cases b2 : 4096 < st.size
    · clear hbig
      go_enter Try.func3, Try.ntmps3
      go_wp2_with fail
      refine B.mono ?_
      rintro e w1 ⟨b, rfl, rfl, hb⟩
      clear B hb
      cases b
      · go_wp2
        go_ret
        exact ⟨rfl, Below.refl _ _⟩
      · go_wp2
        go_ret
        exact ⟨rfl, Below.refl _ _⟩
    · have b2' : st.size ≤ 4096 := by omega
      have b3 : 4096 < en.size := by omega
      clear hbig
      go_enter Try.func3, Try.ntmps3
      go_wp2_with fail
      refine B.mono ?_
      rintro e w1 ⟨b, rfl, rfl, hb⟩
      clear B hb
      cases b
      · go_wp2
        go_ret
        exact ⟨rfl, Below.refl _ _⟩
      · go_wp2
        go_ret
        exact ⟨rfl, Below.refl _ _⟩
set_option maxRecDepth 100000 in
set_option maxHeartbeats 8000000 in
theorem whole_small (fl : UInt8) (st en t : ByteArray) (w : World) (h1 : st.size ≤ 4096) (h2 : en.size ≤ 4096) (h3 : t.size ≤ 4096) :
    Calls Try.prog 3 #[.int .u8 fl.toNat, .string st, .string en, .string t] w (YesW w) := by
  have B := bytes5 fl.toNat st en t w (by unfold maxLen; omega) (by unfold maxLen; omega) (by unfold maxLen; omega)
  obtain ⟨C1, hC1, hmk1⟩ := or_make (P := Try.prog) 23 5 (.int .u8 0) 1 Try.underlying23 info5 rfl t.size (by omega) (by omega)
  obtain ⟨C2, hC2, hmk2⟩ := or_make (P := Try.prog) 24 4 (.bool false) 1 Try.underlying24 infob rfl t.size (by omega) (by omega)
  have R0 := R3.made w C1 C2 C1 t.size t.size t.size hC1 hC2 hC1 (by omega) (by omega) (by omega) 5 4 5
  have HR0 := Lib.hid R0
  clear hC1 hC2 R0
  go_enter Try.func3, Try.ntmps3
  go_wp2_with fail
  refine B.mono ?_
  rintro e w1 ⟨b, rfl, rfl, hb⟩
  clear B hb
  cases b
  · go_wp2
    go_ret
    exact ⟨rfl, Below.refl _ _⟩
  go_wp2
  go_loopw [10, 11, 12, 13, 14] (fun v10 v11 v12 v13 v14 wr => WS1 w fl st en t v10 v11 v12 v13 v14 wr) (fun _ _ _ _ v _ => t.size - (intOf v).toNat)
  case atStart => exact ⟨0, [], [], false, _, _, _, _, _, _, _, _, _, Nat.zero_le _, rfl, rfl, rfl, rfl, rfl, HR0.out, W1.zero _ _ _ _⟩
  case round =>
    clear HR0 hmk1 hmk2
    obtain ⟨W1, rfl⟩ : ∃ W, W = wr := ⟨wr, rfl⟩
    obtain ⟨i, Z, B, o, g1, n1, c1, g2, n2, c2, g3, n3, c3, hi, rfl, rfl, rfl, rfl, rfl, R, G⟩ := hrel
    have l1 := row_len R.o1
    have l2 := row_len R.o2
    have l3 := row_len R.o3
    rw [bs_len, List.length_map] at l1
    rw [bls_len, List.length_map] at l2
    rw [bs_len] at l3
    have m1 : n1 ≤ i := l1 ▸ G.lz
    have m2 : n2 ≤ i := l2 ▸ G.lz
    have m3 : n3 ≤ 10000 * i := l3 ▸ G.lb
    have L1 := Lib.hid l1
    have L2 := Lib.hid l2
    have L3 := Lib.hid l3
    clear l1 l2 l3
    have HR := Lib.hid R
    have HG := Lib.hid G
    clear R G
    by_cases hit : i < t.size
    · obtain ⟨c, hc⟩ : ∃ c, t[i]'hit = c := ⟨_, rfl⟩
      have D := Lib.hid (drop_at hit)
      rw [hc] at D
      by_cases hcf : c = fl
      · subst hcf
        have HC1 := Lib.hid hc
        go_wp2
        go_loop [15] (fun v15 => WSj c t i v15) (fun v => t.size - (intOf v).toNat)
        case atStart => exact ⟨i, 0, rfl, hi, rfl, rfl⟩
        case round =>
          obtain ⟨j, K, hjK, hj, rfl, hrun⟩ := hrel
          have HRUN := Lib.hid hrun
          clear hrun
          by_cases hjt : j < t.size
          · by_cases hdc : t[j]'hjt = c
            · have DJ := Lib.hid (drop_at hjt)
              rw [hdc] at DJ
              have HJK := Lib.hid hjK
              clear hjK
              go_wp2
              go_round
              case rel => exact ⟨j + 1, K + 1, by rw [HJK.out]; rfl, by omega, by go_num, run_more HRUN.out DJ.out⟩
              case measure => simp [intOf]; omega
            · obtain ⟨d, hd⟩ : ∃ d, t[j]'hjt = d := ⟨_, rfl⟩
              have DJ := Lib.hid (drop_at hjt)
              rw [hd] at DJ hdc
              have hdf : d ≠ c := hdc
              have n5 : ¬ (d.toNat : Int) = c.toNat := fun e => hdf (UInt8.toNat_inj.1 (by omega))
              have n6 : ((d.toNat : Int) == (c.toNat : Int)) = false := beq_eq_false_iff_ne.2 n5
              have njt : (j : Int) < (t.size : Int) := by omega
              clear hdc
              have hK1 : 1 ≤ K := by
                rcases Nat.eq_zero_or_pos K with h0 | h0
                · exfalso
                  have hji : j = i := by omega
                  subst hji
                  exact hdf (hd.symm.trans hc)
                · exact h0
              have HJK := Lib.hid hjK
              have hjk : (j : Int) - (i : Int) = (K : Int) := by omega
              obtain ⟨m, hm⟩ : ∃ m, K / 2 = m := ⟨_, rfl⟩
              have hm2 : (K : Int) / 2 = (m : Int) := by omega
              have hmK : m ≤ K := by omega
              have hKi : i + K ≤ t.size := by omega
              have HM := Lib.hid hm
              clear hjK hm
              go_wp2
              go_loopw [12, 17] (fun v12 v17 wr3 => WSq w c Z B g1 n1 c1 g2 n2 c2 m v12 v17 wr3) (fun _ v _ => m - (intOf v).toNat)
              case atStart => exact ⟨0, g3, n3, c3, Nat.zero_le _, rfl, rfl, by simpa using HR.out⟩
              case round =>
                clear HR
                obtain ⟨q, g4, n4, c4, hq, rfl, rfl, RQ⟩ := hrel
                have m4 : n4 ≤ 10000 * i + q := by
                  have := row_len RQ.o3
                  rw [bs_len, List.length_append, L3.out, List.length_replicate] at this
                  omega
                by_cases hqm : q < m
                · have HQ0 := Lib.hid RQ
                  clear RQ
                  have e3 : Hid (bs (B ++ List.replicate (q + 1) c) = bs (B ++ List.replicate q c) ++ [Value.int .u8 c.toNat]) := Lib.hid (by rw [List.replicate_succ', ← List.append_assoc, bs_app (B ++ List.replicate q c)]; rfl)
                  go_wp2_with (at_builtin; refine wpList_push HQ0.out.rot.rot rfl (.tmp 91) (.tmp 93) 23 rfl Try.underlying23 info5 rfl (.int .u8 c.toNat) rfl rfl rfl (by omega) ?_; intro g' c' w' R'; have HA := Lib.hid R'; clear R')
                  go_roundw
                  case rel => exact ⟨q + 1, _, _, _, by omega, by go_num, rfl, by rw [e3.out]; exact HA.out.rot⟩
                  case measure => simp [intOf]; omega
                · have hMq : K / 2 = m := HM.out
                  have hKm : K = 2 * m + K % 2 := by omega
                  clear hMq
                  obtain rfl : q = m := by omega
                  have HQ0 := Lib.hid RQ
                  clear RQ
                  rcases Nat.mod_two_eq_zero_or_one K with hpar | hpar
                  · have hK2 : K = 2 * q := by omega
                    have hq1 : 0 < q := by omega
                    have u1 : (2 : Int) ≤ (K : Int) := by omega
                    have u2 : (K : Int) % 2 = 0 := by omega
                    have u3 : ((K : Int) % 2 == 1) = false := by rw [u2]; rfl
                    have HN := Lib.hid (HG.out.even (m := q) (j := j) (by rw [← hK2]; exact HJK.out) hq1 (by rw [← hK2]; exact HRUN.out))
                    clear hK2 hpar hKm HG
                    go_wp2
                    go_roundw
                    case rel => exact ⟨j, Z, B ++ List.replicate q c, false, _, _, _, _, _, _, _, _, _, hj, rfl, rfl, rfl, rfl, rfl, HQ0.out, HN.out⟩
                    case measure => simp [intOf]; omega
                  · have hK2 : K = 2 * q + 1 := by omega
                    have u2 : (K : Int) % 2 = 1 := by omega
                    have u3 : ((K : Int) % 2 == 1) = true := by rw [u2]; rfl
                    have hr2 : (L8 t).drop i = List.replicate (2 * q + 1) c ++ (L8 t).drop j := by rw [← hK2]; exact HRUN.out
                    have hj2 : j = i + (2 * q + 1) := by rw [← hK2]; exact HJK.out
                    have HR1 := Lib.hid hr2
                    have HJ2 := Lib.hid hj2
                    clear hr2 hj2
                    by_cases hq0 : q = 0
                    · have u1 : ¬ (2 : Int) ≤ (K : Int) := by omega
                      have u4 : decide ((2 : Int) ≤ (K : Int)) = false := decide_eq_false u1
                      cases o
                      · have HQ1 := Lib.hid hq0
                        clear hq0
                        have HN := Lib.hid (HG.out.opens (m := q) (j := j) HJ2.out hdf HR1.out DJ.out (o' := false) (by rw [if_pos HQ1.out]) (E := []) rfl (by simp [L8]; exact h1) (by simp [L8]; exact h2))
                        have e3 : Hid (bs (B ++ List.replicate q c ++ [] ++ L8 st) = bs (B ++ List.replicate q c) ++ Lib.strCells st) := Lib.hid (by simp [bs_app, bs_str])
                        clear hK2 hpar hKm HG
                        go_wp2_with (first | (at_builtin; refine wpList_push HC.out.rot rfl (.tmp 114) (.tmp 115) 24 rfl Try.underlying24 infob rfl (.bool true) rfl rfl rfl (by omega) ?_; intro g' c' w' R'; have HD := Lib.hid R'; clear R') | (at_builtin; refine wpList_push HB.out.rot rfl (.tmp 110) (.tmp 112) 23 rfl Try.underlying23 info5 rfl (.int .u8 c.toNat) rfl rfl rfl (by omega) ?_; intro g' c' w' R'; have HC := Lib.hid R'; clear R') | (at_builtin; refine wpList_pushS HQ0.out.rot.rot rfl (.tmp 107) (.tmp 108) 23 9 rfl Try.underlying23 Try.underlying9 info5 st rfl rfl (by omega) ?_; intro g' c' w' R'; have HB := Lib.hid R'; clear R'))
                        go_roundw
                        case rel => exact ⟨j, Z ++ [(c, true)], B ++ List.replicate q c ++ [] ++ L8 st, true, _, _, _, _, _, _, _, _, _, hj, rfl, rfl, rfl, rfl, rfl, by rw [List.map_append, List.map_append, bs_app, bls_app, e3.out]; exact HD.out.rot.rot, HN.out⟩
                        case measure => simp [intOf]; omega
                      · have HQ1 := Lib.hid hq0
                        clear hq0
                        have HN := Lib.hid (HG.out.opens (m := q) (j := j) HJ2.out hdf HR1.out DJ.out (o' := true) (by rw [if_pos HQ1.out]) (E := L8 en) rfl (by simp [L8]; exact h1) (by simp [L8]; exact h2))
                        have e3 : Hid (bs (B ++ List.replicate q c ++ L8 en ++ L8 st) = bs (B ++ List.replicate q c) ++ Lib.strCells en ++ Lib.strCells st) := Lib.hid (by simp [bs_app, bs_str])
                        clear hK2 hpar hKm HG
                        go_wp2_with (first | (at_builtin; refine wpList_push HC.out.rot rfl (.tmp 114) (.tmp 115) 24 rfl Try.underlying24 infob rfl (.bool true) rfl rfl rfl (by omega) ?_; intro g' c' w' R'; have HD := Lib.hid R'; clear R') | (at_builtin; refine wpList_push HB.out.rot rfl (.tmp 110) (.tmp 112) 23 rfl Try.underlying23 info5 rfl (.int .u8 c.toNat) rfl rfl rfl (by omega) ?_; intro g' c' w' R'; have HC := Lib.hid R'; clear R') | (at_builtin; refine wpList_pushS HA.out rfl (.tmp 107) (.tmp 108) 23 9 rfl Try.underlying23 Try.underlying9 info5 st rfl rfl (by omega) ?_; intro g' c' w' R'; have HB := Lib.hid R'; clear R') | (at_builtin; refine wpList_pushS HQ0.out.rot.rot rfl (.tmp 104) (.tmp 105) 23 9 rfl Try.underlying23 Try.underlying9 info5 en rfl rfl (by omega) ?_; intro g' c' w' R'; have HA := Lib.hid R'; clear R'))
                        go_roundw
                        case rel => exact ⟨j, Z ++ [(c, true)], B ++ List.replicate q c ++ L8 en ++ L8 st, true, _, _, _, _, _, _, _, _, _, hj, rfl, rfl, rfl, rfl, rfl, by rw [List.map_append, List.map_append, bs_app, bls_app, e3.out]; exact HD.out.rot.rot, HN.out⟩
                        case measure => simp [intOf]; omega
                    · have u1 : (2 : Int) ≤ (K : Int) := by omega
                      have HN := Lib.hid (HG.out.opens (m := q) (j := j) HJ2.out hdf HR1.out DJ.out (o' := false) (by rw [if_neg hq0]) (E := []) rfl (by simp [L8]; exact h1) (by simp [L8]; exact h2))
                      have e3 : Hid (bs (B ++ List.replicate q c ++ [] ++ L8 st) = bs (B ++ List.replicate q c) ++ Lib.strCells st) := Lib.hid (by simp [bs_app, bs_str])
                      clear hK2 hpar hKm HG
                      go_wp2_with (first | (at_builtin; refine wpList_push HC.out.rot rfl (.tmp 114) (.tmp 115) 24 rfl Try.underlying24 infob rfl (.bool true) rfl rfl rfl (by omega) ?_; intro g' c' w' R'; have HD := Lib.hid R'; clear R') | (at_builtin; refine wpList_push HB.out.rot rfl (.tmp 110) (.tmp 112) 23 rfl Try.underlying23 info5 rfl (.int .u8 c.toNat) rfl rfl rfl (by omega) ?_; intro g' c' w' R'; have HC := Lib.hid R'; clear R') | (at_builtin; refine wpList_pushS HQ0.out.rot.rot rfl (.tmp 107) (.tmp 108) 23 9 rfl Try.underlying23 Try.underlying9 info5 st rfl rfl (by omega) ?_; intro g' c' w' R'; have HB := Lib.hid R'; clear R'))
                      go_roundw
                      case rel => exact ⟨j, Z ++ [(c, true)], B ++ List.replicate q c ++ [] ++ L8 st, true, _, _, _, _, _, _, _, _, _, hj, rfl, rfl, rfl, rfl, rfl, by rw [List.map_append, List.map_append, bs_app, bls_app, e3.out]; exact HD.out.rot.rot, HN.out⟩
                      case measure => simp [intOf]; omega
          · have njt : ¬ (j : Int) < (t.size : Int) := by omega
            have hK1 : 1 ≤ K := by
              rcases Nat.eq_zero_or_pos K with h0 | h0
              · exfalso
                have hji : j = i := by omega
                subst hji
                omega
              · exact h0
            have HJK := Lib.hid hjK
            have hjk : (j : Int) - (i : Int) = (K : Int) := by omega
            obtain ⟨m, hm⟩ : ∃ m, K / 2 = m := ⟨_, rfl⟩
            have hm2 : (K : Int) / 2 = (m : Int) := by omega
            have hmK : m ≤ K := by omega
            have hKi : i + K ≤ t.size := by omega
            have HM := Lib.hid hm
            clear hjK hm
            go_wp2
            go_loopw [12, 17] (fun v12 v17 wr3 => WSq w c Z B g1 n1 c1 g2 n2 c2 m v12 v17 wr3) (fun _ v _ => m - (intOf v).toNat)
            case atStart => exact ⟨0, g3, n3, c3, Nat.zero_le _, rfl, rfl, by simpa using HR.out⟩
            case round =>
              clear HR
              obtain ⟨q, g4, n4, c4, hq, rfl, rfl, RQ⟩ := hrel
              have m4 : n4 ≤ 10000 * i + q := by
                have := row_len RQ.o3
                rw [bs_len, List.length_append, L3.out, List.length_replicate] at this
                omega
              by_cases hqm : q < m
              · have HQ0 := Lib.hid RQ
                clear RQ
                have e3 : Hid (bs (B ++ List.replicate (q + 1) c) = bs (B ++ List.replicate q c) ++ [Value.int .u8 c.toNat]) := Lib.hid (by rw [List.replicate_succ', ← List.append_assoc, bs_app (B ++ List.replicate q c)]; rfl)
                go_wp2_with (at_builtin; refine wpList_push HQ0.out.rot.rot rfl (.tmp 91) (.tmp 93) 23 rfl Try.underlying23 info5 rfl (.int .u8 c.toNat) rfl rfl rfl (by omega) ?_; intro g' c' w' R'; have HA := Lib.hid R'; clear R')
                go_roundw
                case rel => exact ⟨q + 1, _, _, _, by omega, by go_num, rfl, by rw [e3.out]; exact HA.out.rot⟩
                case measure => simp [intOf]; omega
              · have hMq : K / 2 = m := HM.out
                have hKm : K = 2 * m + K % 2 := by omega
                clear hMq
                obtain rfl : q = m := by omega
                have HQ0 := Lib.hid RQ
                clear RQ
                rcases Nat.mod_two_eq_zero_or_one K with hpar | hpar
                · have hK2 : K = 2 * q := by omega
                  have hq1 : 0 < q := by omega
                  have u1 : (2 : Int) ≤ (K : Int) := by omega
                  have u2 : (K : Int) % 2 = 0 := by omega
                  have u3 : ((K : Int) % 2 == 1) = false := by rw [u2]; rfl
                  have HN := Lib.hid (HG.out.even (m := q) (j := j) (by rw [← hK2]; exact HJK.out) hq1 (by rw [← hK2]; exact HRUN.out))
                  clear hK2 hpar hKm HG
                  go_wp2
                  go_roundw
                  case rel => exact ⟨j, Z, B ++ List.replicate q c, false, _, _, _, _, _, _, _, _, _, hj, rfl, rfl, rfl, rfl, rfl, HQ0.out, HN.out⟩
                  case measure => simp [intOf]; omega
                · have hK2 : K = 2 * q + 1 := by omega
                  have u2 : (K : Int) % 2 = 1 := by omega
                  have u3 : ((K : Int) % 2 == 1) = true := by rw [u2]; rfl
                  have hr2 : (L8 t).drop i = List.replicate (2 * q + 1) c ++ (L8 t).drop j := by rw [← hK2]; exact HRUN.out
                  have hj2 : j = i + (2 * q + 1) := by rw [← hK2]; exact HJK.out
                  have HR1 := Lib.hid hr2
                  have HJ2 := Lib.hid hj2
                  clear hr2 hj2
                  by_cases hq0 : q = 0
                  · have u1 : ¬ (2 : Int) ≤ (K : Int) := by omega
                    have u4 : decide ((2 : Int) ≤ (K : Int)) = false := decide_eq_false u1
                    have HQ1 := Lib.hid hq0
                    clear hq0
                    have HN := Lib.hid (HG.out.last (m := q) (j := j) HJ2.out HR1.out (drop_end (by omega)) (o' := o) (by rw [if_pos HQ1.out]))
                    clear hK2 hpar hKm HG
                    go_wp2_with (first | (at_builtin; refine wpList_push HC.out.rot rfl (.tmp 121) (.tmp 122) 24 rfl Try.underlying24 infob rfl (.bool false) rfl rfl rfl (by omega) ?_; intro g' c' w' R'; have HD := Lib.hid R'; clear R') | (at_builtin; refine wpList_push HQ0.out rfl (.tmp 117) (.tmp 119) 23 rfl Try.underlying23 info5 rfl (.int .u8 c.toNat) rfl rfl rfl (by omega) ?_; intro g' c' w' R'; have HC := Lib.hid R'; clear R'))
                    go_roundw
                    case rel => exact ⟨j, Z ++ [(c, false)], B ++ List.replicate q c, o, _, _, _, _, _, _, _, _, _, hj, rfl, rfl, rfl, rfl, rfl, by rw [List.map_append, List.map_append, bs_app, bls_app]; exact HD.out.rot.rot, HN.out⟩
                    case measure => simp [intOf]; omega
                  · have u1 : (2 : Int) ≤ (K : Int) := by omega
                    have HN := Lib.hid (HG.out.last (m := q) (j := j) HJ2.out HR1.out (drop_end (by omega)) (o' := false) (by rw [if_neg hq0]))
                    clear hK2 hpar hKm HG
                    go_wp2_with (first | (at_builtin; refine wpList_push HC.out.rot rfl (.tmp 121) (.tmp 122) 24 rfl Try.underlying24 infob rfl (.bool false) rfl rfl rfl (by omega) ?_; intro g' c' w' R'; have HD := Lib.hid R'; clear R') | (at_builtin; refine wpList_push HQ0.out rfl (.tmp 117) (.tmp 119) 23 rfl Try.underlying23 info5 rfl (.int .u8 c.toNat) rfl rfl rfl (by omega) ?_; intro g' c' w' R'; have HC := Lib.hid R'; clear R'))
                    go_roundw
                    case rel => exact ⟨j, Z ++ [(c, false)], B ++ List.replicate q c, false, _, _, _, _, _, _, _, _, _, hj, rfl, rfl, rfl, rfl, rfl, by rw [List.map_append, List.map_append, bs_app, bls_app]; exact HD.out.rot.rot, HN.out⟩
                    case measure => simp [intOf]; omega
      · have n5 : ¬ (c.toNat : Int) = fl.toNat := fun e => hcf (UInt8.toNat_inj.1 (by omega))
        have n6 : ((c.toNat : Int) != (fl.toNat : Int)) = true := by simp [n5]
        go_wp2_with (first | (at_builtin; refine wpList_push HQ.out.rot rfl (.tmp 64) (.tmp 65) 24 rfl Try.underlying24 infob rfl (.bool false) rfl rfl rfl (by omega) ?_; intro g' c' w' R'; have HT := Lib.hid R'; clear R') | (at_builtin; refine wpList_push HR.out rfl (.tmp 58) (.tmp 62) 23 rfl Try.underlying23 info5 rfl (.int .u8 c.toNat) rfl rfl rfl (by omega) ?_; intro g' c' w' R'; have HQ := Lib.hid R'; clear R'))
        go_roundw
        case rel => exact ⟨i + 1, Z ++ [(c, false)], B, o, _, _, _, _, _, _, _, _, _, by omega, by go_num, rfl, rfl, rfl, rfl, by rw [List.map_append, List.map_append, bs_app, bls_app]; exact HT.out.rot.rot, HG.out.plain D.out hcf⟩
        case measure => simp [intOf]; omega
    · have hTn : (L8 t).length ≤ i := by simp [L8]; omega
      cases o
      · have HG2 := Lib.hid (HG.out.done hTn (E := []) rfl)
        have HR2 := Lib.hid (show R3 w W1 5 g1 n1 c1 (bs (Z.map Prod.fst)) 4 g2 n2 c2 (bls (Z.map Prod.snd)) 5 g3 n3 c3 (bs (B ++ [])) from by rw [List.append_nil]; exact HR.out)
        clear HG hTn HR
        go_wp2_with fail
        refine (new6 W1 fl st en t (by omega)).mono ?_
        rintro e w1 ⟨p, rfl, S⟩
        have HS := Lib.hid S
        obtain ⟨k0, k1, k2, k4, k5, k6, k7, k8, z6, z7, z8, lt⟩ := S.cells
        have hst := str7 S
        clear S k0 k1 k2 k4 z6 z7 z8 lt
        go_wp2_with (go_at_call 7; refine hst.mono ?_; rintro e w2 ⟨rfl, rfl⟩)
        clear k5 k6 k7 k8 hst
        go_loopw [19, 20] (fun v19 v20 wr2 => WS2 W1 wr2 p fl st en t Z (B ++ []) false v19 v20) (fun _ v _ => t.size + 1 - (intOf v).toNat)
        case atStart => exact ⟨0, 0, 0, false, false, [], rfl, rfl, Nat.le_refl _, Nat.zero_le _, Nat.le_refl _, Nat.zero_le _, HS.out, HG2.out⟩
        case round =>
          clear HS HG2
          obtain ⟨k, s, pos, has, ch, buf, rfl, rfl, hs, hp, hk, hb, S, G⟩ := hrel
          have HS := Lib.hid S
          have HG := Lib.hid G
          clear S G
          go_wp2_with fail
          refine (next8 (by omega) (by omega) (by omega) (t.size - pos) wr pos has ch buf rfl HS.out hp hb).mono ?_
          intro e w1 hN
          rcases hN with ⟨more, h', hd, rfl, S1⟩ | ⟨c, g, more, q, h', hq1, hq2, himp, hm, hd, rfl, S1⟩
          · obtain ⟨hk2, rfl, hbuf⟩ := HG.out.last hd
            rw [L1.out] at hk2
            subst hk2
            obtain ⟨k0, k1, k2, k4, k5, k6, k7, k8, z6, z7, z8, lt⟩ := S1.cells
            have hcv := row_strq (OR.below HR2.out.o3 S1.bel HR2.out.o3.lt')
            rw [← hbuf] at hcv
            have HS1 := Lib.hid S1
            have HB := Lib.hid (HR2.out.bel.trans (S1.bel.mono HR2.out.bel.size))
            clear hd S1 k0 k1 k2 k4 k5 z6 z7 z8 lt HG HS hb HR2 L1 L2 L3 hs hp hk m1 m2 m3 hbuf
            go_wp2
            go_quiet ((go_at_call 7; exact Calls.quiet_of_same (str7q HS1.out _)))
            go_wp2
            go_ret
            exact ⟨rfl, below_drewN HB.out _⟩
          · obtain ⟨hCk, hDk, G1⟩ := HG.out.next hd
            have hlt : k < n1 := by rw [← L1.out, ← List.length_map (f := Prod.fst)]; exact (List.getElem?_eq_some_iff.1 hCk).1
            have cc := row_at (OR.below HR2.out.o1 S1.bel HR2.out.o1.lt') hCk
            have cd := rowb_at (OR.below HR2.out.o2 S1.bel HR2.out.o2.lt') hDk
            have hlt2 : k < n2 := by rw [← L2.out, ← List.length_map (f := Prod.snd)]; exact (List.getElem?_eq_some_iff.1 hDk).1
            have nlt : ¬ (n1 : Int) ≤ (k : Int) := by omega
            have nltb : decide ((n1 : Int) ≤ (k : Int)) = false := decide_eq_false nlt
            have neq1 : ((c.toNat : Int) != (c.toNat : Int)) = false := by simp
            obtain ⟨k0, k1, k2, k4, k5, k6, k7, k8, z6, z7, z8, lt⟩ := S1.cells
            have HSH := Lib.hid (show ∀ n, WS2 W1 (w1.drewN n) p fl st en t Z (B ++ []) false (.int .i64 ((k + 1 : Nat) : Int)) (.int .i64 ((s + 1 : Nat) : Int)) from fun n => ⟨k + 1, s + 1, q, h', g, buf ++ more, rfl, rfl, by omega, hq2, by omega, by simp; omega, S1.drewN n, G1⟩)
            clear hd himp hCk hDk S1 G1 k0 k1 k2 k4 k5 k6 z6 z7 z8 lt HG HS
            go_wp2
            go_quiet (fail)
            go_wp2
            go_roundw
            case rel => exact HSH.out _
            case measure => simp [intOf]; omega
      · have HG2 := Lib.hid (HG.out.done hTn (E := L8 en) rfl)
        clear HG hTn
        go_wp2_with (at_builtin; refine wpList_pushS HR.out.rot.rot rfl (.tmp 126) (.tmp 127) 23 9 rfl Try.underlying23 Try.underlying9 info5 en rfl rfl (by omega) ?_; intro g4 c4 W2 R'; have HR2 : Hid (R3 w W2 5 g1 n1 c1 (bs (Z.map Prod.fst)) 4 g2 n2 c2 (bls (Z.map Prod.snd)) 5 g4 (n3 + en.size) c4 (bs (B ++ L8 en))) := Lib.hid (by rw [bs_app, ← bs_str]; exact R'.rot); clear R')
        clear HR
        refine (new6 W2 fl st en t (by omega)).mono ?_
        rintro e w1 ⟨p, rfl, S⟩
        have HS := Lib.hid S
        obtain ⟨k0, k1, k2, k4, k5, k6, k7, k8, z6, z7, z8, lt⟩ := S.cells
        have hst := str7 S
        clear S k0 k1 k2 k4 z6 z7 z8 lt
        go_wp2_with (go_at_call 7; refine hst.mono ?_; rintro e w2 ⟨rfl, rfl⟩)
        clear k5 k6 k7 k8 hst
        go_loopw [19, 20] (fun v19 v20 wr2 => WS2 W2 wr2 p fl st en t Z (B ++ L8 en) true v19 v20) (fun _ v _ => t.size + 1 - (intOf v).toNat)
        case atStart => exact ⟨0, 0, 0, false, false, [], rfl, rfl, Nat.le_refl _, Nat.zero_le _, Nat.le_refl _, Nat.zero_le _, HS.out, HG2.out⟩
        case round =>
          clear HS HG2
          obtain ⟨k, s, pos, has, ch, buf, rfl, rfl, hs, hp, hk, hb, S, G⟩ := hrel
          have HS := Lib.hid S
          have HG := Lib.hid G
          clear S G
          go_wp2_with fail
          refine (next8 (by omega) (by omega) (by omega) (t.size - pos) wr pos has ch buf rfl HS.out hp hb).mono ?_
          intro e w1 hN
          rcases hN with ⟨more, h', hd, rfl, S1⟩ | ⟨c, g, more, q, h', hq1, hq2, himp, hm, hd, rfl, S1⟩
          · obtain ⟨hk2, rfl, hbuf⟩ := HG.out.last hd
            rw [L1.out] at hk2
            subst hk2
            obtain ⟨k0, k1, k2, k4, k5, k6, k7, k8, z6, z7, z8, lt⟩ := S1.cells
            have hcv := row_strq (OR.below HR2.out.o3 S1.bel HR2.out.o3.lt')
            rw [← hbuf] at hcv
            have HS1 := Lib.hid S1
            have HB := Lib.hid (HR2.out.bel.trans (S1.bel.mono HR2.out.bel.size))
            clear hd S1 k0 k1 k2 k4 k5 z6 z7 z8 lt HG HS hb HR2 L1 L2 L3 hs hp hk m1 m2 m3 hbuf
            go_wp2
            go_quiet ((go_at_call 7; exact Calls.quiet_of_same (str7q HS1.out _)))
            go_wp2
            go_ret
            exact ⟨rfl, below_drewN HB.out _⟩
          · obtain ⟨hCk, hDk, G1⟩ := HG.out.next hd
            have hlt : k < n1 := by rw [← L1.out, ← List.length_map (f := Prod.fst)]; exact (List.getElem?_eq_some_iff.1 hCk).1
            have cc := row_at (OR.below HR2.out.o1 S1.bel HR2.out.o1.lt') hCk
            have cd := rowb_at (OR.below HR2.out.o2 S1.bel HR2.out.o2.lt') hDk
            have hlt2 : k < n2 := by rw [← L2.out, ← List.length_map (f := Prod.snd)]; exact (List.getElem?_eq_some_iff.1 hDk).1
            have nlt : ¬ (n1 : Int) ≤ (k : Int) := by omega
            have nltb : decide ((n1 : Int) ≤ (k : Int)) = false := decide_eq_false nlt
            have neq1 : ((c.toNat : Int) != (c.toNat : Int)) = false := by simp
            obtain ⟨k0, k1, k2, k4, k5, k6, k7, k8, z6, z7, z8, lt⟩ := S1.cells
            have HSH := Lib.hid (show ∀ n, WS2 W2 (w1.drewN n) p fl st en t Z (B ++ L8 en) true (.int .i64 ((k + 1 : Nat) : Int)) (.int .i64 ((s + 1 : Nat) : Int)) from fun n => ⟨k + 1, s + 1, q, h', g, buf ++ more, rfl, rfl, by omega, hq2, by omega, by simp; omega, S1.drewN n, G1⟩)
            clear hd himp hCk hDk S1 G1 k0 k1 k2 k4 k5 k6 z6 z7 z8 lt HG HS
            go_wp2
            go_quiet (fail)
            go_wp2
            go_roundw
            case rel => exact HSH.out _
            case measure => simp [intOf]; omega
theorem law3 (fl : UInt8) (st en t : ByteArray) (w : World) (h1 : st.size ≤ maxLen) (h2 : en.size ≤ maxLen) (h3 : t.size ≤ maxLen) :
    Calls Try.prog 3 #[.int .u8 fl.toNat, .string st, .string en, .string t] w (YesW w) := by
  by_cases hs : t.size ≤ 4096 ∧ st.size ≤ 4096 ∧ en.size ≤ 4096
  · exact whole_small fl st en t w hs.2.1 hs.2.2 hs.1
  · exact whole_big fl st en t w h1 h2 h3 (by omega)
end Go.Proofs.Ytkmjoliablpmbaa
