/- For every flag byte, markers and text: a text whose every flag is doubled is delivered with its flags removed; the walk of the law. -/
import Derived.Test.YtkmjoliablpmbaaEsc
namespace Go.Proofs.Ytkmjoliablpmbaa
set_option linter.unusedVariables false
open Go.RowKit Go.ChangeShapes Go.Deep
def Yes (w : World) (e : Ending) (w' : World) : Prop := e = .returned (.bool true) ∧ Below w.heap.size w w'
set_option maxRecDepth 100000 in
set_option maxHeartbeats 1000000 in
theorem esc_big (fl : UInt8) (st en t : ByteArray) (w : World) (h1 : st.size ≤ maxLen) (h2 : en.size ≤ maxLen) (h3 : t.size ≤ maxLen) (hbig : 4096 < t.size ∨ 4096 < st.size ∨ 4096 < en.size) :
    Calls Try.prog 4 #[.int .u8 fl.toNat, .string st, .string en, .string t] w (Yes w) := by
  have B := bytes9 fl.toNat st en t w h1 h2 h3
  unfold maxLen at h1 h2 h3
  by_cases b1 : 4096 < t.size
  · clear hbig
    go_enter Try.func4, Try.ntmps4
    go_wp2_with fail
    refine B.mono ?_
    rintro e w1 ⟨b, rfl, rfl, hb⟩
    clear B hb
    cases b
    · go_wp2
      go_ret
      exact ⟨rfl, Below.refl _ _⟩
    · go_wp2
      go_ret
      exact ⟨rfl, Below.refl _ _⟩
  · have b1' : t.size ≤ 4096 := by omega
    by_cases b2 : 4096 < st.size
    · clear hbig
      go_enter Try.func4, Try.ntmps4
      go_wp2_with fail
      refine B.mono ?_
      rintro e w1 ⟨b, rfl, rfl, hb⟩
      clear B hb
      cases b
      · go_wp2
        go_ret
        exact ⟨rfl, Below.refl _ _⟩
      · go_wp2
        go_ret
        exact ⟨rfl, Below.refl _ _⟩
    · have b2' : st.size ≤ 4096 := by omega
      have b3 : 4096 < en.size := by omega
      clear hbig
      go_enter Try.func4, Try.ntmps4
      go_wp2_with fail
      refine B.mono ?_
      rintro e w1 ⟨b, rfl, rfl, hb⟩
      clear B hb
      cases b
      · go_wp2
        go_ret
        exact ⟨rfl, Below.refl _ _⟩
      · go_wp2
        go_ret
        exact ⟨rfl, Below.refl _ _⟩
theorem infob : (Try.prog.info? 4).map (fun i => (i.zero, i.size, i.bytes)) = some (some (.bool false), 1, 1) := by kernel_rfl
set_option maxRecDepth 100000 in
set_option maxHeartbeats 4000000 in
theorem esc_small (fl : UInt8) (st en t : ByteArray) (w : World) (h1 : st.size ≤ 4096) (h2 : en.size ≤ 4096) (h3 : t.size ≤ 4096) :
    Calls Try.prog 4 #[.int .u8 fl.toNat, .string st, .string en, .string t] w (Yes w) := by
  have B := bytes9 fl.toNat st en t w (by unfold maxLen; omega) (by unfold maxLen; omega) (by unfold maxLen; omega)
  obtain ⟨C1, hC1, hmk1⟩ := or_make (P := Try.prog) 23 5 (.int .u8 0) 1 Try.underlying23 info5 rfl (2 * t.size) (by omega) (by omega)
  obtain ⟨C2, hC2, hmk2⟩ := or_make (P := Try.prog) 23 5 (.int .u8 0) 1 Try.underlying23 info5 rfl t.size (by omega) (by omega)
  have R0 := R3.made w C1 C2 C2 (2 * t.size) t.size t.size hC1 hC2 hC2 (by omega) (by omega) (by omega) 5 5 5
  have HR0 := Lib.hid R0
  have q1 : (2 * (t.size : Int)) = ((2 * t.size : Nat) : Int) := by omega
  rw [← q1] at hmk1
  clear hC1 hC2 R0 q1
  go_enter Try.func4, Try.ntmps4
  go_wp2_with fail
  refine B.mono ?_
  rintro e w1 ⟨b, rfl, rfl, hb⟩
  clear B hb
  cases b
  · go_wp2
    go_ret
    exact ⟨rfl, Below.refl _ _⟩
  go_wp2
  go_loopw [9, 10, 11, 12] (fun v9 v10 v11 v12 wr => ES1 w fl t v9 v10 v11 v12 wr) (fun _ _ _ v _ => t.size - (intOf v).toNat)
  case atStart => exact ⟨0, [], [], [], _, _, _, _, _, _, _, _, _, Nat.zero_le _, rfl, rfl, rfl, rfl, HR0.out, G1.zero _ _⟩
  case round =>
    clear HR0 hmk1 hmk2
    obtain ⟨i, E, C, B, g1, n1, c1, g2, n2, c2, g3, n3, c3, hi, rfl, rfl, rfl, rfl, R, G⟩ := hrel
    have l1 := row_len R.o1
    have l2 := row_len R.o2
    have l3 := row_len R.o3
    rw [bs_len] at l1 l2 l3
    have m1 : n1 ≤ 2 * i := l1 ▸ G.le
    have m2 : n2 ≤ i := l2 ▸ G.lc
    have m3 : n3 ≤ i := l3 ▸ G.lb
    clear l1 l2 l3
    have HR := Lib.hid R
    have HG := Lib.hid G
    clear R G
    by_cases hit : i < t.size
    · obtain ⟨c, hc⟩ : ∃ c, t[i]'hit = c := ⟨_, rfl⟩
      have D := Lib.hid (drop_at hit)
      rw [hc] at D
      by_cases hcf : c = fl
      · subst hcf
        go_wp2_with (first | (at_builtin; refine wpList_push HS.out.rot.rot rfl (.tmp 67) (.tmp 69) 23 rfl Try.underlying23 info5 rfl (.int .u8 c.toNat) rfl rfl rfl (by omega) ?_; intro g' c' w' R'; have HT := Lib.hid R'; clear R') | (at_builtin; refine wpList_push HR.out rfl (.tmp 59) (.tmp 61) 23 rfl Try.underlying23 info5 rfl (.int .u8 c.toNat) rfl rfl rfl (by omega) ?_; intro g' c' w' R'; have HQ := Lib.hid R'; clear R') | (at_builtin; refine wpList_push HQ.out rfl (.tmp 63) (.tmp 65) 23 rfl Try.underlying23 info5 rfl (.int .u8 c.toNat) rfl rfl rfl (by omega) ?_; intro g' c' w' R'; have HS := Lib.hid R'; clear R'))
        go_roundw
        case rel => exact ⟨i + 1, E ++ [c] ++ [c], C, B ++ [c], _, _, _, _, _, _, _, _, _, by omega, by go_num, rfl, rfl, rfl, by rw [bs_app, bs_app, bs_app]; exact HT.out.rot, HG.out.flag D.out⟩
        case measure => simp [intOf]; omega
      · have n5 : ¬ (c.toNat : Int) = fl.toNat := fun e => hcf (UInt8.toNat_inj.1 (by omega))
        have n6 : ((c.toNat : Int) == (fl.toNat : Int)) = false := beq_eq_false_iff_ne.2 n5
        go_wp2_with (first | (at_builtin; refine wpList_push HQ.out.rot rfl (.tmp 77) (.tmp 81) 23 rfl Try.underlying23 info5 rfl (.int .u8 c.toNat) rfl rfl rfl (by omega) ?_; intro g' c' w' R'; have HT := Lib.hid R'; clear R') | (at_builtin; refine wpList_push HR.out rfl (.tmp 71) (.tmp 75) 23 rfl Try.underlying23 info5 rfl (.int .u8 c.toNat) rfl rfl rfl (by omega) ?_; intro g' c' w' R'; have HQ := Lib.hid R'; clear R'))
        go_roundw
        case rel => exact ⟨i + 1, E ++ [c], C ++ [c], B, _, _, _, _, _, _, _, _, _, by omega, by go_num, rfl, rfl, rfl, by rw [bs_app, bs_app]; exact HT.out.rot.rot, HG.out.other D.out hcf⟩
        case measure => simp [intOf]; omega
    · obtain ⟨W1, rfl⟩ : ∃ W, W = wr := ⟨wr, rfl⟩
      obtain ⟨es, hes⟩ : ∃ es : ByteArray, es = ⟨E.toArray⟩ := ⟨_, rfl⟩
      have HCV := Lib.hid (row_str HR.out.o1)
      rw [← hes] at HCV
      have G := HG.out.done (by simp; omega) (L8 st) (L8 en)
      have hE : E = L8 es := by rw [hes]
      have hsz : es.size ≤ 8192 := by
        have h1 := HG.out.le
        have h2 : es.size = E.length := by rw [hes]; rfl
        omega
      have hC2 : C.length = n2 := by rw [← row_len HR.out.o2, bs_len]
      rw [hE] at G
      have HG2 := Lib.hid G
      have HC2 := Lib.hid hC2
      clear hes hE G hC2 HG
      have hcv := HCV.out
      clear HCV
      go_wp2_with fail
      clear hcv
      refine (new6 W1 fl st en es (by omega)).mono ?_
      rintro e w1 ⟨p, rfl, S⟩
      have HS := Lib.hid S
      clear S
      go_wp2
      go_loopw [15, 16] (fun v15 v16 wr2 => ES2 W1 wr2 p fl st en es C B v15 v16) (fun _ v _ => es.size + 1 - (intOf v).toNat)
      case atStart => exact ⟨0, 0, 0, false, [], rfl, rfl, Nat.le_refl _, Nat.zero_le _, Nat.le_refl _, Nat.zero_le _, HS.out, HG2.out⟩
      case round =>
        clear HS HG2
        obtain ⟨k, s, pos, ch, buf, rfl, rfl, hs, hp, hk, hb, S, G⟩ := hrel
        have HS := Lib.hid S
        have HG := Lib.hid G
        clear S G
        go_wp2_with fail
        refine (next8 (by omega) (by omega) hsz (es.size - pos) wr pos false ch buf rfl HS.out hp hb).mono ?_
        intro e w1 hN
        rcases hN with ⟨more, h', hd, rfl, S1⟩ | ⟨c, g, more, q, h', hq1, hq2, himp, hm, hd, rfl, S1⟩
        · obtain ⟨hk2, rfl, hbuf⟩ := HG.out.last hd
          rw [HC2.out] at hk2
          subst hk2
          subst hbuf
          obtain ⟨k0, k1, k2, k4, k5, k6, k7, k8, z6, z7, z8, lt⟩ := S1.cells
          have hcv := row_strq (OR.below HR.out.o3 S1.bel HR.out.o3.lt')
          have HS1 := Lib.hid S1
          have HB := Lib.hid (HR.out.bel.trans (S1.bel.mono HR.out.bel.size))
          clear hd S1 k0 k1 k2 k4 k5 z6 z7 z8 lt HG HS hsz hb HR HC2 hs hp hk m1 m2 m3
          go_wp2
          go_quiet ((go_at_call 7; exact Calls.quiet_of_same (str7q HS1.out _)))
          go_wp2
          go_ret
          exact ⟨rfl, below_drewN HB.out _⟩
        · obtain ⟨rfl, rfl, hCk, G1⟩ := HG.out.next hd himp
          have hlt : k < n2 := by rw [← HC2.out]; exact (List.getElem?_eq_some_iff.1 hCk).1
          have cc := row_at (OR.below HR.out.o2 S1.bel HR.out.o2.lt') hCk
          have nlt : ¬ (n2 : Int) ≤ (k : Int) := by omega
          obtain ⟨k0, k1, k2, k4, k5, k6, k7, k8, z6, z7, z8, lt⟩ := S1.cells
          have HS1 := Lib.hid S1
          have HG1 := Lib.hid G1
          have HSH := Lib.hid (show ES2 W1 w1 p fl st en es C B (.int .i64 ((k + 1 : Nat) : Int)) (.int .i64 ((s + 1 : Nat) : Int)) from ⟨k + 1, s + 1, q, false, buf ++ more, rfl, rfl, by omega, hq2, by omega, by simp; omega, S1, G1⟩)
          clear hd himp hCk S1 G1 k0 k1 k2 k4 k5 k6 z6 z7 z8 lt HG HS HS1 HG1
          go_wp2
          go_roundw
          case rel => exact HSH.out
          case measure => simp [intOf]; omega
theorem law4 (fl : UInt8) (st en t : ByteArray) (w : World) (h1 : st.size ≤ maxLen) (h2 : en.size ≤ maxLen) (h3 : t.size ≤ maxLen) :
    Calls Try.prog 4 #[.int .u8 fl.toNat, .string st, .string en, .string t] w (Yes w) := by
  by_cases hs : t.size ≤ 4096 ∧ st.size ≤ 4096 ∧ en.size ≤ 4096
  · exact esc_small fl st en t w hs.2.1 hs.2.2 hs.1
  · exact esc_big fl st en t w h1 h2 h3 (by omega)
end Go.Proofs.Ytkmjoliablpmbaa
