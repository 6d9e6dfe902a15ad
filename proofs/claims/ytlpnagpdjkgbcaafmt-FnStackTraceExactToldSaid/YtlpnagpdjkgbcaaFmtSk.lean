/- The law's model of where(level, true), walked; and its position text. -/
import Derived.Test.YtlpnagpdjkgbcaaFmtWm
namespace Go.Proofs.YtlpnagpdjkgbcaaFmt
set_option linter.unusedVariables false
open Go.RowKit Go.ChangeShapes Go.Deep Go.Extern.Stop Go.Stop Go.Extern Go.Kit
theorem app_list (a : List UInt8) (b : ByteArray) : (⟨a.toArray⟩ : ByteArray) ++ b = ⟨(a ++ b.data.toList).toArray⟩ := by
  apply bytes_ext
  simp [ByteArray.data_append]
set_option maxHeartbeats 1000000 in
theorem text23 (A : Option Addr) (n c k : Nat) (z : Nat → FR) (src : ByteArray) (w : World) (ha : Fms w A n c z) (hk : k < n) (hs : src.size ≤ 65536) (hl : (Lit.int .i64 (z k).line).wf = true) :
    Calls Tryf.prog 23 #[.slice A n c, .int .i64 k, .string src] w (WPost (wtext (z k) src) w) := by
  obtain ⟨b, off, hx, hlt, c0, c1, c2, c3, c4⟩ := ha.at_ hk
  subst hx
  cases hg : (z k).g
  · rw [hg] at c0
    have HG := Lib.hid hg
    have HL := Lib.hid hl
    have q1 : ¬ 9223372036854775807 < src.size + 1 := by omega
    clear hg ha hl
    go_enter Tryf.func23, Tryf.ntmps23
    go_wp2_with fail
    refine (itoa_any _ HL.out _).mono ?_
    rintro e w1 ⟨S, rfl, hS, hb⟩
    have sz : S.size ≤ 21 := by rw [hS]; exact FmtText.itoa_length_le HL.out
    have HS := Lib.hid hS
    have HB := Lib.hid hb
    have q2 : ¬ 9223372036854775807 < src.size + 1 + S.size := by omega
    have q3 : ¬ 9223372036854775807 < src.size + 1 + S.size + 1 := by omega
    clear hS hb
    go_wp2
    go_ret
    refine ⟨congrArg (fun t => Ending.returned (.string t)) (bytes_ext ?_), HB.out⟩
    rw [HS.out, wtext, if_neg (by rw [HG.out]; simp)]
    simp [ByteArray.data_append]
  · rw [hg] at c0
    have HG := Lib.hid hg
    clear hg ha
    go_enter Tryf.func23, Tryf.ntmps23
    go_wp2
    go_ret
    exact ⟨by rw [wtext, if_pos HG.out]; rfl, Below.refl _ _⟩
/-- The state at the head of the model's loop. -/
def MS (w0 : World) (z : Nat → FR) (n : Nat) (src : ByteArray) (T : List UInt8) (v1 v9 v10 : Value) (w : World) : Prop :=
  ∃ (j : Nat) (l P : Int), j ≤ n ∧ v10 = .int .i64 ((j : Int) - 1) ∧ v1 = .int .i64 l ∧ v9 = .int .i64 P ∧ 0 ≤ P ∧ P ≤ 70000 ∧ P ≤ l ∧ l ≤ 9223372036854775807 ∧ Hid (P = pz z n j ∧ wv z n src l = T) ∧ Below w0.heap.size w0 w
theorem pz_le {z : Nat → FR} {n : Nat} {src : ByteArray} (ok : FOK n z src) {j : Nat} (hj : j ≤ n) : pz z n j ≤ 69632 := by
  have h1 := ok.hn
  have h2 := ok.sum
  have h3 := ts_nonneg ok.tail hj
  unfold pz
  omega
set_option maxRecDepth 100000 in
set_option maxHeartbeats 4000000 in
theorem skip14 (A : Option Addr) (n c : Nat) (z : Nat → FR) (src : ByteArray) (l0 : Int) (w : World) (ha : Fms w A n c z) (ok : FOK n z src) (hl : ∀ i, i < n → (Lit.int .i64 (z i).line).wf = true) (h1 : -70000 ≤ l0) (h2 : l0 ≤ 9223372036854775807) :
    Calls Tryf.prog 14 #[.slice A n c, .int .i64 l0, .string src] w (WPost (wv z n src l0) w) := by
  have hs := ok.hs
  have hn := ok.hn
  have OK := Lib.hid ok
  have HL := Lib.hid hl
  have HA := Lib.hid ha
  clear ok hl
  by_cases hn0 : n = 0
  · subst hn0
    have HW : Hid (wv z 0 src l0 = []) := by
      refine Lib.hid ?_
      refine wv_none ?_
      rw [gs]
      simp
    clear ha
    go_enter Tryf.func14, Tryf.ntmps14
    go_wp2
    go_ret
    exact ⟨by rw [HW.out]; rfl, Below.refl _ _⟩
  · have hnp : 0 < n := by omega
    have hn1 : ¬ (n : Int) = 0 := by omega
    have hn2 : ((n : Int) == 0) = false := by simp; omega
    obtain ⟨b, off, hx, hlt, c0, c1, c2, c3, c4⟩ := ha.at_ hnp
    simp only [Nat.zero_mul, Nat.add_zero] at c0 c1 c2 c3 c4
    have HX := Lib.hid hx
    subst hx
    clear c1 c2 c3 c4 ha hn0
    obtain ⟨bg, hbg⟩ : ∃ bg, (z 0).g = bg := ⟨_, rfl⟩
    rw [hbg] at c0
    have HBG := Lib.hid hbg
    have t0 := fun w' (hb : Below w.heap.size w w') => text23 _ n c 0 z src w' (HA.out.below hb) hnp hs (HL.out 0 hnp)
    by_cases hneg : l0 < 0
    · cases bg
      · have HW : Hid (wv z n src l0 = wtext (z 0) src) := Lib.hid (wv_lua OK.out.tail (gs_neg hneg hnp) HBG.out)
        have t := t0 w (Below.refl _ _)
        clear t0 hbg
        go_enter Tryf.func14, Tryf.ntmps14
        go_wp2_with fail
        refine t.mono ?_
        clear t
        rintro e w1 ⟨rfl, hb⟩
        have HB := Lib.hid hb
        clear hb
        go_wp2
        go_ret
        exact ⟨by rw [HW.out]; rfl, HB.out⟩
      · have HW : Hid (wv z n src l0 = wv z n src 0) := Lib.hid (wv_neg OK.out.tail hnp hneg HBG.out)
        clear hbg
        go_enter Tryf.func14, Tryf.ntmps14
        go_wp2
        go_loopw [1, 9, 10, 11] (fun v1 v9 v10 v11 wr => MS w z n src (wv z n src l0) v1 v9 v10 wr) (fun _ _ v _ _ => (intOf v + 1).toNat)
        case atStart => exact ⟨n, 0, 0, Nat.le_refl _, rfl, rfl, rfl, by omega, by omega, by omega, by omega, Lib.hid ⟨pz_top.symm, HW.out.symm⟩, Below.refl _ _⟩
        case round =>
          obtain ⟨j, l, P, hj, rfl, rfl, rfl, p0, p1, pl, l1, HP, hb⟩ := hrel
          have HB := Lib.hid hb
          clear hb
          cases j with
          | zero =>
            have hj0 : ((0 : Nat) : Int) - 1 = -1 := by omega
            rw [hj0]
            clear hj0
            have HE : Hid (wv z n src l0 = []) := Lib.hid (by rw [← HP.out.2]; exact wv_none (gs_end OK.out.tail (by rw [← HP.out.1]; exact pl)))
            clear t0
            go_wp2
            go_ret
            exact ⟨by rw [HE.out]; rfl, HB.out⟩
          | succ j =>
            have hj1 : ((j + 1 : Nat) : Int) - 1 = (j : Int) := by omega
            rw [hj1]
            clear hj1
            have hjn : j < n := by omega
            have hz0 := (OK.out.tail j hjn).1
            have hz1 := (OK.out.tail j hjn).2
            have hps := pz_step (z := z) (n := n) j
            have hpl := pz_le OK.out (j := j) (by omega)
            have HN : Hid (P + 1 + zt (z j) = pz z n j) := Lib.hid (by rw [hps, HP.out.1])
            have hN2 : P + 1 + zt (z j) ≤ 70000 := by rw [HN.out]; omega
            clear hps hpl
            obtain ⟨b', off', hx', hlt', e0, e1, e2, e3, e4⟩ := (HA.out.below HB.out).at_ hjn
            injection hx' with hx'
            injection hx' with hx' hx''
            subst hx' hx''
            have hB1 : Below w.heap.size w (wr.alloc (.cells #[.bool (z j).g, .int .i64 (z j).line, .int .i64 (z j).tail, .string (z j).name, .int .i64 (z j).pc] 36)) := HB.out.alloc HB.out.size _
            have HB1 := Lib.hid hB1
            have ht := tail19 (z j) wr
            have tj := text23 _ n c j z src (wr.alloc (.cells #[.bool (z j).g, .int .i64 (z j).line, .int .i64 (z j).tail, .string (z j).name, .int .i64 (z j).pc] 36)) (HA.out.below hB1) hjn hs (HL.out j hjn)
            have tz := t0 (wr.alloc (.cells #[.bool (z j).g, .int .i64 (z j).line, .int .i64 (z j).tail, .string (z j).name, .int .i64 (z j).pc] 36)) hB1
            have hcell0 := (hB1.cell (p := ⟨b, off, none⟩) hlt).trans c0
            have hcellj := (((Below.refl wr.heap.size wr).alloc (Nat.le_refl _) (.cells #[.bool (z j).g, .int .i64 (z j).line, .int .i64 (z j).tail, .string (z j).name, .int .i64 (z j).pc] 36)).cell (p := ⟨b, off + j * 5, none⟩) hlt').trans e0
            clear t0 hB1
            go_wp2_with fail
            refine ht.mono ?_
            clear ht e0 e1 e2 e3 e4
            rintro e w3 ⟨rfl, rfl⟩
            generalize (wr.alloc (.cells #[.bool (z j).g, .int .i64 (z j).line, .int .i64 (z j).tail, .string (z j).name, .int .i64 (z j).pc] 36)) = W3 at *
            obtain ⟨gj, hgj⟩ : ∃ gj, (z j).g = gj := ⟨_, rfl⟩
            rw [hgj] at hcellj
            have HGJ := Lib.hid hgj
            clear hgj
            by_cases q1 : l < P + 1 + zt (z j)
            · by_cases q2 : l = P
              · have q3 : (l == P) = true := by simp [q2]
                have HQ2 := Lib.hid q2
                have HG := Lib.hid (show gs z n n l = some j from by rw [q2, HP.out.1]; exact gs_at OK.out.tail hjn)
                clear q2
                cases gj
                · have HE : Hid (wv z n src l0 = wtext (z j) src) := Lib.hid (by rw [← HP.out.2]; exact wv_lua OK.out.tail HG.out HGJ.out)
                  clear tz
                  go_wp2_with fail
                  refine tj.mono ?_
                  clear tj
                  rintro e w4 ⟨rfl, hb4⟩
                  have HB4 := Lib.hid (HB1.out.trans (hb4.mono HB1.out.size))
                  clear hb4
                  go_wp2
                  go_ret
                  exact ⟨by rw [HE.out]; rfl, HB4.out⟩
                · have HZ : Hid (zt (z j) = 0) := Lib.hid (by simp [zt, HGJ.out])
                  have HE : Hid (wv z n src (P + 1 + zt (z j)) = wv z n src l0) := Lib.hid (by rw [← HP.out.2, wv_g OK.out.tail HG.out HGJ.out, HZ.out, HQ2.out]; simp)
                  clear tz tj
                  go_wp2
                  go_roundw
                  case rel => exact ⟨j, _, _, by omega, rfl, rfl, rfl, by omega, hN2, by omega, by omega, Lib.hid ⟨HN.out, HE.out⟩, HB1.out⟩
                  case measure => simp [intOf] <;> omega
              · have q3 : (l == P) = false := by simp [q2]
                have q4 : P < l := by omega
                have HE : Hid (wv z n src (P + 1 + zt (z j)) = wv z n src l0) := Lib.hid (by rw [← HP.out.2, HN.out]; exact (wv_gap OK.out.tail hjn (by rw [← HP.out.1]; exact q4) (by rw [← HN.out]; exact q1) HBG.out).symm)
                clear tz tj
                go_wp2
                go_roundw
                case rel => exact ⟨j, _, _, by omega, rfl, rfl, rfl, by omega, hN2, by omega, by omega, Lib.hid ⟨HN.out, HE.out⟩, HB1.out⟩
                case measure => simp [intOf] <;> omega
            · clear tz tj
              go_wp2
              go_roundw
              case rel => exact ⟨j, _, _, by omega, rfl, rfl, rfl, by omega, hN2, by omega, by omega, Lib.hid ⟨HN.out, HP.out.2⟩, HB1.out⟩
              case measure => simp [intOf] <;> omega
    · have hneg' : 0 ≤ l0 := by omega
      clear hbg
      cases bg
      · have hdummy : True := trivial
        go_enter Tryf.func14, Tryf.ntmps14
        go_wp2
        go_loopw [1, 9, 10, 11] (fun v1 v9 v10 v11 wr => MS w z n src (wv z n src l0) v1 v9 v10 wr) (fun _ _ v _ _ => (intOf v + 1).toNat)
        case atStart => exact ⟨n, l0, 0, Nat.le_refl _, rfl, rfl, rfl, by omega, by omega, by omega, by omega, Lib.hid ⟨pz_top.symm, rfl⟩, Below.refl _ _⟩
        case round =>
          obtain ⟨j, l, P, hj, rfl, rfl, rfl, p0, p1, pl, l1, HP, hb⟩ := hrel
          have HB := Lib.hid hb
          clear hb
          cases j with
          | zero =>
            have hj0 : ((0 : Nat) : Int) - 1 = -1 := by omega
            rw [hj0]
            clear hj0
            have HE : Hid (wv z n src l0 = []) := Lib.hid (by rw [← HP.out.2]; exact wv_none (gs_end OK.out.tail (by rw [← HP.out.1]; exact pl)))
            clear t0
            go_wp2
            go_ret
            exact ⟨by rw [HE.out]; rfl, HB.out⟩
          | succ j =>
            have hj1 : ((j + 1 : Nat) : Int) - 1 = (j : Int) := by omega
            rw [hj1]
            clear hj1
            have hjn : j < n := by omega
            have hz0 := (OK.out.tail j hjn).1
            have hz1 := (OK.out.tail j hjn).2
            have hps := pz_step (z := z) (n := n) j
            have hpl := pz_le OK.out (j := j) (by omega)
            have HN : Hid (P + 1 + zt (z j) = pz z n j) := Lib.hid (by rw [hps, HP.out.1])
            have hN2 : P + 1 + zt (z j) ≤ 70000 := by rw [HN.out]; omega
            clear hps hpl
            obtain ⟨b', off', hx', hlt', e0, e1, e2, e3, e4⟩ := (HA.out.below HB.out).at_ hjn
            injection hx' with hx'
            injection hx' with hx' hx''
            subst hx' hx''
            have hB1 : Below w.heap.size w (wr.alloc (.cells #[.bool (z j).g, .int .i64 (z j).line, .int .i64 (z j).tail, .string (z j).name, .int .i64 (z j).pc] 36)) := HB.out.alloc HB.out.size _
            have HB1 := Lib.hid hB1
            have ht := tail19 (z j) wr
            have tj := text23 _ n c j z src (wr.alloc (.cells #[.bool (z j).g, .int .i64 (z j).line, .int .i64 (z j).tail, .string (z j).name, .int .i64 (z j).pc] 36)) (HA.out.below hB1) hjn hs (HL.out j hjn)
            have tz := t0 (wr.alloc (.cells #[.bool (z j).g, .int .i64 (z j).line, .int .i64 (z j).tail, .string (z j).name, .int .i64 (z j).pc] 36)) hB1
            have hcell0 := (hB1.cell (p := ⟨b, off, none⟩) hlt).trans c0
            have hcellj := (((Below.refl wr.heap.size wr).alloc (Nat.le_refl _) (.cells #[.bool (z j).g, .int .i64 (z j).line, .int .i64 (z j).tail, .string (z j).name, .int .i64 (z j).pc] 36)).cell (p := ⟨b, off + j * 5, none⟩) hlt').trans e0
            clear t0 hB1
            go_wp2_with fail
            refine ht.mono ?_
            clear ht e0 e1 e2 e3 e4
            rintro e w3 ⟨rfl, rfl⟩
            generalize (wr.alloc (.cells #[.bool (z j).g, .int .i64 (z j).line, .int .i64 (z j).tail, .string (z j).name, .int .i64 (z j).pc] 36)) = W3 at *
            obtain ⟨gj, hgj⟩ : ∃ gj, (z j).g = gj := ⟨_, rfl⟩
            rw [hgj] at hcellj
            have HGJ := Lib.hid hgj
            clear hgj
            by_cases q1 : l < P + 1 + zt (z j)
            · by_cases q2 : l = P
              · have q3 : (l == P) = true := by simp [q2]
                have HQ2 := Lib.hid q2
                have HG := Lib.hid (show gs z n n l = some j from by rw [q2, HP.out.1]; exact gs_at OK.out.tail hjn)
                clear q2
                cases gj
                · have HE : Hid (wv z n src l0 = wtext (z j) src) := Lib.hid (by rw [← HP.out.2]; exact wv_lua OK.out.tail HG.out HGJ.out)
                  clear tz
                  go_wp2_with fail
                  refine tj.mono ?_
                  clear tj
                  rintro e w4 ⟨rfl, hb4⟩
                  have HB4 := Lib.hid (HB1.out.trans (hb4.mono HB1.out.size))
                  clear hb4
                  go_wp2
                  go_ret
                  exact ⟨by rw [HE.out]; rfl, HB4.out⟩
                · have HZ : Hid (zt (z j) = 0) := Lib.hid (by simp [zt, HGJ.out])
                  have HE : Hid (wv z n src (P + 1 + zt (z j)) = wv z n src l0) := Lib.hid (by rw [← HP.out.2, wv_g OK.out.tail HG.out HGJ.out, HZ.out, HQ2.out]; simp)
                  clear tz tj
                  go_wp2
                  go_roundw
                  case rel => exact ⟨j, _, _, by omega, rfl, rfl, rfl, by omega, hN2, by omega, by omega, Lib.hid ⟨HN.out, HE.out⟩, HB1.out⟩
                  case measure => simp [intOf] <;> omega
              · have q3 : (l == P) = false := by simp [q2]
                have q4 : P < l := by omega
                have HE : Hid (wv z n src l0 = wtext (z 0) src) := Lib.hid (by rw [← HP.out.2]; exact wv_lua OK.out.tail (gs_gap OK.out.tail hjn (by rw [← HP.out.1]; exact q4) (by rw [← HN.out]; exact q1)) HBG.out)
                clear tj
                go_wp2_with fail
                refine tz.mono ?_
                clear tz
                rintro e w4 ⟨rfl, hb4⟩
                have HB4 := Lib.hid (HB1.out.trans (hb4.mono HB1.out.size))
                clear hb4
                go_wp2
                go_ret
                exact ⟨by rw [HE.out]; rfl, HB4.out⟩
            · clear tz tj
              go_wp2
              go_roundw
              case rel => exact ⟨j, _, _, by omega, rfl, rfl, rfl, by omega, hN2, by omega, by omega, Lib.hid ⟨HN.out, HP.out.2⟩, HB1.out⟩
              case measure => simp [intOf] <;> omega
      · have hdummy : True := trivial
        go_enter Tryf.func14, Tryf.ntmps14
        go_wp2
        go_loopw [1, 9, 10, 11] (fun v1 v9 v10 v11 wr => MS w z n src (wv z n src l0) v1 v9 v10 wr) (fun _ _ v _ _ => (intOf v + 1).toNat)
        case atStart => exact ⟨n, l0, 0, Nat.le_refl _, rfl, rfl, rfl, by omega, by omega, by omega, by omega, Lib.hid ⟨pz_top.symm, rfl⟩, Below.refl _ _⟩
        case round =>
          obtain ⟨j, l, P, hj, rfl, rfl, rfl, p0, p1, pl, l1, HP, hb⟩ := hrel
          have HB := Lib.hid hb
          clear hb
          cases j with
          | zero =>
            have hj0 : ((0 : Nat) : Int) - 1 = -1 := by omega
            rw [hj0]
            clear hj0
            have HE : Hid (wv z n src l0 = []) := Lib.hid (by rw [← HP.out.2]; exact wv_none (gs_end OK.out.tail (by rw [← HP.out.1]; exact pl)))
            clear t0
            go_wp2
            go_ret
            exact ⟨by rw [HE.out]; rfl, HB.out⟩
          | succ j =>
            have hj1 : ((j + 1 : Nat) : Int) - 1 = (j : Int) := by omega
            rw [hj1]
            clear hj1
            have hjn : j < n := by omega
            have hz0 := (OK.out.tail j hjn).1
            have hz1 := (OK.out.tail j hjn).2
            have hps := pz_step (z := z) (n := n) j
            have hpl := pz_le OK.out (j := j) (by omega)
            have HN : Hid (P + 1 + zt (z j) = pz z n j) := Lib.hid (by rw [hps, HP.out.1])
            have hN2 : P + 1 + zt (z j) ≤ 70000 := by rw [HN.out]; omega
            clear hps hpl
            obtain ⟨b', off', hx', hlt', e0, e1, e2, e3, e4⟩ := (HA.out.below HB.out).at_ hjn
            injection hx' with hx'
            injection hx' with hx' hx''
            subst hx' hx''
            have hB1 : Below w.heap.size w (wr.alloc (.cells #[.bool (z j).g, .int .i64 (z j).line, .int .i64 (z j).tail, .string (z j).name, .int .i64 (z j).pc] 36)) := HB.out.alloc HB.out.size _
            have HB1 := Lib.hid hB1
            have ht := tail19 (z j) wr
            have tj := text23 _ n c j z src (wr.alloc (.cells #[.bool (z j).g, .int .i64 (z j).line, .int .i64 (z j).tail, .string (z j).name, .int .i64 (z j).pc] 36)) (HA.out.below hB1) hjn hs (HL.out j hjn)
            have tz := t0 (wr.alloc (.cells #[.bool (z j).g, .int .i64 (z j).line, .int .i64 (z j).tail, .string (z j).name, .int .i64 (z j).pc] 36)) hB1
            have hcell0 := (hB1.cell (p := ⟨b, off, none⟩) hlt).trans c0
            have hcellj := (((Below.refl wr.heap.size wr).alloc (Nat.le_refl _) (.cells #[.bool (z j).g, .int .i64 (z j).line, .int .i64 (z j).tail, .string (z j).name, .int .i64 (z j).pc] 36)).cell (p := ⟨b, off + j * 5, none⟩) hlt').trans e0
            clear t0 hB1
            go_wp2_with fail
            refine ht.mono ?_
            clear ht e0 e1 e2 e3 e4
            rintro e w3 ⟨rfl, rfl⟩
            generalize (wr.alloc (.cells #[.bool (z j).g, .int .i64 (z j).line, .int .i64 (z j).tail, .string (z j).name, .int .i64 (z j).pc] 36)) = W3 at *
            obtain ⟨gj, hgj⟩ : ∃ gj, (z j).g = gj := ⟨_, rfl⟩
            rw [hgj] at hcellj
            have HGJ := Lib.hid hgj
            clear hgj
            by_cases q1 : l < P + 1 + zt (z j)
            · by_cases q2 : l = P
              · have q3 : (l == P) = true := by simp [q2]
                have HQ2 := Lib.hid q2
                have HG := Lib.hid (show gs z n n l = some j from by rw [q2, HP.out.1]; exact gs_at OK.out.tail hjn)
                clear q2
                cases gj
                · have HE : Hid (wv z n src l0 = wtext (z j) src) := Lib.hid (by rw [← HP.out.2]; exact wv_lua OK.out.tail HG.out HGJ.out)
                  clear tz
                  go_wp2_with fail
                  refine tj.mono ?_
                  clear tj
                  rintro e w4 ⟨rfl, hb4⟩
                  have HB4 := Lib.hid (HB1.out.trans (hb4.mono HB1.out.size))
                  clear hb4
                  go_wp2
                  go_ret
                  exact ⟨by rw [HE.out]; rfl, HB4.out⟩
                · have HZ : Hid (zt (z j) = 0) := Lib.hid (by simp [zt, HGJ.out])
                  have HE : Hid (wv z n src (P + 1 + zt (z j)) = wv z n src l0) := Lib.hid (by rw [← HP.out.2, wv_g OK.out.tail HG.out HGJ.out, HZ.out, HQ2.out]; simp)
                  clear tz tj
                  go_wp2
                  go_roundw
                  case rel => exact ⟨j, _, _, by omega, rfl, rfl, rfl, by omega, hN2, by omega, by omega, Lib.hid ⟨HN.out, HE.out⟩, HB1.out⟩
                  case measure => simp [intOf] <;> omega
              · have q3 : (l == P) = false := by simp [q2]
                have q4 : P < l := by omega
                have HE : Hid (wv z n src (P + 1 + zt (z j)) = wv z n src l0) := Lib.hid (by rw [← HP.out.2, HN.out]; exact (wv_gap OK.out.tail hjn (by rw [← HP.out.1]; exact q4) (by rw [← HN.out]; exact q1) HBG.out).symm)
                clear tz tj
                go_wp2
                go_roundw
                case rel => exact ⟨j, _, _, by omega, rfl, rfl, rfl, by omega, hN2, by omega, by omega, Lib.hid ⟨HN.out, HE.out⟩, HB1.out⟩
                case measure => simp [intOf] <;> omega
            · clear tz tj
              go_wp2
              go_roundw
              case rel => exact ⟨j, _, _, by omega, rfl, rfl, rfl, by omega, hN2, by omega, by omega, Lib.hid ⟨HN.out, HP.out.2⟩, HB1.out⟩
              case measure => simp [intOf] <;> omega
end Go.Proofs.YtlpnagpdjkgbcaaFmt
