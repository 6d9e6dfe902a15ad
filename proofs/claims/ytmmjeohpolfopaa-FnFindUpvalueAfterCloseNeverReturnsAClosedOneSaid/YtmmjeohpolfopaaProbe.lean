/- The law FnFindUpvalueAfterCloseNeverReturnsAClosedOne, walked. -/
import Derived.Test.YtmmjeohpolfopaaMarks
namespace Go.Proofs.Ytmmjeohpolfopaa
open Go.RowKit Go.ChangeShapes Go.Deep
theorem OR.arr {w : World} {g n cap : Nat} {l : List Int} (h : OR w 3 g n cap (vals l)) (hl : l.length = n) : Arr w (some ⟨g, 0, none⟩) n cap (fun i => .int .i64 (l.getD i 0)) := by
  have hc : n ≤ cap ∧ cap ≤ maxLen := by
    obtain ⟨_, h1 | ⟨g', cap', cur, h1, _, _, h2, h3, _⟩⟩ := h
    · simp at h1
    · simp at h1; obtain ⟨_, rfl⟩ := h1; exact ⟨h2, h3⟩
  refine Arr.of_row hc.1 hc.2 (fun i hi => ?_)
  have := h.at_ (i := i) (v := .int .i64 (l.getD i 0)) hi (by simp [vals, List.getElem?_eq_getElem (show i < l.length by omega)])
  have e : (⟨g, 0, none⟩ : Addr).add i = ⟨g, i, none⟩ := by unfold Addr.add; split <;> simp_all
  rw [e]
  exact this
theorem zl_getD (l : List Int) : zl (fun i => l.getD i 0) l.length = l := by
  apply List.ext_getElem?
  intro i
  by_cases h : i < l.length
  · simp [zl, h]
  · simp [zl, h]
theorem under_snoc (m v : Int) (l : List Int) : under m (l ++ [v]) = if v < m then under m l ++ [v] else under m l := by
  by_cases h : v < m <;> simp [under, h]
theorem under_len (m : Int) (l : List Int) : (under m l).length ≤ l.length := List.length_filter_le _ _
theorem find_new2 {w0 w : World} {L r g N : Nat} {us ds : Nodes} {k : Int} (h : St w0 w L r g N us ds) (hk0 : 0 ≤ k) (hkN : k < N) (hno : ∀ v, (v, k) ∉ us) : Calls Try.prog 13 #[.pointer (some ⟨L, 0, none⟩), .int .i64 k] w fun e w' => ∃ u us', e = .returned (.pointer (some ⟨u, 0, none⟩)) ∧ St w0 w' L r g N us' ds ∧ Fr (Wr L us) w w' ∧ w.heap.size ≤ u ∧ (u, k) ∈ us' ∧ us'.map Prod.snd = ins k (us.map Prod.snd) ∧ ∀ x, x ∈ us → x ∈ us' := by
  refine (uv_find13 h hk0 hkN).mono ?_
  rintro e w' ⟨u, us', rfl, h1, h2, h3 | ⟨i, _, h4, h5, h6, h3⟩⟩
  · exact absurd h3.2.2 (hno u)
  · exact ⟨u, us', rfl, h1, h2, h5, by rw [h4]; exact put_mem.2 (.inl rfl), h6, fun x hx => by rw [h4]; exact put_mem.2 (.inr hx)⟩
theorem rest_sd {z : Nat → Int} {n : Nat} (hz : InRange n z) {m p : Int} (hp : p < 65536) : sd 65536 (under m (zl z n) ++ [p]) = ins p (under m (insAll [] (zl z n))) := by
  rw [sd_add hp, ← sd_under]
  congr 1
  unfold sd
  rw [under_all]
  intro x hx
  have hx' : x ∈ zl z n := (List.mem_filter.1 hx).1
  obtain ⟨i, hi, rfl⟩ := zl_mem.1 hx'
  exact (hz i hi).2
set_option maxHeartbeats 4000000 in
set_option maxRecDepth 100000 in
theorem law6 (A : Option Addr) (n c : Nat) (z : Nat → Int) (m1 m2 : Int) (w : World) (h : Arr w A n c (fun i => .int .i64 (z i))) :
    Calls Try.prog 6 #[.slice A n c, .int .i64 m1, .int .i64 m2] w fun e w' => e = .returned (.bool true) ∧ Below w.heap.size w w' := by
  have m0 := h.len
  unfold maxLen at m0
  have HA := Lib.hid h
  clear h
  go_enter Try.func6, Try.ntmps6
  go_wp2_with fail
  refine (bytes6 _ _ _ _ _ _ _ HA.out).mono ?_
  rintro e w' ⟨b, rfl, rfl, hb⟩
  cases b
  · go_wp2
    go_ret
    exact ⟨rfl, Below.refl _ _⟩
  have b1 := hb rfl
  clear hb
  by_cases t1 : 4096 < n
  · go_wp2
    go_ret
    exact ⟨rfl, Below.refl _ _⟩
  go_wp2_with fail
  refine (range_ok _ _ _ _ _ HA.out (by omega)).mono ?_
  rintro e w' ⟨b, rfl, rfl, hb⟩
  cases b
  · go_wp2
    go_ret
    exact ⟨rfl, Below.refl _ _⟩
  have hz := hb rfl
  have HZ := Lib.hid hz
  clear hb hz
  by_cases t2 : m2 < 0
  · go_wp2
    go_ret
    exact ⟨rfl, Below.refl _ _⟩
  by_cases t3 : 65536 ≤ m2
  · go_wp2
    go_ret
    exact ⟨rfl, Below.refl _ _⟩
  go_wp2_with fail
  refine (clone_ints _ _ _ _ _ HA.out (by omega)).mono ?_
  rintro e w1 ⟨B, rfl, o, k0⟩
  have aB := o.arr (by unfold maxLen; omega)
  have HB := Lib.hid aB
  have K0 := Lib.hid k0
  clear aB k0 o
  go_wp2_with fail
  refine (build_ok _ _ _ _ m2 _ HB.out (by omega) HZ.out (by omega) (by omega)).mono ?_
  rintro e w2 hF
  obtain ⟨L, r, g, N, us, gb, G, rfl, bt, hpN⟩ := hF
  have BT := Lib.hid bt
  clear bt
  have cs := shut17 BT.out.st m1 (mark_le m1 us) (fun j v k => mark_lo) (fun j v k => mark_hi BT.out.st.asc)
  go_wp2_with fail
  refine cs.mono ?_
  rintro e w3 hF
  obtain ⟨rfl, s3, f3⟩ := hF
  rw [List.nil_append] at s3
  have hrow := found_row BT.out.st BT.out.row f3
  have S3 := Lib.hid s3
  have R3 := Lib.hid hrow
  clear s3 f3 hrow cs
  have HSND : Hid ((us.take (mark m1 us)).map Prod.snd = under m1 (insAll [] (zl z n))) := Lib.hid (by rw [mark_snd BT.out.st.asc, BT.out.snd])
  obtain ⟨C, hC, hmk⟩ := or_make (P := Try.prog) 22 3 (.int .i64 0) 8 Try.underlying22 info3 rfl (n + 1) (by omega) (by omega)
  obtain ⟨i0, hi0, hz0, hz1, hz2⟩ := or_parts info3
  have hmk1 : ∀ W : World, (Instr.makeSlice 22 (.int .i64 0) (.int .i64 ((n : Int) + 1))).run Try.prog W = .ok (.slice (some ⟨W.heap.size, 0, none⟩) 0 (n + 1)) (W.alloc (.cells C 3)) := fun W => by have := hmk W; push_cast at this; exact this
  have HC := Lib.hid hC
  have HMK := Lib.hid hmk1
  clear hC hmk hmk1
  by_cases hin : ∃ v, (v, m2) ∈ us.take (mark m1 us)
  · obtain ⟨v, hv⟩ := hin
    have cf := find_old S3.out hv
    obtain ⟨nx, nd⟩ := S3.out.node hv
    have hpm : m2 < m1 := by
      obtain ⟨j, hj⟩ := at_mem hv
      obtain ⟨h1, h2⟩ := take_at.1 hj
      exact mark_lo h1 h2
    have hex : ∃ i, i < n ∧ z i = m2 := by
      have h1 : m2 ∈ us.map Prod.snd := List.mem_map.2 ⟨_, take_sub hv, rfl⟩
      rw [BT.out.snd, mem_insAll] at h1
      rcases h1 with h1 | h1
      · simp at h1
      · exact zl_mem.1 h1
    have HEX := Lib.hid hex
    have HV := Lib.hid hv
    have ND1 := Lib.hid nd
    have c14 := uv_index nd
    have c15 := uv_closed nd
    have e1 : (m2 != m2) = false := by simp
    have T : Hid (∃ us2, St w1 w3 L r g N us2 (us.drop (mark m1 us)) ∧ us2.map Prod.snd = ins m2 (under m1 (insAll [] (zl z n)))) := Lib.hid ⟨_, S3.out, by rw [← HSND.out]; exact (ins_of_mem S3.out.asc (List.mem_map.2 ⟨_, HV.out, rfl⟩)).symm⟩
    clear hv hex nd
    go_wp2_with fail
    refine cf.mono ?_
    rintro e w4 ⟨rfl, rfl⟩
    clear cf
    go_wp2_with fail
    refine c14.mono ?_
    rintro e w4 ⟨rfl, rfl⟩
    go_wp2_with fail
    refine c15.mono ?_
    rintro e w4 ⟨rfl, rfl⟩
    clear c14 c15
    go_wp2
    go_loop [10, 11] (fun v10 v11 => ∃ k : Nat, k ≤ n ∧ v11 = .int .i64 k ∧ v10 = .int .i64 (-1) ∧ Hid (∀ i, i < k → z i ≠ m2)) (fun _ v => n - (intOf v).toNat)
    case atStart => exact ⟨0, Nat.zero_le _, rfl, rfl, Lib.hid (fun i hi => by omega)⟩
    case round =>
      obtain ⟨k, hk, rfl, rfl, hh⟩ := hrel
      have HH := Lib.hid hh.out
      clear hh
      by_cases hkn : k < n
      · obtain ⟨b, off, hx, _, hc⟩ := (HB.out.below S3.out.bel).at_ hkn
        subst hx
        obtain ⟨y, hy⟩ : ∃ y, z k = y := ⟨_, rfl⟩
        rw [hy] at hc
        have HY := Lib.hid hy
        clear hy
        by_cases hym : y = m2
        · have hgk : G k = v := by
            have h1 := BT.out.mem k hkn
            rw [HY.out, hym] at h1
            obtain ⟨i, hi⟩ := at_mem h1
            obtain ⟨j, hj⟩ := at_mem (take_sub HV.out)
            have := asc_uniq BT.out.st.asc hi hj
            subst this
            rw [hi] at hj
            cases hj
            rfl
          have hg := R3.out.cell hkn
          simp only [hgk] at hg
          have e2 := fun W => ptr_neq_same W v
          have e3 : (y == m2) = true := beq_iff_eq.2 hym
          have e4 : decide (m2 < m1) = true := by simpa using hpm
          clear hym hgk
          obtain ⟨us2, t1', t2'⟩ := T.out
          have T1 := Lib.hid t1'
          have T2 := Lib.hid t2'
          have hmk1 := HMK.out
          clear t1' t2'
          go_wp2
          have OR0 : Hid (OR (w3.alloc (.cells C 3)) 3 w3.heap.size 0 (n + 1) (vals []) ∧ Below w3.heap.size w3 (w3.alloc (.cells C 3))) := Lib.hid ⟨⟨rfl, .inr ⟨_, n + 1, C, rfl, Nat.zero_le _, blk_alloc_new _ _, Nat.zero_le _, by unfold maxLen; omega, by rw [HC.out]; omega, rfl⟩⟩, by go_grown⟩
          clear hmk1
          go_loopw [13, 14] (fun v13 v14 wr => ∃ (k g5 cap : Nat) (l : List Int), k ≤ n ∧ v14 = .int .i64 k ∧ v13 = .slice (some ⟨g5, 0, none⟩) l.length cap ∧ Hid (l = under m1 (zl z k) ∧ OR wr 3 g5 l.length cap (vals l) ∧ w3.heap.size ≤ g5 ∧ Below w3.heap.size w3 wr)) (fun _ v _ => n - (intOf v).toNat)
          case atStart => exact ⟨0, w3.heap.size, n + 1, [], Nat.zero_le _, rfl, rfl, Lib.hid ⟨rfl, OR0.out.1, Nat.le_refl _, OR0.out.2⟩⟩
          case round =>
            clear OR0
            obtain ⟨k, g5, cap, l, hk, rfl, rfl, hh⟩ := hrel
            have HH2 := Lib.hid hh.out
            clear hh
            have hL : l.length ≤ k := by
              have := under_len m1 (zl z k)
              rw [← HH2.out.1, zl_len] at this
              exact this
            obtain ⟨LL, hLe⟩ : ∃ LL, l.length = LL := ⟨_, rfl⟩
            have hown := HH2.out.2.1
            have hwl : w3.heap.size ≤ wr.heap.size := HH2.out.2.2.2.size
            have hg5 := HH2.out.2.2.1
            have HL := Lib.hid hLe
            rw [hLe] at hL hown ⊢
            clear hLe
            by_cases hkn : k < n
            · obtain ⟨b, off, hx, _, hc⟩ := ((HB.out.below T1.out.bel).below HH2.out.2.2.2).at_ hkn
              cases hx
              obtain ⟨v, hv⟩ : ∃ v, z k = v := ⟨_, rfl⟩
              rw [hv] at hc
              have HV := Lib.hid hv
              clear hv
              by_cases hvm : v < m1
              · have H1 : Hid (l ++ [v] = under m1 (zl z (k + 1))) := Lib.hid (by rw [zl_succ, HV.out, under_snoc, if_pos hvm, HH2.out.1])
                go_wp2_with (at_builtin; refine wpList_append_lies _ rfl (.tmp 108) (.tmp 113) 22 rfl 0 3 i0 (.int .i64 0) 1 8 Try.underlying22 hi0 hz0 hz1 hz2 rfl (by decide) _ _ _ rfl (World.ownsRow.alloc hown _) ⟨wr.heap.size, 0, none⟩ 1 1 [.int .i64 v] rfl rfl (or_news _ _ _ _ rfl) (by intro u hu; simp at hu; subst hu; rfl) (by omega) (by unfold maxLen; omega) (by omega) (Nat.zero_le _) _ rfl ?_; intro g6 c6 w6 hown6 hgr6 hat6 hlt6)
                have hg6 : w3.heap.size ≤ g6 := by
                  rcases hat6 with h | h
                  · have : g5 = g6 := Option.some.inj h
                    omega
                  · simp at h; omega
                have S6 : Hid (OR w6 3 g6 (LL + 1) c6 (vals (l ++ [v])) ∧ Below w3.heap.size w3 w6) := Lib.hid ⟨by simpa [vals] using hown6, below_app HH2.out.2.2.2 hwl hgr6 hg5⟩
                clear hown6 hgr6 hat6 hown
                go_roundw
                case rel => exact ⟨k + 1, g6, c6, l ++ [v], by omega, by go_num, by rw [List.length_append, HL.out]; rfl, Lib.hid ⟨H1.out, by rw [List.length_append, HL.out]; exact S6.out.1, hg6, S6.out.2⟩⟩
                case measure => simp [intOf]; omega
              · have H1 : Hid (l = under m1 (zl z (k + 1))) := Lib.hid (by rw [zl_succ, HV.out, under_snoc, if_neg hvm, HH2.out.1])
                clear hown
                go_wp2
                go_roundw
                case rel => exact ⟨k + 1, g5, cap, l, by omega, by go_num, by rw [HL.out], Lib.hid ⟨H1.out, HH2.out.2⟩⟩
                case measure => simp [intOf]; omega
            · have H1 : Hid (l = under m1 (zl z n)) := Lib.hid (by rw [show n = k by omega]; exact HH2.out.1)
              go_wp2_with (at_builtin; refine wpList_append_lies _ rfl (.tmp 115) (.tmp 117) 22 rfl 0 3 i0 (.int .i64 0) 1 8 Try.underlying22 hi0 hz0 hz1 hz2 rfl (by decide) _ _ _ rfl (World.ownsRow.alloc hown _) ⟨wr.heap.size, 0, none⟩ 1 1 [.int .i64 m2] rfl rfl (or_news _ _ _ _ rfl) (by intro u hu; simp at hu; subst hu; rfl) (by omega) (by unfold maxLen; omega) (by omega) (Nat.zero_le _) _ rfl ?_; intro g6 c6 w6 hown6 hgr6 hat6 hlt6)
              have B6 := below_app HH2.out.2.2.2 hwl hgr6 hg5
              have hown6' : OR w6 3 g6 (LL + 1) c6 (vals (l ++ [m2])) := by simpa [vals] using hown6
              have hlen6 : (l ++ [m2]).length = LL + 1 := by rw [List.length_append, HL.out]; rfl
              have A6 := OR.arr hown6' hlen6
              have S6 := Lib.hid (T1.out.below B6)
              have A6H := Lib.hid A6
              have H6 : Hid (zl (fun i => (l ++ [m2]).getD i 0) (LL + 1) = under m1 (zl z n) ++ [m2]) := Lib.hid (by rw [← hlen6, zl_getD, H1.out])
              clear hown6 hown6' hgr6 hat6 hown A6 B6 hlen6
              go_wp2_with fail
              refine (sorted_ok _ _ _ _ 65536 _ A6H.out (by omega)).mono ?_
              rintro e w7 hF
              obtain ⟨gq, cap7, rfl, hor, _, k7⟩ := hF
              rw [H6.out] at hor ⊢
              have hwant := want_cells (us := us2) hor (by rw [rest_sd HZ.out (by omega)]; exact T2.out)
              have hlen : (sd 65536 (under m1 (zl z n) ++ [m2])).length ≤ 65536 := by
                have h1 := sd_len 65536 (under m1 (zl z n) ++ [m2])
                have h2 := under_len m1 (zl z n)
                rw [zl_len] at h2
                simp at h1
                omega
              have S7 := Lib.hid (S6.out.below k7)
              have W7 := Lib.hid hwant
              clear hor k7 hwant
              obtain ⟨ln, hln⟩ : ∃ ln, (sd 65536 (under m1 (zl z n) ++ [m2])).length = ln := ⟨_, rfl⟩
              rw [hln] at hlen
              rw [hln]
              have HLN := Lib.hid hln
              clear hln
              have cc := cache_ok S7.out gq ln cap7 (by rw [← HLN.out]; exact W7.out.1) hlen W7.out.2
              go_wp2_with fail
              refine cc.mono ?_
              rintro e w8 ⟨rfl, m8, rfl⟩
              clear cc
              go_wp2
              go_ret
              exact ⟨rfl, K0.out.trans ((below_drewN S7.out.bel m8).mono K0.out.size)⟩
        · have e3 : (y == m2) = false := beq_eq_false_iff_ne.2 hym
          have H2 : Hid (∀ i, i < k + 1 → z i ≠ m2) := Lib.hid (fun i hi => by
            by_cases e : i = k
            · subst e; rw [HY.out]; exact hym
            · exact HH.out i (by omega))
          clear hym
          go_wp2
          go_round
          case rel => exact ⟨k + 1, by omega, by go_num, rfl, H2⟩
          case measure => simp [intOf]; omega
      · exfalso
        obtain ⟨i, hi, hi2⟩ := HEX.out
        exact HH.out i (by omega) hi2
  · have hno : ∀ v, (v, m2) ∉ us.take (mark m1 us) := fun v hv => hin ⟨v, hv⟩
    have cf := find_new2 S3.out (by omega) hpN hno
    have HNO := Lib.hid hno
    clear hno hin
    go_wp2_with fail
    refine cf.mono ?_
    rintro e w4 hF
    obtain ⟨u, us2, rfl, s4, f4, hu, hmem, hsnd, hsub⟩ := hF
    obtain ⟨nx, nd⟩ := s4.node hmem
    have hrow := found_row S3.out R3.out f4
    have T1 := Lib.hid s4
    have T2 : Hid (us2.map Prod.snd = ins m2 (under m1 (insAll [] (zl z n)))) := Lib.hid (by rw [hsnd, HSND.out])
    have R4 := Lib.hid hrow
    have ND1 := Lib.hid nd
    have c14 := uv_index nd
    have c15 := uv_closed nd
    have e1 : (m2 != m2) = false := by simp
    have hold : Hid (∀ i, i < n → G i < w3.heap.size ∧ ∃ nx c, ND w4 (G i) nx r (z i) c) := Lib.hid (fun i hi => by
      have h1 : ∃ nx c, ND w3 (G i) nx r (z i) c := by
        have h1 := mark_mem (m := m1) BT.out.st.asc (BT.out.mem i hi)
        split at h1
        · obtain ⟨nx, h2⟩ := S3.out.node h1; exact ⟨_, _, h2⟩
        · obtain ⟨nx, h2⟩ := S3.out.dead _ _ h1; exact ⟨_, _, h2⟩
      obtain ⟨nx, c, h2⟩ := h1
      refine ⟨World.rowIs.lt h2, ?_⟩
      have h1 := mark_mem (m := m1) BT.out.st.asc (BT.out.mem i hi)
      split at h1
      · have h3 : (G i, z i) ∈ us2 := hsub _ h1
        obtain ⟨nx, h4⟩ := s4.node h3
        exact ⟨_, _, h4⟩
      · obtain ⟨nx, h2⟩ := s4.dead _ _ h1; exact ⟨_, _, h2⟩)
    clear cf s4 f4 hmem hsnd nd hrow hsub
    go_wp2_with fail
    refine c14.mono ?_
    rintro e w5 ⟨rfl, rfl⟩
    go_wp2_with fail
    refine c15.mono ?_
    rintro e w5 ⟨rfl, rfl⟩
    clear c14 c15
    go_wp2
    go_loop [10, 11] (fun v10 v11 => ∃ k : Nat, k ≤ n ∧ v11 = .int .i64 k ∧ v10 = .int .i64 (-1)) (fun _ v => n - (intOf v).toNat)
    case atStart => exact ⟨0, Nat.zero_le _, rfl, rfl⟩
    case round =>
      obtain ⟨k, hk, rfl, rfl⟩ := hrel
      by_cases hkn : k < n
      · obtain ⟨b, off, hx, _, hc⟩ := (HB.out.below T1.out.bel).at_ hkn
        subst hx
        obtain ⟨y, hy⟩ : ∃ y, z k = y := ⟨_, rfl⟩
        rw [hy] at hc
        have HY := Lib.hid hy
        clear hy
        by_cases hym : y = m2
        · have hpm : decide (m2 < m1) = false := by
            have h1 := mark_mem (m := m1) BT.out.st.asc (BT.out.mem k hkn)
            rw [HY.out, hym] at h1
            by_cases h2 : m2 < m1
            · rw [if_pos h2] at h1
              exact absurd h1 (HNO.out _)
            · simpa using h2
          have e3 : (y == m2) = true := beq_iff_eq.2 hym
          clear hym
          go_wp2
          go_loop [12] (fun v12 => ∃ j : Nat, j ≤ n ∧ v12 = .int .i64 j) (fun v => n - (intOf v).toNat)
          case atStart => exact ⟨0, Nat.zero_le _, rfl⟩
          case round =>
            obtain ⟨j, hj, rfl⟩ := hrel
            by_cases hjn : j < n
            · have hg := R4.out.cell hjn
              obtain ⟨g1, nx', c', hn⟩ := hold.out j hjn
              have e5 := ptr_eql_other (show u ≠ G j by omega) ND1.out hn
              clear hn
              go_wp2
              go_round
              case rel => exact ⟨j + 1, by omega, by go_num⟩
              case measure => simp [intOf]; omega
            · have hmk1 := HMK.out
              go_wp2
              have OR0 : Hid (OR (w4.alloc (.cells C 3)) 3 w4.heap.size 0 (n + 1) (vals []) ∧ Below w4.heap.size w4 (w4.alloc (.cells C 3))) := Lib.hid ⟨⟨rfl, .inr ⟨_, n + 1, C, rfl, Nat.zero_le _, blk_alloc_new _ _, Nat.zero_le _, by unfold maxLen; omega, by rw [HC.out]; omega, rfl⟩⟩, by go_grown⟩
              clear hmk1
              go_loopw [13, 14] (fun v13 v14 wr => ∃ (k g5 cap : Nat) (l : List Int), k ≤ n ∧ v14 = .int .i64 k ∧ v13 = .slice (some ⟨g5, 0, none⟩) l.length cap ∧ Hid (l = under m1 (zl z k) ∧ OR wr 3 g5 l.length cap (vals l) ∧ w4.heap.size ≤ g5 ∧ Below w4.heap.size w4 wr)) (fun _ v _ => n - (intOf v).toNat)
              case atStart => exact ⟨0, w4.heap.size, n + 1, [], Nat.zero_le _, rfl, rfl, Lib.hid ⟨rfl, OR0.out.1, Nat.le_refl _, OR0.out.2⟩⟩
              case round =>
                clear OR0
                obtain ⟨k, g5, cap, l, hk, rfl, rfl, hh⟩ := hrel
                have HH2 := Lib.hid hh.out
                clear hh
                have hL : l.length ≤ k := by
                  have := under_len m1 (zl z k)
                  rw [← HH2.out.1, zl_len] at this
                  exact this
                obtain ⟨LL, hLe⟩ : ∃ LL, l.length = LL := ⟨_, rfl⟩
                have hown := HH2.out.2.1
                have hwl : w4.heap.size ≤ wr.heap.size := HH2.out.2.2.2.size
                have hg5 := HH2.out.2.2.1
                have HL := Lib.hid hLe
                rw [hLe] at hL hown ⊢
                clear hLe
                by_cases hkn : k < n
                · obtain ⟨b, off, hx, _, hc⟩ := ((HB.out.below T1.out.bel).below HH2.out.2.2.2).at_ hkn
                  cases hx
                  obtain ⟨v, hv⟩ : ∃ v, z k = v := ⟨_, rfl⟩
                  rw [hv] at hc
                  have HV := Lib.hid hv
                  clear hv
                  by_cases hvm : v < m1
                  · have H1 : Hid (l ++ [v] = under m1 (zl z (k + 1))) := Lib.hid (by rw [zl_succ, HV.out, under_snoc, if_pos hvm, HH2.out.1])
                    go_wp2_with (at_builtin; refine wpList_append_lies _ rfl (.tmp 108) (.tmp 113) 22 rfl 0 3 i0 (.int .i64 0) 1 8 Try.underlying22 hi0 hz0 hz1 hz2 rfl (by decide) _ _ _ rfl (World.ownsRow.alloc hown _) ⟨wr.heap.size, 0, none⟩ 1 1 [.int .i64 v] rfl rfl (or_news _ _ _ _ rfl) (by intro u hu; simp at hu; subst hu; rfl) (by omega) (by unfold maxLen; omega) (by omega) (Nat.zero_le _) _ rfl ?_; intro g6 c6 w6 hown6 hgr6 hat6 hlt6)
                    have hg6 : w4.heap.size ≤ g6 := by
                      rcases hat6 with h | h
                      · have : g5 = g6 := Option.some.inj h
                        omega
                      · simp at h; omega
                    have S6 : Hid (OR w6 3 g6 (LL + 1) c6 (vals (l ++ [v])) ∧ Below w4.heap.size w4 w6) := Lib.hid ⟨by simpa [vals] using hown6, below_app HH2.out.2.2.2 hwl hgr6 hg5⟩
                    clear hown6 hgr6 hat6 hown
                    go_roundw
                    case rel => exact ⟨k + 1, g6, c6, l ++ [v], by omega, by go_num, by rw [List.length_append, HL.out]; rfl, Lib.hid ⟨H1.out, by rw [List.length_append, HL.out]; exact S6.out.1, hg6, S6.out.2⟩⟩
                    case measure => simp [intOf]; omega
                  · have H1 : Hid (l = under m1 (zl z (k + 1))) := Lib.hid (by rw [zl_succ, HV.out, under_snoc, if_neg hvm, HH2.out.1])
                    clear hown
                    go_wp2
                    go_roundw
                    case rel => exact ⟨k + 1, g5, cap, l, by omega, by go_num, by rw [HL.out], Lib.hid ⟨H1.out, HH2.out.2⟩⟩
                    case measure => simp [intOf]; omega
                · have H1 : Hid (l = under m1 (zl z n)) := Lib.hid (by rw [show n = k by omega]; exact HH2.out.1)
                  go_wp2_with (at_builtin; refine wpList_append_lies _ rfl (.tmp 115) (.tmp 117) 22 rfl 0 3 i0 (.int .i64 0) 1 8 Try.underlying22 hi0 hz0 hz1 hz2 rfl (by decide) _ _ _ rfl (World.ownsRow.alloc hown _) ⟨wr.heap.size, 0, none⟩ 1 1 [.int .i64 m2] rfl rfl (or_news _ _ _ _ rfl) (by intro u hu; simp at hu; subst hu; rfl) (by omega) (by unfold maxLen; omega) (by omega) (Nat.zero_le _) _ rfl ?_; intro g6 c6 w6 hown6 hgr6 hat6 hlt6)
                  have B6 := below_app HH2.out.2.2.2 hwl hgr6 hg5
                  have hown6' : OR w6 3 g6 (LL + 1) c6 (vals (l ++ [m2])) := by simpa [vals] using hown6
                  have hlen6 : (l ++ [m2]).length = LL + 1 := by rw [List.length_append, HL.out]; rfl
                  have A6 := OR.arr hown6' hlen6
                  have S6 := Lib.hid (T1.out.below B6)
                  have A6H := Lib.hid A6
                  have H6 : Hid (zl (fun i => (l ++ [m2]).getD i 0) (LL + 1) = under m1 (zl z n) ++ [m2]) := Lib.hid (by rw [← hlen6, zl_getD, H1.out])
                  clear hown6 hown6' hgr6 hat6 hown A6 B6 hlen6
                  go_wp2_with fail
                  refine (sorted_ok _ _ _ _ 65536 _ A6H.out (by omega)).mono ?_
                  rintro e w7 hF
                  obtain ⟨gq, cap7, rfl, hor, _, k7⟩ := hF
                  rw [H6.out] at hor ⊢
                  have hwant := want_cells (us := us2) hor (by rw [rest_sd HZ.out (by omega)]; exact T2.out)
                  have hlen : (sd 65536 (under m1 (zl z n) ++ [m2])).length ≤ 65536 := by
                    have h1 := sd_len 65536 (under m1 (zl z n) ++ [m2])
                    have h2 := under_len m1 (zl z n)
                    rw [zl_len] at h2
                    simp at h1
                    omega
                  have S7 := Lib.hid (S6.out.below k7)
                  have W7 := Lib.hid hwant
                  clear hor k7 hwant
                  obtain ⟨ln, hln⟩ : ∃ ln, (sd 65536 (under m1 (zl z n) ++ [m2])).length = ln := ⟨_, rfl⟩
                  rw [hln] at hlen
                  rw [hln]
                  have HLN := Lib.hid hln
                  clear hln
                  have cc := cache_ok S7.out gq ln cap7 (by rw [← HLN.out]; exact W7.out.1) hlen W7.out.2
                  go_wp2_with fail
                  refine cc.mono ?_
                  rintro e w8 ⟨rfl, m8, rfl⟩
                  clear cc
                  go_wp2
                  go_ret
                  exact ⟨rfl, K0.out.trans ((below_drewN S7.out.bel m8).mono K0.out.size)⟩
        · have e3 : (y == m2) = false := beq_eq_false_iff_ne.2 hym
          clear hym
          go_wp2
          go_round
          case rel => exact ⟨k + 1, by omega, by go_num, rfl⟩
          case measure => simp [intOf]; omega
      · go_wp2
        go_loop [12] (fun v12 => ∃ j : Nat, j ≤ n ∧ v12 = .int .i64 j) (fun v => n - (intOf v).toNat)
        case atStart => exact ⟨0, Nat.zero_le _, rfl⟩
        case round =>
          obtain ⟨j, hj, rfl⟩ := hrel
          by_cases hjn : j < n
          · have hg := R4.out.cell hjn
            obtain ⟨g1, nx', c', hn⟩ := hold.out j hjn
            have e5 := ptr_eql_other (show u ≠ G j by omega) ND1.out hn
            clear hn
            go_wp2
            go_round
            case rel => exact ⟨j + 1, by omega, by go_num⟩
            case measure => simp [intOf]; omega
          · have hmk1 := HMK.out
            go_wp2
            have OR0 : Hid (OR (w4.alloc (.cells C 3)) 3 w4.heap.size 0 (n + 1) (vals []) ∧ Below w4.heap.size w4 (w4.alloc (.cells C 3))) := Lib.hid ⟨⟨rfl, .inr ⟨_, n + 1, C, rfl, Nat.zero_le _, blk_alloc_new _ _, Nat.zero_le _, by unfold maxLen; omega, by rw [HC.out]; omega, rfl⟩⟩, by go_grown⟩
            clear hmk1
            go_loopw [13, 14] (fun v13 v14 wr => ∃ (k g5 cap : Nat) (l : List Int), k ≤ n ∧ v14 = .int .i64 k ∧ v13 = .slice (some ⟨g5, 0, none⟩) l.length cap ∧ Hid (l = under m1 (zl z k) ∧ OR wr 3 g5 l.length cap (vals l) ∧ w4.heap.size ≤ g5 ∧ Below w4.heap.size w4 wr)) (fun _ v _ => n - (intOf v).toNat)
            case atStart => exact ⟨0, w4.heap.size, n + 1, [], Nat.zero_le _, rfl, rfl, Lib.hid ⟨rfl, OR0.out.1, Nat.le_refl _, OR0.out.2⟩⟩
            case round =>
              clear OR0
              obtain ⟨k, g5, cap, l, hk, rfl, rfl, hh⟩ := hrel
              have HH2 := Lib.hid hh.out
              clear hh
              have hL : l.length ≤ k := by
                have := under_len m1 (zl z k)
                rw [← HH2.out.1, zl_len] at this
                exact this
              obtain ⟨LL, hLe⟩ : ∃ LL, l.length = LL := ⟨_, rfl⟩
              have hown := HH2.out.2.1
              have hwl : w4.heap.size ≤ wr.heap.size := HH2.out.2.2.2.size
              have hg5 := HH2.out.2.2.1
              have HL := Lib.hid hLe
              rw [hLe] at hL hown ⊢
              clear hLe
              by_cases hkn : k < n
              · obtain ⟨b, off, hx, _, hc⟩ := ((HB.out.below T1.out.bel).below HH2.out.2.2.2).at_ hkn
                cases hx
                obtain ⟨v, hv⟩ : ∃ v, z k = v := ⟨_, rfl⟩
                rw [hv] at hc
                have HV := Lib.hid hv
                clear hv
                by_cases hvm : v < m1
                · have H1 : Hid (l ++ [v] = under m1 (zl z (k + 1))) := Lib.hid (by rw [zl_succ, HV.out, under_snoc, if_pos hvm, HH2.out.1])
                  go_wp2_with (at_builtin; refine wpList_append_lies _ rfl (.tmp 108) (.tmp 113) 22 rfl 0 3 i0 (.int .i64 0) 1 8 Try.underlying22 hi0 hz0 hz1 hz2 rfl (by decide) _ _ _ rfl (World.ownsRow.alloc hown _) ⟨wr.heap.size, 0, none⟩ 1 1 [.int .i64 v] rfl rfl (or_news _ _ _ _ rfl) (by intro u hu; simp at hu; subst hu; rfl) (by omega) (by unfold maxLen; omega) (by omega) (Nat.zero_le _) _ rfl ?_; intro g6 c6 w6 hown6 hgr6 hat6 hlt6)
                  have hg6 : w4.heap.size ≤ g6 := by
                    rcases hat6 with h | h
                    · have : g5 = g6 := Option.some.inj h
                      omega
                    · simp at h; omega
                  have S6 : Hid (OR w6 3 g6 (LL + 1) c6 (vals (l ++ [v])) ∧ Below w4.heap.size w4 w6) := Lib.hid ⟨by simpa [vals] using hown6, below_app HH2.out.2.2.2 hwl hgr6 hg5⟩
                  clear hown6 hgr6 hat6 hown
                  go_roundw
                  case rel => exact ⟨k + 1, g6, c6, l ++ [v], by omega, by go_num, by rw [List.length_append, HL.out]; rfl, Lib.hid ⟨H1.out, by rw [List.length_append, HL.out]; exact S6.out.1, hg6, S6.out.2⟩⟩
                  case measure => simp [intOf]; omega
                · have H1 : Hid (l = under m1 (zl z (k + 1))) := Lib.hid (by rw [zl_succ, HV.out, under_snoc, if_neg hvm, HH2.out.1])
                  clear hown
                  go_wp2
                  go_roundw
                  case rel => exact ⟨k + 1, g5, cap, l, by omega, by go_num, by rw [HL.out], Lib.hid ⟨H1.out, HH2.out.2⟩⟩
                  case measure => simp [intOf]; omega
              · have H1 : Hid (l = under m1 (zl z n)) := Lib.hid (by rw [show n = k by omega]; exact HH2.out.1)
                go_wp2_with (at_builtin; refine wpList_append_lies _ rfl (.tmp 115) (.tmp 117) 22 rfl 0 3 i0 (.int .i64 0) 1 8 Try.underlying22 hi0 hz0 hz1 hz2 rfl (by decide) _ _ _ rfl (World.ownsRow.alloc hown _) ⟨wr.heap.size, 0, none⟩ 1 1 [.int .i64 m2] rfl rfl (or_news _ _ _ _ rfl) (by intro u hu; simp at hu; subst hu; rfl) (by omega) (by unfold maxLen; omega) (by omega) (Nat.zero_le _) _ rfl ?_; intro g6 c6 w6 hown6 hgr6 hat6 hlt6)
                have B6 := below_app HH2.out.2.2.2 hwl hgr6 hg5
                have hown6' : OR w6 3 g6 (LL + 1) c6 (vals (l ++ [m2])) := by simpa [vals] using hown6
                have hlen6 : (l ++ [m2]).length = LL + 1 := by rw [List.length_append, HL.out]; rfl
                have A6 := OR.arr hown6' hlen6
                have S6 := Lib.hid (T1.out.below B6)
                have A6H := Lib.hid A6
                have H6 : Hid (zl (fun i => (l ++ [m2]).getD i 0) (LL + 1) = under m1 (zl z n) ++ [m2]) := Lib.hid (by rw [← hlen6, zl_getD, H1.out])
                clear hown6 hown6' hgr6 hat6 hown A6 B6 hlen6
                go_wp2_with fail
                refine (sorted_ok _ _ _ _ 65536 _ A6H.out (by omega)).mono ?_
                rintro e w7 hF
                obtain ⟨gq, cap7, rfl, hor, _, k7⟩ := hF
                rw [H6.out] at hor ⊢
                have hwant := want_cells (us := us2) hor (by rw [rest_sd HZ.out (by omega)]; exact T2.out)
                have hlen : (sd 65536 (under m1 (zl z n) ++ [m2])).length ≤ 65536 := by
                  have h1 := sd_len 65536 (under m1 (zl z n) ++ [m2])
                  have h2 := under_len m1 (zl z n)
                  rw [zl_len] at h2
                  simp at h1
                  omega
                have S7 := Lib.hid (S6.out.below k7)
                have W7 := Lib.hid hwant
                clear hor k7 hwant
                obtain ⟨ln, hln⟩ : ∃ ln, (sd 65536 (under m1 (zl z n) ++ [m2])).length = ln := ⟨_, rfl⟩
                rw [hln] at hlen
                rw [hln]
                have HLN := Lib.hid hln
                clear hln
                have cc := cache_ok S7.out gq ln cap7 (by rw [← HLN.out]; exact W7.out.1) hlen W7.out.2
                go_wp2_with fail
                refine cc.mono ?_
                rintro e w8 ⟨rfl, m8, rfl⟩
                clear cc
                go_wp2
                go_ret
                exact ⟨rfl, K0.out.trans ((below_drewN S7.out.bel m8).mono K0.out.size)⟩
end Go.Proofs.Ytmmjeohpolfopaa
