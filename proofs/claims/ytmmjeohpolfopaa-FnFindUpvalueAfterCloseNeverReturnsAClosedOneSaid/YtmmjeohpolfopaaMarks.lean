/- The laws FnCloseUpvaluesClosesExactlyThoseAtOrAboveMark and FnCloseUpvaluesTwiceIsOnceAtTheLowerMark, walked. -/
import Derived.Test.YtmmjeohpolfopaaStable
namespace Go.Proofs.Ytmmjeohpolfopaa
open Go.RowKit Go.ChangeShapes Go.Deep
section
variable {w0 w : World} {L r g N : Nat} {us ds : Nodes}
theorem quiet_add_left {P : Program} {f : FuncId} {args : Array Value} {w : World} {a n : Nat} {v : Value}
    (h : Calls P f args (w.drewN (a + n)) fun e w' => e = .returned v ∧ w.drewN (a + n) = w') :
    Calls P f args (w.drewN (a + n)) fun e w'' => e = .returned v ∧ ∃ m, w'' = w.drewN (a + m) :=
  h.mono fun _ _ ⟨he, hm⟩ => ⟨he, n, hm.symm⟩
/-- What became of each upvalue handed out, behind a closing at the mark. -/
def After (w : World) (r : Nat) (n : Nat) (z : Nat → Int) (G : Nat → Nat) (m : Int) : Prop := ∀ i, i < n → ∃ nx, ND w (G i) nx r (z i) (decide (m ≤ z i))
theorem after_one {n : Nat} {z : Nat → Int} {G : Nat → Nat} {m : Int} (ha : Asc (us.map Prod.snd)) (h : St w0 w L r g N (us.take (mark m us)) (ds ++ us.drop (mark m us))) (hm : ∀ i, i < n → (G i, z i) ∈ us) : After w r n z G m := by
  intro i hi
  have := mark_mem (m := m) ha (hm i hi)
  by_cases h1 : z i < m
  · rw [if_pos h1] at this
    have e : decide (m ≤ z i) = false := by simpa using h1
    rw [e]
    exact h.node this
  · rw [if_neg h1] at this
    have e : decide (m ≤ z i) = true := by simp; omega
    rw [e]
    exact h.dead _ _ (List.mem_append_right _ this)
theorem after_two {n : Nat} {z : Nat → Int} {G : Nat → Nat} {m m2 : Int} (ha : Asc (us.map Prod.snd)) (ha2 : Asc ((us.take (mark m us)).map Prod.snd)) (h : St w0 w L r g N ((us.take (mark m us)).take (mark m2 (us.take (mark m us)))) (us.drop (mark m us) ++ (us.take (mark m us)).drop (mark m2 (us.take (mark m us))))) (hm : ∀ i, i < n → (G i, z i) ∈ us) : After w r n z G (min m m2) := by
  intro i hi
  have := mark_mem (m := m) ha (hm i hi)
  by_cases h1 : z i < m
  · rw [if_pos h1] at this
    have h2 := mark_mem (m := m2) ha2 this
    by_cases h3 : z i < m2
    · rw [if_pos h3] at h2
      have e : decide (min m m2 ≤ z i) = false := by simp; omega
      rw [e]
      exact h.node h2
    · rw [if_neg h3] at h2
      have e : decide (min m m2 ≤ z i) = true := by simp; omega
      rw [e]
      exact h.dead _ _ (List.mem_append_right _ h2)
  · rw [if_neg h1] at this
    have e : decide (min m m2 ≤ z i) = true := by simp; omega
    rw [e]
    exact h.dead _ _ (List.mem_append_left _ this)
end
set_option maxHeartbeats 2000000 in
set_option maxRecDepth 100000 in
theorem law4 (A : Option Addr) (n c : Nat) (z : Nat → Int) (m : Int) (w : World) (h : Arr w A n c (fun i => .int .i64 (z i))) :
    Calls Try.prog 4 #[.slice A n c, .int .i64 m] w fun e w' => e = .returned (.bool true) ∧ Below w.heap.size w w' := by
  have m0 := h.len
  unfold maxLen at m0
  have HA := Lib.hid h
  clear h
  go_enter Try.func4, Try.ntmps4
  go_wp2_with fail
  refine (bytes4 _ _ _ _ _ _ HA.out).mono ?_
  rintro e w' ⟨b, rfl, rfl, hb⟩
  cases b
  · go_wp2
    go_ret
    exact ⟨rfl, Below.refl _ _⟩
  have b1 := hb rfl
  clear hb
  by_cases t1 : 4096 < n
  · go_wp2
    go_ret
    exact ⟨rfl, Below.refl _ _⟩
  go_wp2_with fail
  refine (range_ok _ _ _ _ _ HA.out (by omega)).mono ?_
  rintro e w' ⟨b, rfl, rfl, hb⟩
  cases b
  · go_wp2
    go_ret
    exact ⟨rfl, Below.refl _ _⟩
  have hz := hb rfl
  have HZ := Lib.hid hz
  clear hb hz
  go_wp2_with fail
  refine (clone_ints _ _ _ _ _ HA.out (by omega)).mono ?_
  rintro e w1 ⟨B, rfl, o, k0⟩
  have aB := o.arr (by unfold maxLen; omega)
  have HB := Lib.hid aB
  have K0 := Lib.hid k0
  clear aB k0 o
  go_wp2_with fail
  refine (build_ok _ _ _ _ 0 _ HB.out (by omega) HZ.out (by omega) (by omega)).mono ?_
  rintro e w2 hF
  obtain ⟨L, r, g, N, us, gb, G, rfl, bt, _⟩ := hF
  have BT := Lib.hid bt
  clear bt
  have cs := shut17 BT.out.st m (mark_le m us) (fun j v k => mark_lo) (fun j v k => mark_hi BT.out.st.asc)
  go_wp2_with fail
  refine cs.mono ?_
  rintro e w3 hF
  obtain ⟨rfl, s3, f3⟩ := hF
  rw [List.nil_append] at s3
  have hAf := after_one BT.out.st.asc (ds := []) (by simpa using s3) BT.out.mem
  have hrow := found_row BT.out.st BT.out.row f3
  have aB3 := HB.out.below s3.bel
  have S3 := Lib.hid s3
  have AF := Lib.hid hAf
  have R3 := Lib.hid hrow
  have HB3 := Lib.hid aB3
  clear s3 f3 hAf hrow aB3 cs
  go_wp2_with fail
  refine (sorted_ok _ _ _ _ m _ HB3.out (by omega)).mono ?_
  rintro e w4 hF
  obtain ⟨gq, cap, rfl, hor, _, k4⟩ := hF
  have hwant := want_cells (us := us.take (mark m us)) hor (by rw [mark_snd BT.out.st.asc, sd_under, BT.out.snd])
  have hlen : (sd m (zl z n)).length ≤ 65536 := by have := sd_len m (zl z n); rw [zl_len] at this; omega
  have S4 := Lib.hid (S3.out.below k4)
  have R4 := Lib.hid (Below.row k4 R3.out R3.out.lt)
  have A4 := Lib.hid (HB3.out.below k4)
  have AF4 : Hid (After w4 r n z G m) := Lib.hid (fun i hi => by
    obtain ⟨nx, hn⟩ := AF.out i hi
    exact ⟨nx, Below.row k4 hn (World.rowIs.lt hn)⟩)
  have W4 := Lib.hid hwant
  clear hor k4 hwant AF R3 HB3 S3
  obtain ⟨ln, hln⟩ : ∃ ln, (sd m (zl z n)).length = ln := ⟨_, rfl⟩
  rw [hln] at hlen
  rw [hln]
  have HLN := Lib.hid hln
  clear hln
  have cc := cache_ok S4.out gq ln cap (by rw [← HLN.out]; exact W4.out.1) hlen W4.out.2
  go_wp2_with fail
  refine cc.mono ?_
  rintro e w5 ⟨rfl, hw5⟩
  have HW5 := Lib.hid hw5
  clear hw5 cc
  go_wp2
  go_loopw [7] (fun v6 wr => ∃ k : Nat, k ≤ n ∧ v6 = .int .i64 k ∧ Hid (∃ m, wr = w4.drewN m)) (fun v6 _ => n - (intOf v6).toNat)
  case atStart => exact ⟨0, Nat.zero_le _, rfl, HW5⟩
  case round =>
    clear HW5
    obtain ⟨k, hk, rfl, hw⟩ := hrel
    have HW := Lib.hid hw.out
    clear hw
    by_cases hkn : k < n
    · obtain ⟨b, off, hx, _, hc⟩ : ∃ b off, B = some ⟨b, off, none⟩ ∧ b < wr.heap.size ∧ wr.cell? ⟨b, off + k, none⟩ = some (.int .i64 (z k)) := by
        obtain ⟨m, rfl⟩ := HW.out
        exact A4.out.at_ hkn
      subst hx
      have hg : wr.cell? ⟨gb, k, none⟩ = some (.pointer (some ⟨G k, 0, none⟩)) := by
        obtain ⟨m, rfl⟩ := HW.out
        exact R4.out.cell hkn
      obtain ⟨nx, nd⟩ : ∃ nx, ND wr (G k) nx r (z k) (decide (m ≤ z k)) := by
        obtain ⟨m, rfl⟩ := HW.out
        exact AF4.out k hkn
      obtain ⟨v, hv⟩ : ∃ v, z k = v := ⟨_, rfl⟩
      obtain ⟨u, hu⟩ : ∃ u, G k = u := ⟨_, rfl⟩
      rw [hv] at hc nd
      rw [hu] at hg nd
      have ND1 := Lib.hid nd
      have e1 : (v != v) = false := by simp
      have e3 : (decide (m ≤ v) != decide (m ≤ v)) = false := by simp
      clear hv hu nd
      clear e3
      by_cases hmv0 : m ≤ v
      case' pos => have hmv : decide (m ≤ v) = true := by simpa using hmv0
      case' neg => have hmv : decide (m ≤ v) = false := by simpa using hmv0
      all_goals
        rw [hmv] at ND1
        go_wp2
        go_quiet ((go_at_call 15; exact quiet_left (uv_closed (World.rowIs.of_block ND1.out rfl))))
        go_wp2
        go_quiet ((go_at_call 14; exact quiet_add_left (uv_index (World.rowIs.of_block ND1.out rfl))))
        go_wp2
        go_roundw
        case rel => exact ⟨k + 1, by omega, by go_num, Lib.hid (by obtain ⟨m, rfl⟩ := HW.out; exact ⟨_, by simp only [World.drewN_drewN]; rfl⟩)⟩
        case measure => simp [intOf]; omega
    · obtain rfl : k = n := by omega
      go_wp2
      go_ret
      obtain ⟨m5, rfl⟩ := HW.out
      exact ⟨rfl, K0.out.trans ((below_drewN S4.out.bel m5).mono K0.out.size)⟩
set_option maxHeartbeats 4000000 in
set_option maxRecDepth 100000 in
theorem law5 (A : Option Addr) (n c : Nat) (z : Nat → Int) (m1 m2 : Int) (w : World) (h : Arr w A n c (fun i => .int .i64 (z i))) :
    Calls Try.prog 5 #[.slice A n c, .int .i64 m1, .int .i64 m2] w fun e w' => e = .returned (.bool true) ∧ Below w.heap.size w w' := by
  have m0 := h.len
  unfold maxLen at m0
  have HA := Lib.hid h
  clear h
  go_enter Try.func5, Try.ntmps5
  go_wp2_with fail
  refine (bytes5 _ _ _ _ _ _ _ HA.out).mono ?_
  rintro e w' ⟨b, rfl, rfl, hb⟩
  cases b
  · go_wp2
    go_ret
    exact ⟨rfl, Below.refl _ _⟩
  have b1 := hb rfl
  clear hb
  by_cases t1 : 4096 < n
  · go_wp2
    go_ret
    exact ⟨rfl, Below.refl _ _⟩
  go_wp2_with fail
  refine (range_ok _ _ _ _ _ HA.out (by omega)).mono ?_
  rintro e w' ⟨b, rfl, rfl, hb⟩
  cases b
  · go_wp2
    go_ret
    exact ⟨rfl, Below.refl _ _⟩
  have hz := hb rfl
  have HZ := Lib.hid hz
  clear hb hz
  go_wp2_with fail
  refine (clone_ints _ _ _ _ _ HA.out (by omega)).mono ?_
  rintro e w1 ⟨B, rfl, o, k0⟩
  have aB := o.arr (by unfold maxLen; omega)
  have HB := Lib.hid aB
  have K0 := Lib.hid k0
  clear aB k0 o
  by_cases hmm : m2 < m1
  · go_wp2_with fail
    refine (build_ok _ _ _ _ 0 _ HB.out (by omega) HZ.out (by omega) (by omega)).mono ?_
    rintro e w2 hF
    obtain ⟨L, r, g, N, us, gb, G, rfl, bt, _⟩ := hF
    have BT := Lib.hid bt
    clear bt
    have cs := shut17 BT.out.st m1 (mark_le m1 us) (fun j v k => mark_lo) (fun j v k => mark_hi BT.out.st.asc)
    go_wp2_with fail
    refine cs.mono ?_
    rintro e w3 hF
    obtain ⟨rfl, s3, f3⟩ := hF
    rw [List.nil_append] at s3
    have hrow := found_row BT.out.st BT.out.row f3
    have S3 := Lib.hid s3
    have R3 := Lib.hid hrow
    clear s3 f3 hrow cs
    have cs := shut17 S3.out m2 (mark_le m2 _) (fun j v k => mark_lo) (fun j v k => mark_hi S3.out.asc)
    go_wp2_with fail
    refine cs.mono ?_
    rintro e w3b hF
    obtain ⟨rfl, s3, f3⟩ := hF
    have hAf := after_two BT.out.st.asc S3.out.asc s3 BT.out.mem
    have hrow := found_row S3.out R3.out f3
    have aB3 := HB.out.below s3.bel
    rw [show min m1 m2 = m2 by omega] at hAf
    have hsnd : ((us.take (mark m1 us)).take (mark m2 (us.take (mark m1 us)))).map Prod.snd = sd m2 (zl z n) := by
      rw [mark_snd S3.out.asc, mark_snd BT.out.st.asc, under_under, sd_under, BT.out.snd, show min m1 m2 = m2 by omega]
    have S3b := Lib.hid s3
    have AF := Lib.hid hAf
    have R3b := Lib.hid hrow
    have HB3 := Lib.hid aB3
    have SND := Lib.hid hsnd
    clear s3 f3 hAf hrow aB3 cs R3 hsnd
    go_wp2_with fail
    refine (sorted_ok _ _ _ _ m2 _ HB3.out (by omega)).mono ?_
    rintro e w4 hF
    obtain ⟨gq, cap, rfl, hor, _, k4⟩ := hF
    have hwant := want_cells (us := (us.take (mark m1 us)).take (mark m2 (us.take (mark m1 us)))) hor SND.out
    have hlen : (sd m2 (zl z n)).length ≤ 65536 := by have := sd_len m2 (zl z n); rw [zl_len] at this; omega
    have S4 := Lib.hid (S3b.out.below k4)
    have R4 := Lib.hid (Below.row k4 R3b.out R3b.out.lt)
    have A4 := Lib.hid (HB3.out.below k4)
    have AF4 : Hid (After w4 r n z G m2) := Lib.hid (fun i hi => by
      obtain ⟨nx, hn⟩ := AF.out i hi
      exact ⟨nx, Below.row k4 hn (World.rowIs.lt hn)⟩)
    have W4 := Lib.hid hwant
    clear hor k4 hwant AF R3b HB3 S3 S3b
    obtain ⟨ln, hln⟩ : ∃ ln, (sd m2 (zl z n)).length = ln := ⟨_, rfl⟩
    rw [hln] at hlen
    rw [hln]
    have HLN := Lib.hid hln
    clear hln
    have cc := cache_ok S4.out gq ln cap (by rw [← HLN.out]; exact W4.out.1) hlen W4.out.2
    go_wp2_with fail
    refine cc.mono ?_
    rintro e w5 ⟨rfl, hw5⟩
    have HW5 := Lib.hid hw5
    clear hw5 cc
    go_wp2
    go_loopw [10] (fun v6 wr => ∃ k : Nat, k ≤ n ∧ v6 = .int .i64 k ∧ Hid (∃ m, wr = w4.drewN m)) (fun v6 _ => n - (intOf v6).toNat)
    case atStart => exact ⟨0, Nat.zero_le _, rfl, HW5⟩
    case round =>
      clear HW5
      obtain ⟨k, hk, rfl, hw⟩ := hrel
      have HW := Lib.hid hw.out
      clear hw
      by_cases hkn : k < n
      · obtain ⟨b, off, hx, _, hc⟩ : ∃ b off, B = some ⟨b, off, none⟩ ∧ b < wr.heap.size ∧ wr.cell? ⟨b, off + k, none⟩ = some (.int .i64 (z k)) := by
          obtain ⟨m, rfl⟩ := HW.out
          exact A4.out.at_ hkn
        subst hx
        have hg : wr.cell? ⟨gb, k, none⟩ = some (.pointer (some ⟨G k, 0, none⟩)) := by
          obtain ⟨m, rfl⟩ := HW.out
          exact R4.out.cell hkn
        obtain ⟨nx, nd⟩ : ∃ nx, ND wr (G k) nx r (z k) (decide (m2 ≤ z k)) := by
          obtain ⟨m, rfl⟩ := HW.out
          exact AF4.out k hkn
        obtain ⟨v, hv⟩ : ∃ v, z k = v := ⟨_, rfl⟩
        obtain ⟨u, hu⟩ : ∃ u, G k = u := ⟨_, rfl⟩
        rw [hv] at hc nd
        rw [hu] at hg nd
        have ND1 := Lib.hid nd
        clear hv hu nd
        by_cases hmv0 : m2 ≤ v
        case' pos => have hmv : decide (m2 ≤ v) = true := by simpa using hmv0
        case' neg => have hmv : decide (m2 ≤ v) = false := by simpa using hmv0
        all_goals
          rw [hmv] at ND1
          go_wp2
          go_quiet ((go_at_call 15; exact quiet_left (uv_closed (World.rowIs.of_block ND1.out rfl))))
          go_wp2
          go_roundw
          case rel => exact ⟨k + 1, by omega, by go_num, Lib.hid (by obtain ⟨m, rfl⟩ := HW.out; exact ⟨_, World.drewN_drewN _ _ _⟩)⟩
          case measure => simp [intOf]; omega
      · obtain rfl : k = n := by omega
        go_wp2
        go_ret
        obtain ⟨m5, rfl⟩ := HW.out
        exact ⟨rfl, K0.out.trans ((below_drewN S4.out.bel m5).mono K0.out.size)⟩
  · go_wp2_with fail
    refine (build_ok _ _ _ _ 0 _ HB.out (by omega) HZ.out (by omega) (by omega)).mono ?_
    rintro e w2 hF
    obtain ⟨L, r, g, N, us, gb, G, rfl, bt, _⟩ := hF
    have BT := Lib.hid bt
    clear bt
    have cs := shut17 BT.out.st m1 (mark_le m1 us) (fun j v k => mark_lo) (fun j v k => mark_hi BT.out.st.asc)
    go_wp2_with fail
    refine cs.mono ?_
    rintro e w3 hF
    obtain ⟨rfl, s3, f3⟩ := hF
    rw [List.nil_append] at s3
    have hrow := found_row BT.out.st BT.out.row f3
    have S3 := Lib.hid s3
    have R3 := Lib.hid hrow
    clear s3 f3 hrow cs
    have cs := shut17 S3.out m2 (mark_le m2 _) (fun j v k => mark_lo) (fun j v k => mark_hi S3.out.asc)
    go_wp2_with fail
    refine cs.mono ?_
    rintro e w3b hF
    obtain ⟨rfl, s3, f3⟩ := hF
    have hAf := after_two BT.out.st.asc S3.out.asc s3 BT.out.mem
    have hrow := found_row S3.out R3.out f3
    have aB3 := HB.out.below s3.bel
    rw [show min m1 m2 = m1 by omega] at hAf
    have hsnd : ((us.take (mark m1 us)).take (mark m2 (us.take (mark m1 us)))).map Prod.snd = sd m1 (zl z n) := by
      rw [mark_snd S3.out.asc, mark_snd BT.out.st.asc, under_under, sd_under, BT.out.snd, show min m1 m2 = m1 by omega]
    have S3b := Lib.hid s3
    have AF := Lib.hid hAf
    have R3b := Lib.hid hrow
    have HB3 := Lib.hid aB3
    have SND := Lib.hid hsnd
    clear s3 f3 hAf hrow aB3 cs R3 hsnd
    go_wp2_with fail
    refine (sorted_ok _ _ _ _ m1 _ HB3.out (by omega)).mono ?_
    rintro e w4 hF
    obtain ⟨gq, cap, rfl, hor, _, k4⟩ := hF
    have hwant := want_cells (us := (us.take (mark m1 us)).take (mark m2 (us.take (mark m1 us)))) hor SND.out
    have hlen : (sd m1 (zl z n)).length ≤ 65536 := by have := sd_len m1 (zl z n); rw [zl_len] at this; omega
    have S4 := Lib.hid (S3b.out.below k4)
    have R4 := Lib.hid (Below.row k4 R3b.out R3b.out.lt)
    have A4 := Lib.hid (HB3.out.below k4)
    have AF4 : Hid (After w4 r n z G m1) := Lib.hid (fun i hi => by
      obtain ⟨nx, hn⟩ := AF.out i hi
      exact ⟨nx, Below.row k4 hn (World.rowIs.lt hn)⟩)
    have W4 := Lib.hid hwant
    clear hor k4 hwant AF R3b HB3 S3 S3b
    obtain ⟨ln, hln⟩ : ∃ ln, (sd m1 (zl z n)).length = ln := ⟨_, rfl⟩
    rw [hln] at hlen
    rw [hln]
    have HLN := Lib.hid hln
    clear hln
    have cc := cache_ok S4.out gq ln cap (by rw [← HLN.out]; exact W4.out.1) hlen W4.out.2
    go_wp2_with fail
    refine cc.mono ?_
    rintro e w5 ⟨rfl, hw5⟩
    have HW5 := Lib.hid hw5
    clear hw5 cc
    go_wp2
    go_loopw [10] (fun v6 wr => ∃ k : Nat, k ≤ n ∧ v6 = .int .i64 k ∧ Hid (∃ m, wr = w4.drewN m)) (fun v6 _ => n - (intOf v6).toNat)
    case atStart => exact ⟨0, Nat.zero_le _, rfl, HW5⟩
    case round =>
      clear HW5
      obtain ⟨k, hk, rfl, hw⟩ := hrel
      have HW := Lib.hid hw.out
      clear hw
      by_cases hkn : k < n
      · obtain ⟨b, off, hx, _, hc⟩ : ∃ b off, B = some ⟨b, off, none⟩ ∧ b < wr.heap.size ∧ wr.cell? ⟨b, off + k, none⟩ = some (.int .i64 (z k)) := by
          obtain ⟨m, rfl⟩ := HW.out
          exact A4.out.at_ hkn
        subst hx
        have hg : wr.cell? ⟨gb, k, none⟩ = some (.pointer (some ⟨G k, 0, none⟩)) := by
          obtain ⟨m, rfl⟩ := HW.out
          exact R4.out.cell hkn
        obtain ⟨nx, nd⟩ : ∃ nx, ND wr (G k) nx r (z k) (decide (m1 ≤ z k)) := by
          obtain ⟨m, rfl⟩ := HW.out
          exact AF4.out k hkn
        obtain ⟨v, hv⟩ : ∃ v, z k = v := ⟨_, rfl⟩
        obtain ⟨u, hu⟩ : ∃ u, G k = u := ⟨_, rfl⟩
        rw [hv] at hc nd
        rw [hu] at hg nd
        have ND1 := Lib.hid nd
        clear hv hu nd
        by_cases hmv0 : m1 ≤ v
        case' pos => have hmv : decide (m1 ≤ v) = true := by simpa using hmv0
        case' neg => have hmv : decide (m1 ≤ v) = false := by simpa using hmv0
        all_goals
          rw [hmv] at ND1
          go_wp2
          go_quiet ((go_at_call 15; exact quiet_left (uv_closed (World.rowIs.of_block ND1.out rfl))))
          go_wp2
          go_roundw
          case rel => exact ⟨k + 1, by omega, by go_num, Lib.hid (by obtain ⟨m, rfl⟩ := HW.out; exact ⟨_, World.drewN_drewN _ _ _⟩)⟩
          case measure => simp [intOf]; omega
      · obtain rfl : k = n := by omega
        go_wp2
        go_ret
        obtain ⟨m5, rfl⟩ := HW.out
        exact ⟨rfl, K0.out.trans ((below_drewN S4.out.bel m5).mono K0.out.size)⟩
end Go.Proofs.Ytmmjeohpolfopaa
