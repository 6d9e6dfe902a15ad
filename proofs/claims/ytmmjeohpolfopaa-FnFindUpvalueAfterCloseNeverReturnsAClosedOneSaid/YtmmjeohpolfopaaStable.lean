/- The law FnFindUpvalueCacheIsSortedDistinctAndStable, walked; and what the other laws of this seat share with it. -/
import Derived.Test.YtmmjeohpolfopaaBuild
import Derived.Test.YtmmjeohpolfopaaShut
namespace Go.Proofs.Ytmmjeohpolfopaa
open Go.RowKit Go.ChangeShapes Go.Deep
section
variable {w0 w : World} {L r g N : Nat} {us ds : Nodes} {k : Int}
theorem find_old (h : St w0 w L r g N us ds) {v : Nat} (hm : (v, k) ∈ us) : Calls Try.prog 13 #[.pointer (some ⟨L, 0, none⟩), .int .i64 k] w fun e w' => e = .returned (.pointer (some ⟨v, 0, none⟩)) ∧ w = w' := by
  have hi := h.idx v k hm
  refine (uv_find13 h hi.1 hi.2).mono ?_
  rintro e w' ⟨u, us', rfl, _, _, h3 | ⟨i, _, _, _, _, h3⟩⟩
  · obtain ⟨h4, _, h5⟩ := h3
    refine ⟨?_, h4⟩
    obtain ⟨i, hi⟩ := at_mem hm
    obtain ⟨j, hj⟩ := at_mem h5
    have := asc_uniq h.asc hi hj
    subst this
    rw [hi] at hj
    cases hj
    rfl
  · exact absurd hm (h3 v)
theorem find_new (h : St w0 w L r g N us ds) (hk0 : 0 ≤ k) (hkN : k < N) (hno : ∀ v, (v, k) ∉ us) : Calls Try.prog 13 #[.pointer (some ⟨L, 0, none⟩), .int .i64 k] w fun e w' => ∃ u us', e = .returned (.pointer (some ⟨u, 0, none⟩)) ∧ St w0 w' L r g N us' ds ∧ Fr (Wr L us) w w' ∧ w.heap.size ≤ u ∧ (u, k) ∈ us' ∧ us'.map Prod.snd = ins k (us.map Prod.snd) := by
  refine (uv_find13 h hk0 hkN).mono ?_
  rintro e w' ⟨u, us', rfl, h1, h2, h3 | ⟨i, _, h4, h5, h6, h3⟩⟩
  · exact absurd h3.2.2 (hno u)
  · exact ⟨u, us', rfl, h1, h2, h5, by rw [h4]; exact put_mem.2 (.inl rfl), h6⟩
theorem shut17 (h : St w0 w L r g N us ds) (m : Int) {s : Nat} (hs : s ≤ us.length) (hlo : ∀ (j : Nat) v k, j < s → us[j]? = some (v, k) → k < m) (hhi : ∀ (j : Nat) v k, s ≤ j → us[j]? = some (v, k) → m ≤ k) :
    Calls Try.prog 17 #[.pointer (some ⟨L, 0, none⟩), .int .i64 m] w fun e w' => Closed w0 w w' L r g N us ds s e := by
  have c25 := uv_shut h m hs hlo hhi
  clear h hlo hhi
  go_enter Try.func17, Try.ntmps17
  go_wp2_with fail
  refine c25.mono ?_
  rintro e w' ⟨rfl, h1, h2⟩
  have H1 := Lib.hid h1
  have H2 := Lib.hid h2
  clear h1 h2 c25
  go_wp2
  go_end0
  exact ⟨rfl, H1.out, H2.out⟩
theorem under_lead {l : List Int} (h : Asc l) (m : Int) : under m l = l.take (lead m l) := by
  induction l with
  | nil => simp [under]
  | cons y l ih =>
    unfold Asc at h ih
    rw [List.pairwise_cons] at h
    by_cases hy : y < m
    · have e : lead m (y :: l) = lead m l + 1 := by simp [lead, hy]
      rw [e, List.take_succ_cons, ← ih h.2]
      simp [under, hy]
    · have e : lead m (y :: l) = 0 := by simp [lead, hy]
      rw [e, List.take_zero]
      unfold under
      rw [List.filter_eq_nil_iff]
      intro a ha
      rcases List.mem_cons.1 ha with rfl | ha
      · simpa using hy
      · have := h.1 a ha; simp; omega
def mark (m : Int) (us : Nodes) : Nat := lead m (us.map Prod.snd)
theorem mark_le (m : Int) (us : Nodes) : mark m us ≤ us.length := by
  have := lead_le m (us.map Prod.snd)
  simpa [mark] using this
theorem mark_lo {m : Int} {us : Nodes} {j v : Nat} {k : Int} (hj : j < mark m us) (h : us[j]? = some (v, k)) : k < m := lead_at hj (by rw [List.getElem?_map, h]; rfl)
theorem mark_hi {m : Int} {us : Nodes} (ha : Asc (us.map Prod.snd)) {j v : Nat} {k : Int} (hj : mark m us ≤ j) (h : us[j]? = some (v, k)) : m ≤ k := by
  have hl := (List.getElem?_eq_some_iff.1 h).1
  obtain ⟨⟨v', k'⟩, hx⟩ : ∃ x, us[mark m us]? = some x := ⟨_, List.getElem?_eq_getElem (by omega)⟩
  have h1 : ¬ k' < m := lead_stop (l := us.map Prod.snd) (by rw [List.getElem?_map]; show Option.map Prod.snd us[mark m us]? = _; rw [hx]; rfl)
  by_cases e : j = mark m us
  · subst e; rw [hx] at h; cases h; omega
  · have := asc_at ha hx h (by omega); omega
theorem mark_snd {m : Int} {us : Nodes} (ha : Asc (us.map Prod.snd)) : (us.take (mark m us)).map Prod.snd = under m (us.map Prod.snd) := by
  rw [List.map_take, under_lead ha]; rfl
theorem mark_mem {m : Int} {us : Nodes} (ha : Asc (us.map Prod.snd)) {v : Nat} {k : Int} (h : (v, k) ∈ us) : if k < m then (v, k) ∈ us.take (mark m us) else (v, k) ∈ us.drop (mark m us) := by
  obtain ⟨j, hj⟩ := at_mem h
  by_cases h1 : j < mark m us
  · rw [if_pos (mark_lo h1 hj)]
    exact mem_at (take_at.2 ⟨h1, hj⟩)
  · have := mark_hi ha (show mark m us ≤ j by omega) hj
    rw [if_neg (by omega)]
    refine List.mem_of_getElem? (i := j - mark m us) ?_
    rw [List.getElem?_drop, show mark m us + (j - mark m us) = j by omega]
    exact hj
theorem sd_all {z : Nat → Int} {n : Nat} (h : InRange n z) : sd 65536 (zl z n) = insAll [] (zl z n) := by
  unfold sd
  rw [under_all]
  intro x hx
  obtain ⟨i, hi, rfl⟩ := zl_mem.1 hx
  exact (h i hi).2
theorem sd_under (m : Int) (l : List Int) : sd m l = under m (insAll [] l) := by
  rw [under_insAll (by simp [Asc])]
  rfl
/-- The sorted list, cell by cell against the nodes. -/
theorem want_cells {gq cap : Nat} {l : List Int} (ho : OR w 3 gq l.length cap (vals l)) (he : us.map Prod.snd = l) : l.length = us.length ∧ ∀ (i u : Nat) (k : Int), us[i]? = some (u, k) → w.cell? ⟨gq, i, none⟩ = some (.int .i64 k) := by
  have hl : l.length = us.length := by rw [← he]; simp
  refine ⟨hl, fun i u k hi => ?_⟩
  have hlt := (List.getElem?_eq_some_iff.1 hi).1
  refine ho.at_ (by omega) ?_
  rw [← he]
  simp [hi]
theorem len_us {z : Nat → Int} {n : Nat} (h : us.map Prod.snd = insAll [] (zl z n)) : us.length ≤ n := by
  have := insAll_len [] (zl z n)
  have e : us.length = (us.map Prod.snd).length := by simp
  rw [e, h]
  simpa [zl_len] using this
end
theorem ptr_info : ∃ j, Try.prog.info? 47 = some j ∧ j.size ≠ 0 := by
  have h : (Try.prog.info? 47).map (fun i => i.size) = some 5 := by kernel_rfl
  obtain ⟨j, hj, hs⟩ := Option.map_eq_some_iff.1 h
  exact ⟨j, hj, by omega⟩
theorem ptr_neq_same (w : World) (u : Nat) : (binOp .neq 31 (.pointer (some ⟨u, 0, none⟩)) (.pointer (some ⟨u, 0, none⟩))).run Try.prog w = .ok (.bool false) w := by
  obtain ⟨j, hj, _⟩ := ptr_info
  exact Lib.run_neq_ptr_same (P := Try.prog) w ⟨u, 0, none⟩ Try.underlying31 hj
theorem ptr_eql_other {w : World} {u v n m : Nat} {e e' : TypeId} {f f' : Nat → Value} (hne : u ≠ v) (hu : w.rowIs u e n f) (hv : w.rowIs v e' m f') : (binOp .eql 31 (.pointer (some ⟨u, 0, none⟩)) (.pointer (some ⟨v, 0, none⟩))).run Try.prog w = .ok (.bool false) w := by
  obtain ⟨j, hj, hs⟩ := ptr_info
  obtain ⟨cu, hu, _⟩ := hu
  obtain ⟨cv, hv, _⟩ := hv
  exact run_eql_ptr_other (P := Try.prog) w (a := ⟨u, 0, none⟩) (b := ⟨v, 0, none⟩) Try.underlying31 hj hs (fun e => hne (by injection e)) hu hv
set_option maxHeartbeats 2000000 in
set_option maxRecDepth 100000 in
theorem law3 (A : Option Addr) (n c : Nat) (z : Nat → Int) (w : World) (h : Arr w A n c (fun i => .int .i64 (z i))) :
    Calls Try.prog 3 #[.slice A n c] w fun e w' => e = .returned (.bool true) ∧ Below w.heap.size w w' := by
  have m0 := h.len
  unfold maxLen at m0
  have HA := Lib.hid h
  clear h
  go_enter Try.func3, Try.ntmps3
  go_wp2_with fail
  refine (bytes3 _ _ _ _ _ HA.out).mono ?_
  rintro e w' ⟨b, rfl, rfl, hb⟩
  cases b
  · go_wp2
    go_ret
    exact ⟨rfl, Below.refl _ _⟩
  have b1 := hb rfl
  clear hb
  by_cases t1 : 4096 < n
  · go_wp2
    go_ret
    exact ⟨rfl, Below.refl _ _⟩
  go_wp2_with fail
  refine (range_ok _ _ _ _ _ HA.out (by omega)).mono ?_
  rintro e w' ⟨b, rfl, rfl, hb⟩
  cases b
  · go_wp2
    go_ret
    exact ⟨rfl, Below.refl _ _⟩
  have hz := hb rfl
  have HZ := Lib.hid hz
  clear hb hz
  go_wp2_with fail
  refine (clone_ints _ _ _ _ _ HA.out (by omega)).mono ?_
  rintro e w1 ⟨B, rfl, o, k0⟩
  have aB := o.arr (by unfold maxLen; omega)
  have HB := Lib.hid aB
  have K0 := Lib.hid k0
  clear aB k0 o
  go_wp2_with fail
  refine (build_ok _ _ _ _ 0 _ HB.out (by omega) HZ.out (by omega) (by omega)).mono ?_
  rintro e w2 hF
  obtain ⟨L, r, g, N, us, gb, G, rfl, bt, _⟩ := hF
  have aB2 := HB.out.below bt.st.bel
  have HB2 := Lib.hid aB2
  have BT := Lib.hid bt
  clear bt aB2
  go_wp2_with fail
  refine (sorted_ok _ _ _ _ 65536 _ HB2.out (by omega)).mono ?_
  rintro e w3 hF
  obtain ⟨gq, cap, rfl, hor, _, k3⟩ := hF
  have hwant := want_cells (us := us) hor (by rw [sd_all HZ.out]; exact BT.out.snd)
  have hlen : (sd 65536 (zl z n)).length ≤ 65536 := by have := sd_len 65536 (zl z n); rw [zl_len] at this; omega
  have S3 := Lib.hid (BT.out.st.below k3)
  have R3 := Lib.hid (Below.row k3 BT.out.row BT.out.row.lt)
  have A3 := Lib.hid (HB2.out.below k3)
  have W3 := Lib.hid hwant
  clear hor k3 hwant
  obtain ⟨ln, hln⟩ : ∃ ln, (sd 65536 (zl z n)).length = ln := ⟨_, rfl⟩
  rw [hln] at hlen
  rw [hln]
  have HLN := Lib.hid hln
  clear hln
  have cc := cache_ok S3.out gq ln cap (by rw [← HLN.out]; exact W3.out.1) hlen W3.out.2
  go_wp2_with fail
  refine cc.mono ?_
  rintro e w4 ⟨rfl, hw4⟩
  have HW4 := Lib.hid hw4
  clear hw4 cc
  go_wp2
  go_loopw [6] (fun v6 wr => ∃ k : Nat, k ≤ n ∧ v6 = .int .i64 k ∧ Hid (∃ m, wr = w3.drewN m)) (fun v6 _ => n - (intOf v6).toNat)
  case atStart => exact ⟨0, Nat.zero_le _, rfl, HW4⟩
  case round =>
    clear HW4
    obtain ⟨k, hk, rfl, hw⟩ := hrel
    have HW := Lib.hid hw.out
    clear hw
    have S4 : Hid (St w1 wr L r g N us []) := Lib.hid (by obtain ⟨m, rfl⟩ := HW.out; exact S3.out.drewN m)
    by_cases hkn : k < n
    · have hmem := BT.out.mem k hkn
      obtain ⟨b, off, hx, _, hc⟩ : ∃ b off, B = some ⟨b, off, none⟩ ∧ b < wr.heap.size ∧ wr.cell? ⟨b, off + k, none⟩ = some (.int .i64 (z k)) := by
        obtain ⟨m, rfl⟩ := HW.out
        exact A3.out.at_ hkn
      subst hx
      have hg : wr.cell? ⟨gb, k, none⟩ = some (.pointer (some ⟨G k, 0, none⟩)) := by
        obtain ⟨m, rfl⟩ := HW.out
        exact R3.out.cell hkn
      obtain ⟨v, hv⟩ : ∃ v, z k = v := ⟨_, rfl⟩
      obtain ⟨u, hu⟩ : ∃ u, G k = u := ⟨_, rfl⟩
      rw [hv] at hc hmem
      rw [hu] at hg hmem
      obtain ⟨nx, nd⟩ := S4.out.node hmem
      have cf := find_old S4.out hmem
      have ND1 := Lib.hid nd
      have e1 : (v != v) = false := by simp
      have e2 := fun W => ptr_neq_same W u
      clear hv hu hmem nd
      go_wp2_with fail
      refine cf.mono ?_
      rintro e w5 ⟨rfl, rfl⟩
      clear cf
      go_wp2
      go_quiet ((first | (go_at_call 14; exact quiet_left (uv_index (World.rowIs.of_block ND1.out rfl))) | (go_at_call 15; exact quiet_left (uv_closed (World.rowIs.of_block ND1.out rfl)))))
      go_wp2
      go_roundw
      case rel => exact ⟨k + 1, by omega, by go_num, Lib.hid (by obtain ⟨m, rfl⟩ := HW.out; exact ⟨_, World.drewN_drewN _ _ _⟩)⟩
      case measure => simp [intOf]; omega
    · obtain rfl : k = n := by omega
      have hcell : ∀ (i u : Nat) (k : Int), us[i]? = some (u, k) → wr.cell? ⟨gq, i, none⟩ = some (.int .i64 k) := by
        obtain ⟨m, rfl⟩ := HW.out
        exact W3.out.2
      have cc := cache_ok S4.out gq ln cap (by rw [← HLN.out]; exact W3.out.1) hlen hcell
      clear hcell
      go_wp2_with fail
      refine cc.mono ?_
      rintro e w6 ⟨rfl, m6, rfl⟩
      clear cc
      go_wp2
      go_ret
      exact ⟨rfl, K0.out.trans ((below_drewN S4.out.bel m6).mono K0.out.size)⟩
end Go.Proofs.Ytmmjeohpolfopaa
