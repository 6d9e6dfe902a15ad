import Derived.Test.YtmaidembpbolpaaProg
import Derived.Test.YtmaidembpbolpaaHp
import Derived.Test.YtmaidembpbolpaaLnMath
import Derived.Test.YtmaidembpbolpaaOr
import Derived.Test.YtmaidembpbolpaaHelp
import Derived.Test.YtmaidembpbolpaaBuild
import Derived.WalkKit
import Derived.WalkSpells
import Derived.WalkLawsBesides
import Derived.Lib.Hide
import Derived.Lib.Builder
import Derived.OpenShut
import Derived.Handy
import Derived.LaidEqlPtr
import Derived.Laws.EntriesVeiled
import Derived.Deep.QuietTactic
import Derived.BigQuiet
import Derived.RegionTactic
import Derived.BigRegion
import Derived.Deep.AppendLies
namespace Go.Proofs.Ytmaidembpbolpaa
open Go.RowKit Go.ChangeShapes Go.Deep
theorem acts_lt (p : Nat → Bool) {k j i : Nat} (h : (acts p k)[j]? = some i) : i < k ∧ p i = true ∧ cnt p i = j := by
  induction k with
  | zero => simp [acts] at h
  | succ k ih =>
    rw [acts_succ] at h
    split at h
    · rename_i hp
      by_cases hj : j < (acts p k).length
      · rw [List.getElem?_append_left hj] at h
        obtain ⟨h1, h2, h3⟩ := ih h
        exact ⟨by omega, h2, h3⟩
      · rw [List.getElem?_append_right (by omega)] at h
        have hz : j - (acts p k).length = 0 := by
          rcases Nat.eq_zero_or_pos (j - (acts p k).length) with h0 | h0
          · exact h0
          · rw [List.getElem?_eq_none (by simp; omega)] at h; cases h
        rw [hz] at h
        simp at h
        subst h
        exact ⟨by omega, hp, by unfold cnt; omega⟩
    · obtain ⟨h1, h2, h3⟩ := ih h
      exact ⟨by omega, h2, h3⟩
/-- What the answer of LocalName must be, beside the list of the names alive. -/
theorem ans_found {zn : Nat → ByteArray} {ze : Nat → Int} {pc r : Int} {R i : Nat} (hi : i < R) (hp : pc < ze i) (_hr : r = (cnt (fun i => decide (pc < ze i)) i + 1 : Nat)) :
    ((acts (fun i => decide (pc < ze i)) R).map (fun i => Value.string (zn i)))[cnt (fun i => decide (pc < ze i)) i]? = some (.string (zn i)) ∧ cnt (fun i => decide (pc < ze i)) i < cnt (fun i => decide (pc < ze i)) R := by
  have h := acts_at (fun i => decide (pc < ze i)) hi (by simpa using hp)
  exact ⟨by rw [List.getElem?_map, h]; rfl, (List.getElem?_eq_some_iff.1 h).1⟩
theorem ans_no {ze : Nat → Int} {pc r : Int} {R : Nat} (h : ∀ i, i < R → pc < ze i → r ≠ (cnt (fun i => decide (pc < ze i)) i + 1 : Nat)) : r < 1 ∨ (cnt (fun i => decide (pc < ze i)) R : Int) < r := by
  rcases Int.lt_or_le r 1 with h1 | h1
  · exact .inl h1
  · right
    rcases Int.lt_or_le (cnt (fun i => decide (pc < ze i)) R : Int) r with h2 | h2
    · exact h2
    · exfalso
      obtain ⟨j, rfl⟩ : ∃ j : Nat, r = (j : Int) + 1 := ⟨(r - 1).toNat, by omega⟩
      have hj : j < (acts (fun i => decide (pc < ze i)) R).length := by show j < cnt _ _; omega
      obtain ⟨a, b, c⟩ := acts_lt (fun i => decide (pc < ze i)) (List.getElem?_eq_getElem hj)
      exact h _ a (by simpa using b) (by rw [c]; rfl)
theorem info9 : (Try.prog.info? 9).map (fun i => (i.zero, i.size, i.bytes)) = some (some (.string ByteArray.empty), 1, 16) := by kernel_rfl
set_option maxHeartbeats 1000000 in
set_option maxRecDepth 100000 in
theorem law4 (A0 : Option Addr) (n0 c0 : Nat) (z0 : Nat → ByteArray) (A1 : Option Addr) (n1 c1 : Nat) (z1 : Nat → Int) (A2 : Option Addr) (n2 c2 : Nat) (z2 : Nat → Int) (r pc : Int) (w : World)
    (h0 : Arr w A0 n0 c0 (fun i => .string (z0 i))) (h1 : Arr w A1 n1 c1 (fun i => .int .i64 (z1 i))) (h2 : Arr w A2 n2 c2 (fun i => .int .i64 (z2 i))) (hr0 : -9223372036854775808 ≤ r) (hr1 : r ≤ 9223372036854775807) :
    Calls Try.prog 4 #[.slice A0 n0 c0, .slice A1 n1 c1, .slice A2 n2 c2, .int .i64 r, .int .i64 pc] w fun e w' => e = .returned (.bool true) ∧ Below w.heap.size w w' := by
  have m0 := h0.len
  have m1 := h1.len
  have m2 := h2.len
  unfold maxLen at m0 m1 m2
  go_enter Try.func4, Try.ntmps4
  go_wp2_with fail
  refine (bytes4 _ _ _ _ _ _ _ _ _ _ _ _ _ _ _ h0 h1 h2).mono ?_
  rintro e w' ⟨b, rfl, rfl, hb⟩
  cases b
  · go_wp2
    go_ret
    exact ⟨rfl, Below.refl _ _⟩
  obtain ⟨b0, b1, b2⟩ := hb rfl
  by_cases t0 : 65536 < n0
  · go_wp2
    go_ret
    exact ⟨rfl, Below.refl _ _⟩
  by_cases t1 : 65536 < n1
  · go_wp2
    go_ret
    exact ⟨rfl, Below.refl _ _⟩
  by_cases t2 : 65536 < n2
  · go_wp2
    go_ret
    exact ⟨rfl, Below.refl _ _⟩
  go_wp2_with fail
  refine (toobig _ _ _ z0 _ _ _ _ _ _ _ h0 (by omega) (by omega) (by omega)).mono ?_
  rintro e w' ⟨b, rfl, rfl, hb⟩
  cases b
  · obtain ⟨rfl, rfl⟩ := hb rfl
    clear hb
    go_wp2_with fail
    refine (clone_strs _ _ _ _ _ h0 (by omega)).mono ?_
    rintro e w1 ⟨B0, rfl, o0, k0⟩
    go_wp2_with fail
    refine (clone_ints _ _ _ _ _ (h1.below k0) (by omega)).mono ?_
    rintro e w2 ⟨B1, rfl, o1, k1⟩
    go_wp2_with fail
    refine (clone_ints _ _ _ _ _ ((h2.below k0).below k1) (by omega)).mono ?_
    rintro e w3 ⟨B2, rfl, o2, k2⟩
    have a0 := ((o0.arr (by unfold maxLen; omega)).below k1).below k2
    have a1 := (o1.arr (by unfold maxLen; omega)).below k2
    have a2 := o2.arr (by unfold maxLen; omega)
    go_wp2_with fail
    refine (build_ok _ _ _ _ _ _ _ _ _ _ _ a0 a1 a2 (by omega)).mono ?_
    rintro e w4 ⟨p, q, d, X, rfl, hfn, k3⟩
    have a0' := a0.below k3
    have a1' := a1.below k3
    have a2' := a2.below k3
    have K : Below w.heap.size w w4 := ((k0.trans (k1.mono k0.size)).trans (k2.mono (Nat.le_trans k0.size k1.size))).trans (k3.mono (Nat.le_trans (Nat.le_trans k0.size k1.size) k2.size))
    clear o0 o1 o2 a0 a1 a2 h0 h1 h2 k0 k1 k2 k3
    obtain ⟨R, hR0, hR1, hR2⟩ : ∃ R : Nat, R ≤ n2 ∧ (∀ i, i < R → z1 i < pc) ∧ (R < n2 → ¬ z1 R < pc) :=
      ⟨run (fun i => decide (z1 i < pc)) n2, run_le _ _, fun i hi => by simpa using run_lt (fun i => decide (z1 i < pc)) hi, fun h => by simpa using run_stop (fun i => decide (z1 i < pc)) h⟩
    go_wp2_with fail
    refine (localname hfn (by omega) r pc hr0 hr1 R hR0 hR1 (fun h => by have := hR2 h; omega)).mono ?_
    rintro e w' ⟨rfl, s, b, rfl, hans⟩
    have ANS := Lib.hid hans
    have HR1 := Lib.hid hR1
    have HR2 := Lib.hid hR2
    have KK := Lib.hid K
    obtain ⟨C, hC, hmk⟩ := or_make (P := Try.prog) 29 9 (.string ByteArray.empty) 16 Try.underlying29 info9 rfl R (by omega) (by omega)
    have HC := Lib.hid hC
    have HMK := Lib.hid hmk
    clear hans hR1 hR2 K hC hmk
    go_wp2
    go_loop [14] (fun i => ∃ k : Nat, k ≤ R ∧ i = .int .i64 k) (fun i => n2 - (intOf i).toNat)
    case atStart => exact ⟨0, Nat.zero_le _, rfl⟩
    case round =>
      obtain ⟨k, hk, rfl⟩ := hrel
      by_cases hkR : k < R
      · obtain ⟨b, off, hx, _, hc⟩ := a1'.at_ (show k < n2 by omega)
        subst hx
        have hlt := HR1.out k hkR
        have hkn : k < n2 := by omega
        clear a0' a1' a2'
        go_wp2
        go_round
        case rel => exact ⟨k + 1, by omega, by go_num⟩
        case measure => simp [intOf]; omega
      · obtain rfl : k = R := by omega
        have hmk := HMK.out
        have w4lt : w.heap.size ≤ w4.heap.size := KK.out.size
        rcases Nat.lt_or_ge k n2 with hkn | hkn
        case' inl =>
          obtain ⟨b, off, hx, _, hcR⟩ := a1'.at_ hkn
          have hlt := HR2.out hkn
          subst hx
          clear HR1 HR2
          go_wp2
        case' inr =>
          clear HR1 HR2
          go_wp2
        all_goals
          go_loopw [15, 16] (fun v i wr => ∃ (j cap g : Nat), j ≤ k ∧ i = .int .i64 j ∧ v = .slice (some ⟨g, 0, none⟩) (cnt (fun i => decide (pc < z2 i)) j) cap ∧ OR wr 9 g (cnt (fun i => decide (pc < z2 i)) j) cap ((acts (fun i => decide (pc < z2 i)) j).map (fun i => .string (z0 i))) ∧ Below w4.heap.size w4 wr ∧ w4.heap.size ≤ g) (fun _ i _ => k - (intOf i).toNat)
          case atStart => exact ⟨0, k, _, Nat.zero_le _, rfl, rfl, World.ownsRow_made w4 C k (Nat.zero_le _) (by unfold maxLen; omega) (by simpa using HC.out), by go_grown, Nat.le_refl _⟩
          case round =>
            obtain ⟨j, cap, g, hj, rfl, rfl, hown, hb, hg⟩ := hrel
            have hc := cnt_le (fun i => decide (pc < z2 i)) j
            have hcs := cnt_succ (fun i => decide (pc < z2 i)) j
            have has := acts_succ (fun i => decide (pc < z2 i)) j
            have hgl := hown.lt'
            have hwl := hb.size
            by_cases hjk : j < k
            · obtain ⟨b0, o0, e0, l0, d0⟩ := (a0'.below hb).at_ (show j < n2 by omega)
              obtain ⟨b2, o2, e2, l2, d2⟩ := (a2'.below hb).at_ (show j < n2 by omega)
              have hjn : j < n2 := by omega
              subst e0
              subst e2
              by_cases t : pc < z2 j
              · simp only [t, decide_true, if_true] at hcs has
                obtain ⟨N, hN⟩ : ∃ N, cnt (fun i => decide (pc < z2 i)) j = N := ⟨_, rfl⟩
                obtain ⟨i0, hi0, hz0, hz1, hz2⟩ := info_parts info9
                rw [hN] at hown hc hcs
                have CS := Lib.hid hcs
                have AS := Lib.hid has
                have HB := Lib.hid hb
                rw [hN]
                clear hcs has hb a0' a1' a2' hmk hN
                go_wp2_with (at_builtin; refine wpList_append_lies _ rfl (.tmp 85) (.tmp 90) 29 rfl 0 9 i0 (.string ByteArray.empty) 1 16 Try.underlying29 hi0 hz0 hz1 hz2 rfl (by decide) _ _ _ rfl (World.ownsRow.alloc hown _) ⟨wr.heap.size, 0, none⟩ 1 1 [.string (z0 j)] rfl rfl (or_news _ _ _ _ rfl) (by intro u hu; simp at hu; subst hu; rfl) (by omega) (by unfold maxLen; omega) (by omega) (Nat.zero_le _) _ rfl ?_; intro g4 c4 w5 hown4 hgr4 hat4 hlt4)
                have hg4 : w4.heap.size ≤ g4 := by
                  rcases hat4 with h | h
                  · have : g = g4 := Option.some.inj h
                    omega
                  · simp at h; omega
                go_roundw
                case rel =>
                  refine ⟨j + 1, c4, g4, by omega, by go_num, by rw [CS.out], ?_, below_app HB.out hwl hgr4 hg, hg4⟩
                  rw [CS.out, AS.out, List.map_append]
                  exact hown4
                case measure => simp [intOf]; omega
              · simp only [t, decide_false, Bool.false_eq_true, if_false] at hcs has
                have CS := Lib.hid hcs
                have AS := Lib.hid has
                have HB := Lib.hid hb
                have HO := Lib.hid hown
                clear hcs has hb hown a0' a1' a2' hmk
                go_wp2
                go_roundw
                case rel => exact ⟨j + 1, cap, g, by omega, by go_num, by rw [CS.out], by rw [CS.out, AS.out]; exact HO.out, HB.out, hg⟩
                case measure => simp [intOf]; omega
            · obtain rfl : j = k := by omega
              have hbel : Below w.heap.size w wr := KK.out.trans (hb.mono w4lt)
              rcases ANS.out with ⟨rfl, i, hi, hpi, hri, rfl⟩ | ⟨rfl, rfl, hno⟩
              · obtain ⟨f1, f2⟩ := ans_found (zn := z0) hi hpi hri
                have f3 := hown.at_ f2 f1
                obtain ⟨N, hN⟩ : ∃ N, cnt (fun i => decide (pc < z2 i)) i = N := ⟨_, rfl⟩
                obtain ⟨L, hL⟩ : ∃ L, cnt (fun i => decide (pc < z2 i)) j = L := ⟨_, rfl⟩
                rw [hN] at f2 f3 hri
                rw [hL] at f2 hc
                rw [hL]
                have hri' : r = (N : Int) + 1 := by omega
                have q1 : 1 ≤ r := by omega
                have q2 : r ≤ (L : Int) := by omega
                have q3 : (r - 1).toNat = N := by omega
                have q4 : 0 ≤ r - 1 := by omega
                have q5 : r - 1 < (L : Int) := by omega
                have HB := Lib.hid hbel
                obtain ⟨sv, hsv⟩ : ∃ sv, z0 i = sv := ⟨_, rfl⟩
                rw [hsv] at f3 ⊢
                have hee : (sv.toList == sv.toList) = true := by simp
                clear hsv f2 hri hri'
                clear a0' a1' a2' hmk hb hbel hcs has hown f1 ANS KK HMK HC hfn hpi hi hkR hk hR0 hjk
                go_wp2
                go_ret
                exact ⟨rfl, HB.out⟩
              · have hrr := ans_no hno
                obtain ⟨L, hL⟩ : ∃ L, cnt (fun i => decide (pc < z2 i)) j = L := ⟨_, rfl⟩
                rw [hL] at hrr hc
                rw [hL]
                have HB := Lib.hid hbel
                clear a0' a1' a2' hmk hb hbel hcs has hown ANS hno
                rcases hrr with hrr | hrr
                · go_wp2
                  go_ret
                  exact ⟨rfl, HB.out⟩
                · have hr2 : 1 ≤ r := by omega
                  go_wp2
                  go_ret
                  exact ⟨rfl, HB.out⟩
  · go_wp2
    go_ret
    exact ⟨rfl, Below.refl _ _⟩
end Go.Proofs.Ytmaidembpbolpaa
