/- The count of the traceback's lines, and the law's two other checks of her input. -/
import Derived.Test.YtlpnagpdjkgbcaaFmtWhr
namespace Go.Proofs.YtlpnagpdjkgbcaaFmt
set_option linter.unusedVariables false
open Go.RowKit Go.ChangeShapes Go.Deep
def CntPost (w : World) (q : Int) (e : Ending) (w' : World) : Prop := e = .returned (.int .i64 q) ∧ Below w.heap.size w w'
theorem ts_le {n : Nat} {z : Nat → FR} {src : ByteArray} (ok : FOK n z src) {k : Nat} (hk : k ≤ n) : ts z k ≤ ts z n := by
  obtain ⟨d, rfl⟩ : ∃ d, n = k + d := ⟨n - k, by omega⟩
  have : ∀ e, e ≤ d → ts z k ≤ ts z (k + e) := by
    intro e
    induction e with
    | zero => intro _; exact Int.le_refl _
    | succ e ih =>
      intro he
      have h1 := ih (by omega)
      have h2 := ok.tail (k + e) (by omega)
      rw [show k + (e + 1) = (k + e) + 1 by omega, ts]
      omega
  exact this d (Nat.le_refl _)
set_option maxRecDepth 100000 in
set_option maxHeartbeats 2000000 in
theorem count15 (A : Option Addr) (n c : Nat) (z : Nat → FR) (src : ByteArray) (w : World) (ha : Fms w A n c z) (ok : FOK n z src) :
    Calls Tryf.prog 15 #[.slice A n c] w (CntPost w (1 + n + ts z n)) := by
  have hn := ok.hn
  have hsum := ok.sum
  have HA := Lib.hid ha
  have OK := Lib.hid ok
  clear ha ok
  obtain ⟨TN, hTN⟩ : ∃ TN, ts z n = TN := ⟨_, rfl⟩
  rw [hTN] at hsum
  have HTN := Lib.hid hTN
  rw [hTN]
  clear hTN
  go_enter Tryf.func15, Tryf.ntmps15
  go_wp2
  go_loopw [3, 4] (fun v3 v4 wr => ∃ (k : Nat) (S : Int), k ≤ n ∧ v4 = .int .i64 k ∧ v3 = .int .i64 S ∧ 1 ≤ S ∧ S ≤ 70000 ∧ Hid (S = 1 + k + ts z k) ∧ Hid (Below w.heap.size w wr)) (fun _ v _ => n - (intOf v).toNat)
  case atStart => exact ⟨0, _, Nat.zero_le _, rfl, rfl, by omega, by omega, Lib.hid rfl, Lib.hid (Below.refl _ _)⟩
  case round =>
    obtain ⟨k, S, hk, rfl, rfl, s0, s1, HS, HB⟩ := hrel
    by_cases hkn : k < n
    · obtain ⟨b, off, hx, hlt, c0, c1, c2, c3, c4⟩ := (HA.out.below HB.out).at_ hkn
      subst hx
      have hz := OK.out.tail k hkn
      have ht := ts_le OK.out (k := k + 1) hkn
      have HN : Hid (S + (1 + zt (z k)) = 1 + ((k + 1 : Nat) : Int) + ts z (k + 1)) := Lib.hid (by rw [ts, HS.out]; omega)
      have hb1 : S + (1 + zt (z k)) ≤ 70000 := by rw [HN.out]; have := HTN.out; omega
      have t := tail19 (z k) wr
      obtain ⟨Z, hZ⟩ : ∃ Z, zt (z k) = Z := ⟨_, rfl⟩
      rw [hZ] at HN hb1 hz t
      obtain ⟨hz1, hz2⟩ := hz
      have HB1 := Lib.hid (below_one HB.out (.cells #[.bool (z k).g, .int .i64 (z k).line, .int .i64 (z k).tail, .string (z k).name, .int .i64 (z k).pc] 36))
      clear hZ ht
      go_wp2_with fail
      refine t.mono ?_
      clear t c0 c1 c2 c3 c4
      rintro e w1 ⟨rfl, rfl⟩
      generalize (wr.alloc (.cells #[.bool (z k).g, .int .i64 (z k).line, .int .i64 (z k).tail, .string (z k).name, .int .i64 (z k).pc] 36)) = W1 at *
      go_wp2
      go_roundw
      case rel => exact ⟨k + 1, _, by omega, by go_num, rfl, by omega, by omega, HN, HB1⟩
      case measure => simp [intOf]; omega
    · obtain rfl : k = n := by omega
      have HE : Hid (S = 1 + k + TN) := Lib.hid (by rw [HS.out, HTN.out])
      go_wp2
      go_ret
      exact ⟨by rw [HE.out]; rfl, HB.out⟩
/-- Whether the check passes is not said. -/
def SomeBW (w : World) (e : Ending) (w' : World) : Prop := ∃ b : Bool, e = .returned (.bool b) ∧ Below w.heap.size w w'
set_option maxRecDepth 100000 in
set_option maxHeartbeats 2000000 in
theorem unfold7 (A : Option Addr) (n c : Nat) (z : Nat → FR) (src : ByteArray) (w : World) (ha : Fms w A n c z) (ok : FOK n z src) :
    Calls Tryf.prog 7 #[.slice A n c, .string src] w (SomeBW w) := by
  have hn := ok.hn
  have hs := ok.hs
  have c15 := count15 A n c z src w ha ok
  obtain ⟨T, hT⟩ : ∃ T, 1 + (n : Int) + ts z n = T := ⟨_, rfl⟩
  rw [hT] at c15
  have HA := Lib.hid ha
  have OK := Lib.hid ok
  clear ha ok hT
  go_enter Tryf.func7, Tryf.ntmps7
  go_wp2_with fail
  refine c15.mono ?_
  clear c15
  rintro e w1 ⟨rfl, hb⟩
  have HA1 := Lib.hid (HA.out.below hb)
  have HB := Lib.hid hb
  clear hb
  go_wp2
  go_loop [6, 7] (fun v6 v7 => ∃ (k : Nat) (M : Int), k ≤ n ∧ v7 = .int .i64 k ∧ v6 = .int .i64 M ∧ 0 ≤ M ∧ M ≤ 1048576) (fun _ v => n - (intOf v).toNat)
  case atStart => exact ⟨0, _, Nat.zero_le _, rfl, rfl, by omega, by omega⟩
  case round =>
    obtain ⟨k, M, hk, rfl, rfl, s0, s1⟩ := hrel
    by_cases hkn : k < n
    · obtain ⟨b, off, hx, hlt, c0, c1, c2, c3, c4⟩ := HA1.out.at_ hkn
      subst hx
      have hsz := OK.out.name k hkn
      by_cases u : M < ((z k).name.size : Int)
      · go_wp2
        go_round
        case rel => exact ⟨k + 1, _, by omega, by go_num, rfl, by omega, by omega⟩
        case measure => simp [intOf]; omega
      · go_wp2
        go_round
        case rel => exact ⟨k + 1, _, by omega, by go_num, rfl, by omega, by omega⟩
        case measure => simp [intOf]; omega
    · obtain rfl : k = n := by omega
      have d0 : ¬ 2 * (src.size : Int) + M + 64 = 0 := by omega
      go_wp2
      go_ret
      exact ⟨_, rfl, HB.out⟩
set_option maxRecDepth 100000 in
theorem bytes5 (A : Option Addr) (n c : Nat) (z : Nat → FR) (src : ByteArray) (ld : Int) (child : Bool) (lv : Int) (w : World) (ha : Fms w A n c z) (hw : ∀ i, i < n → (z i).name.size ≤ maxLen) (hs : src.size ≤ maxLen) :
    Calls Tryf.prog 5 #[.slice A n c, .string src, .int .i64 ld, .bool child, .int .i64 lv] w (SomeB ((∀ i, i < n → (z i).name.size ≤ 1048576) ∧ src.size ≤ 1048576) w) := by
  have m1 := ha.len
  unfold maxLen at m1 hs hw
  by_cases b1 : 1048576 < n
  · go_enter Tryf.func5, Tryf.ntmps5
    go_wp2
    go_ret
    exact ⟨false, rfl, rfl, fun h => by cases h⟩
  · have e1 : n ≤ 1048576 := by omega
    have HA := Lib.hid ha
    have HW := Lib.hid hw
    clear ha hw
    go_enter Tryf.func5, Tryf.ntmps5
    go_wp2
    go_loop [11, 12] (fun t i => ∃ (k : Nat) (q : Int), k ≤ n ∧ i = .int .i64 k ∧ t = .int .i64 q ∧ 0 ≤ q ∧ q ≤ 1048576 ∧ Hid (∀ i, i < k → (z i).name.size ≤ 1048576)) (fun _ i => n - (intOf i).toNat)
    case atStart => exact ⟨0, _, Nat.zero_le _, rfl, rfl, by omega, by omega, Lib.hid (fun i hi => by omega)⟩
    case round =>
      obtain ⟨k, q, hk, rfl, rfl, hq, hr, HN⟩ := hrel
      by_cases hkn : k < n
      · obtain ⟨b, off, hx, hlt, c0, c1, c2, c3, c4⟩ := HA.out.at_ hkn
        subst hx
        have hsz := HW.out k hkn
        by_cases u1 : 1048576 < (z k).name.size
        · go_wp2
          go_ret
          exact ⟨false, rfl, rfl, fun h => by cases h⟩
        · have u1' : (z k).name.size ≤ 1048576 := by omega
          by_cases u2 : 1048576 < q + ((z k).name.size : Int)
          · go_wp2
            go_ret
            exact ⟨false, rfl, rfl, fun h => by cases h⟩
          · have u2' : q + ((z k).name.size : Int) ≤ 1048576 := by omega
            have HN2 := Lib.hid (show ∀ i, i < k + 1 → (z i).name.size ≤ 1048576 from fun i hi => by
              by_cases e : i = k
              · exact e ▸ u1'
              · exact HN.out i (by omega))
            go_wp2
            go_round
            case rel => exact ⟨k + 1, _, by omega, by go_num, rfl, by omega, by omega, HN2⟩
            case measure => simp [intOf]; omega
      · obtain rfl : k = n := by omega
        by_cases u1 : 1048576 < src.size
        · go_wp2
          go_ret
          exact ⟨false, rfl, rfl, fun h => by cases h⟩
        · have u1' : src.size ≤ 1048576 := by omega
          by_cases u2 : 1048576 < q + (src.size : Int)
          · go_wp2
            go_ret
            exact ⟨false, rfl, rfl, fun h => by cases h⟩
          · have u2' : q + (src.size : Int) ≤ 1048576 := by omega
            go_wp2
            go_ret
            exact ⟨true, rfl, rfl, fun _ => by first | exact ⟨HN.out, u1'⟩ | exact HN.out⟩
end Go.Proofs.YtlpnagpdjkgbcaaFmt
