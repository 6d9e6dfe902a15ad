/- What the law's own checks of her input say; the count of elided calls. -/
import Derived.Test.YtlpnagpdjkgbcaaFmtFr
namespace Go.Proofs.YtlpnagpdjkgbcaaFmt
set_option linter.unusedVariables false
open Go.RowKit Go.ChangeShapes Go.Deep
/-- The frame's count of elided tail calls. -/
def zt (f : FR) : Int := if f.g then 0 else f.tail
def ts (z : Nat → FR) : Nat → Int
  | 0 => 0
  | k + 1 => ts z k + zt (z k)
def SomeI2 (w : World) (e : Ending) (w' : World) : Prop := ∃ b : Bool, e = .returned (.bool b) ∧ w = w'
structure FOK (n : Nat) (z : Nat → FR) (src : ByteArray) : Prop where
  hn : n ≤ 4096
  hs : src.size ≤ 65536
  name : ∀ i, i < n → (z i).name.size ≤ 1048576
  tail : ∀ i, i < n → 0 ≤ zt (z i) ∧ zt (z i) ≤ 65536
  sum : ts z n ≤ 65536
structure FPart (k : Nat) (z : Nat → FR) : Prop where
  name : ∀ i, i < k → (z i).name.size ≤ 1048576
  tail : ∀ i, i < k → 0 ≤ zt (z i) ∧ zt (z i) ≤ 65536
theorem FPart.step {k : Nat} {z : Nat → FR} (h : FPart k z) (h1 : (z k).name.size ≤ 1048576) (h2 : 0 ≤ zt (z k) ∧ zt (z k) ≤ 65536) : FPart (k + 1) z :=
  ⟨fun i hi => by
    by_cases e : i = k
    · exact e ▸ h1
    · exact h.name i (by omega), fun i hi => by
    by_cases e : i = k
    · exact e ▸ h2
    · exact h.tail i (by omega)⟩
theorem tail19 (f : FR) (w : World) : Calls Tryf.prog 19 #[.agg #[.bool f.g, .int .i64 f.line, .int .i64 f.tail, .string f.name, .int .i64 f.pc]] w fun e w' => e = .returned (.int .i64 (zt f)) ∧ w' = w.alloc (.cells #[.bool f.g, .int .i64 f.line, .int .i64 f.tail, .string f.name, .int .i64 f.pc] 36) := by
  cases hg : f.g
  · have e : zt f = f.tail := by simp [zt, hg]
    rw [e]
    go_enter Tryf.func19, Tryf.ntmps19
    go_wp2
    go_ret
    exact ⟨rfl, rfl⟩
  · have e : zt f = 0 := by simp [zt, hg]
    rw [e]
    go_enter Tryf.func19, Tryf.ntmps19
    go_wp2
    go_ret
    exact ⟨rfl, rfl⟩
set_option maxRecDepth 100000 in
set_option maxHeartbeats 1000000 in
theorem ok6 (A : Option Addr) (n c : Nat) (z : Nat → FR) (src : ByteArray) (w : World) (ha : Fms w A n c z) (hw : ∀ i, i < n → (z i).name.size ≤ 1048576) (hs : src.size ≤ 1048576) :
    Calls Tryf.prog 6 #[.slice A n c, .string src] w (SomeB (FOK n z src) w) := by
  have m1 := ha.len
  unfold maxLen at m1
  by_cases b1 : 4096 < n
  · go_enter Tryf.func6, Tryf.ntmps6
    go_wp2
    go_ret
    exact ⟨false, rfl, rfl, fun h => by cases h⟩
  · have e1 : n ≤ 4096 := by omega
    by_cases b2 : 65536 < src.size
    · go_enter Tryf.func6, Tryf.ntmps6
      go_wp2
      go_ret
      exact ⟨false, rfl, rfl, fun h => by cases h⟩
    · have e2 : src.size ≤ 65536 := by omega
      have HA := Lib.hid ha
      have HW := Lib.hid hw
      clear ha hw hs
      go_enter Tryf.func6, Tryf.ntmps6
      go_wp2
      go_loop [5, 6, 7] (fun v5 v6 v7 => ∃ (k : Nat) (T S : Int), k ≤ n ∧ v7 = .int .i64 k ∧ v5 = .int .i64 T ∧ v6 = .int .i64 S ∧ 0 ≤ T ∧ T ≤ 1048576 ∧ 0 ≤ S ∧ S ≤ 65536 ∧ Hid (S = ts z k) ∧ Hid (FPart k z)) (fun _ _ v => n - (intOf v).toNat)
      case atStart => exact ⟨0, _, _, Nat.zero_le _, rfl, rfl, rfl, by omega, by omega, by omega, by omega, Lib.hid rfl, Lib.hid ⟨fun i hi => by omega, fun i hi => by omega⟩⟩
      case round =>
        obtain ⟨k, T, S, hk, rfl, rfl, rfl, t0, t1, s0, s1, HS, HP⟩ := hrel
        by_cases hkn : k < n
        · obtain ⟨b, off, hx, hlt, c0, c1, c2, c3, c4⟩ := HA.out.at_ hkn
          subst hx
          have hsz := HW.out k hkn
          by_cases u1 : 1048576 < T + (z k).name.size
          · go_wp2
            go_ret
            exact ⟨false, rfl, rfl, fun h => by cases h⟩
          · have u2 : T + (z k).name.size ≤ 1048576 := by omega
            cases hg : (z k).g
            · have hz : zt (z k) = (z k).tail := by simp [zt, hg]
              have HZ := Lib.hid hz
              clear hz
              rw [hg] at c0
              by_cases v1 : (z k).tail < 0
              · have HG := Lib.hid hg
                clear hg
                go_wp2
                go_ret
                exact ⟨false, rfl, rfl, fun h => by cases h⟩
              · have v2 : 0 ≤ (z k).tail := by omega
                by_cases v3 : 65536 < (z k).tail
                · have HG := Lib.hid hg
                  clear hg
                  go_wp2
                  go_ret
                  exact ⟨false, rfl, rfl, fun h => by cases h⟩
                · have v4 : (z k).tail ≤ 65536 := by omega
                  by_cases v5 : 65536 < S + (z k).tail
                  · have HG := Lib.hid hg
                    clear hg
                    go_wp2
                    go_ret
                    exact ⟨false, rfl, rfl, fun h => by cases h⟩
                  · have v6 : S + (z k).tail ≤ 65536 := by omega
                    have HN : Hid (S + (z k).tail = ts z (k + 1)) := Lib.hid (by rw [ts, HZ.out, HS.out])
                    have HQ := Lib.hid (HP.out.step (by omega) (by rw [HZ.out]; omega))
                    have HG := Lib.hid hg
                    clear hg
                    go_wp2
                    go_round
                    case rel => exact ⟨k + 1, _, _, by omega, by go_num, rfl, rfl, by omega, by omega, by omega, by omega, HN, HQ⟩
                    case measure => simp [intOf]; omega
            · have hz : zt (z k) = 0 := by simp [zt, hg]
              have HN : Hid (S = ts z (k + 1)) := Lib.hid (by rw [ts, hz, HS.out]; omega)
              have HQ := Lib.hid (HP.out.step (by omega) (by rw [hz]; omega))
              rw [hg] at c0
              clear hz hg
              go_wp2
              go_round
              case rel => exact ⟨k + 1, _, _, by omega, by go_num, rfl, rfl, by omega, by omega, by omega, by omega, HN, HQ⟩
              case measure => simp [intOf]; omega
        · obtain rfl : k = n := by omega
          go_wp2
          go_ret
          exact ⟨true, rfl, rfl, fun _ => ⟨e1, e2, HP.out.name, HP.out.tail, by rw [← HS.out]; exact s1⟩⟩
set_option maxRecDepth 100000 in
theorem bytes12 (A : Option Addr) (n c : Nat) (z : Nat → FR) (src : ByteArray) (lv : Int) (w : World) (ha : Fms w A n c z) (hw : ∀ i, i < n → (z i).name.size ≤ maxLen) (hs : src.size ≤ maxLen) :
    Calls Tryf.prog 12 #[.slice A n c, .string src, .int .i64 lv] w (SomeB ((∀ i, i < n → (z i).name.size ≤ 1048576) ∧ src.size ≤ 1048576) w) := by
  have m1 := ha.len
  unfold maxLen at m1 hs hw
  by_cases b1 : 1048576 < n
  · go_enter Tryf.func12, Tryf.ntmps12
    go_wp2
    go_ret
    exact ⟨false, rfl, rfl, fun h => by cases h⟩
  · have e1 : n ≤ 1048576 := by omega
    have HA := Lib.hid ha
    have HW := Lib.hid hw
    clear ha hw
    go_enter Tryf.func12, Tryf.ntmps12
    go_wp2
    go_loop [7, 8] (fun t i => ∃ (k : Nat) (q : Int), k ≤ n ∧ i = .int .i64 k ∧ t = .int .i64 q ∧ 0 ≤ q ∧ q ≤ 1048576 ∧ Hid (∀ i, i < k → (z i).name.size ≤ 1048576)) (fun _ i => n - (intOf i).toNat)
    case atStart => exact ⟨0, _, Nat.zero_le _, rfl, rfl, by omega, by omega, Lib.hid (fun i hi => by omega)⟩
    case round =>
      obtain ⟨k, q, hk, rfl, rfl, hq, hr, HN⟩ := hrel
      by_cases hkn : k < n
      · obtain ⟨b, off, hx, hlt, c0, c1, c2, c3, c4⟩ := HA.out.at_ hkn
        subst hx
        have hsz := HW.out k hkn
        by_cases u1 : 1048576 < (z k).name.size
        · go_wp2
          go_ret
          exact ⟨false, rfl, rfl, fun h => by cases h⟩
        · have u1' : (z k).name.size ≤ 1048576 := by omega
          by_cases u2 : 1048576 < q + ((z k).name.size : Int)
          · go_wp2
            go_ret
            exact ⟨false, rfl, rfl, fun h => by cases h⟩
          · have u2' : q + ((z k).name.size : Int) ≤ 1048576 := by omega
            have HN2 := Lib.hid (show ∀ i, i < k + 1 → (z i).name.size ≤ 1048576 from fun i hi => by
              by_cases e : i = k
              · exact e ▸ u1'
              · exact HN.out i (by omega))
            go_wp2
            go_round
            case rel => exact ⟨k + 1, _, by omega, by go_num, rfl, by omega, by omega, HN2⟩
            case measure => simp [intOf]; omega
      · obtain rfl : k = n := by omega
        by_cases u1 : 1048576 < src.size
        · go_wp2
          go_ret
          exact ⟨false, rfl, rfl, fun h => by cases h⟩
        · have u1' : src.size ≤ 1048576 := by omega
          by_cases u2 : 1048576 < q + (src.size : Int)
          · go_wp2
            go_ret
            exact ⟨false, rfl, rfl, fun h => by cases h⟩
          · have u2' : q + (src.size : Int) ≤ 1048576 := by omega
            go_wp2
            go_ret
            exact ⟨true, rfl, rfl, fun _ => by first | exact ⟨HN.out, u1'⟩ | exact HN.out⟩
end Go.Proofs.YtlpnagpdjkgbcaaFmt
