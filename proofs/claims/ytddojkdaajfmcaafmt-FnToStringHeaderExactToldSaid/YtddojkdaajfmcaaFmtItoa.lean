/- The law's own numeral: zzItoa gives the decimal digits. -/
import Derived.Test.YtddojkdaajfmcaaFmtTell
import Derived.Laws.IdiomStrings
import Derived.RowKit
import Derived.Deep.OwnRows
import Derived.Lib.ItoaMem
namespace Go.Proofs.YtddojkdaajfmcaaFmt
set_option linter.unusedVariables false
open Go.RowKit Go.ChangeShapes Go.Deep
/-- The digits of what is left: none of nothing. -/
def dd (u : Nat) : List UInt8 := if u = 0 then [] else Lib.decDigits u
theorem dd_step (u : Nat) (h : u ≠ 0) : dd u = dd (u / 10) ++ [UInt8.ofNat (48 + u % 10)] := by
  unfold dd
  rw [if_neg h]
  by_cases h1 : u < 10
  · rw [if_pos (by omega), Lib.decDigits, dif_pos h1, Nat.mod_eq_of_lt h1]
    rfl
  · rw [if_neg (by omega), Lib.decDigits, dif_neg h1]
def SomeS (l : List UInt8) (w : World) (e : Ending) (w' : World) : Prop := ∃ s : ByteArray, e = .returned (.string s) ∧ s = ⟨l.toArray⟩ ∧ Below w.heap.size w w'
theorem itoa0 (w : World) : Calls Tryf.prog 6 #[.int .i64 0] w (SomeS (Lib.itoa 0) w) := by
  go_enter Tryf.func6, Tryf.ntmps6
  go_wp2
  go_ret
  exact ⟨_, rfl, by rw [show Lib.itoa 0 = Lib.decDigits 0 from rfl, Lib.decDigits, dif_pos (by decide)]; rfl, Below.refl _ _⟩
/-- What lies in the buffer: from place i on the digits L. -/
structure IB (W0 w : World) (i : Nat) (L : List UInt8) : Prop where
  row : ∃ f, w.rowIs W0.heap.size 28 24 f ∧ ∀ j (hj : j < L.length), f (i + j) = .int .u8 (L[j].toNat : Int)
  len : i + L.length = 24
  bel : Below W0.heap.size W0 w
theorem IB.put {W0 w : World} {i i' : Nat} {L : List UInt8} (h : IB W0 w i L) (hi : i = i' + 1) (c : UInt8) {v : Int} (hv : v = c.toNat) : IB W0 (w.setCell ⟨W0.heap.size, i', none⟩ (.int .u8 v)) i' (c :: L) := by
  obtain ⟨⟨f, hr, hf⟩, hl, hb⟩ := h
  subst hv hi
  refine ⟨⟨_, hr.set i' _, fun j hj => ?_⟩, by simp; omega, hb.setCell (Nat.le_refl _) _⟩
  cases j with
  | zero => simp
  | succ j =>
    simp only [List.length_cons] at hj
    have := hf j (by omega)
    rw [show i' + (j + 1) = i' + 1 + j by omega]
    rw [if_neg (by omega)]
    simpa using this
theorem IB.str {W0 w : World} {i : Nat} {L : List UInt8} (h : IB W0 w i L) {n cap : Nat} (hn : n = L.length) : (convert 29 9 (.slice (some ⟨W0.heap.size, i, none⟩) n cap)).run Tryf.prog w = .ok (.string ⟨L.toArray⟩) w := by
  obtain ⟨⟨f, hr, hf⟩, hl, hb⟩ := h
  subst hn
  refine run_convert_bytes_back (P := Tryf.prog) w 29 9 5 ⟨W0.heap.size, i, none⟩ cap L Tryf.underlying29 Tryf.underlying5 Tryf.underlying9 (fun j hj => ?_)
  have hc := hr.cell (i := i + j) (by omega)
  rw [hf j hj] at hc
  simp only [Addr.add]
  split
  · rename_i h0
    subst h0
    exact hc
  · exact hc
/-- The state at the head of the loop. -/
def IL (W0 : World) (neg : Bool) (u0 : Nat) (v0 v5 : Value) (w : World) : Prop :=
  ∃ (u i k : Nat) (v : Int) (L : List UInt8), v0 = .int .i64 v ∧ v5 = .int .i64 i ∧ v = (if neg then -(u : Int) else u) ∧ u < 10 ^ k ∧ 17 + k ≤ i ∧ i ≤ 24 ∧ dd u0 = dd u ++ L ∧ IB W0 w i L
theorem il_start (W0 : World) (neg : Bool) (u0 : Nat) (h : u0 < 10000000) {a : Array Value} (ha : a = #[.int .u8 0, .int .u8 0, .int .u8 0, .int .u8 0, .int .u8 0, .int .u8 0, .int .u8 0, .int .u8 0, .int .u8 0, .int .u8 0, .int .u8 0, .int .u8 0, .int .u8 0, .int .u8 0, .int .u8 0, .int .u8 0, .int .u8 0, .int .u8 0, .int .u8 0, .int .u8 0, .int .u8 0, .int .u8 0, .int .u8 0, .int .u8 0]) {v : Int} (hv : v = if neg then -(u0 : Int) else u0) :
    IL W0 neg u0 (.int .i64 v) (.int .i64 24) (W0.alloc (.cells a 28)) := by
  subst ha
  refine ⟨u0, 24, 7, v, [], rfl, rfl, hv, by omega, by omega, by omega, by simp, ⟨⟨fun _ => .int .u8 0, ?_, fun j hj => by cases hj⟩, rfl, (Below.refl _ _).alloc (Nat.le_refl _) _⟩⟩
  exact World.rowIs_alloc W0 (Array.replicate 24 (Value.int .u8 0)) 28 (fun _ => .int .u8 0) (fun i hi => by
    have hi2 : i < 24 := by simpa using hi
    simp [hi2])
theorem len28 : Tryf.prog.arrayLen 28 = 24 := by kernel_rfl
theorem und28 : Tryf.prog.underlying 28 = some (.array (Tryf.prog.arrayLen 28) (Tryf.prog.elem 28)) := by kernel_rfl
theorem size28 (w : World) : (sizeOf (Tryf.prog.elem 28)).run Tryf.prog w = .ok 1 w := by kernel_rfl
theorem slice28 (W : World) (B i M : Nat) (l : Int) (hl : l = i) (hi : i < 24) (hM : M = 24 - i) :
    (Instr.sliceAt 28 (.pointer (some ⟨B, 0, none⟩)) (some (.int .i64 l)) none none).run Tryf.prog W = .ok (.slice (some ⟨B, i, none⟩) M M) W := by
  subst hl hM
  rw [run_sliceAt_array_l W 28 ⟨B, 0, none⟩ und28 .i64 _ (by omega) (by rw [len28]; omega), size28, len28]
  simp only [Result.andThen_ok, slicedAt, Int.toNat_natCast, Nat.mul_one]
  rw [if_neg (by omega)]
  simp only [Addr.add]
  split
  · rename_i h0; rw [h0]
  · simp
set_option maxHeartbeats 1000000 in
theorem itoaN (n : Int) (u0 : Nat) (hu : 0 < u0) (hu2 : u0 < 10000000) (hn : n = -(u0 : Int)) (w : World) : Calls Tryf.prog 6 #[.int .i64 n] w (SomeS (Lib.itoa n) w) := by
  have n0 : ¬ n = 0 := by omega
  have n1 : (n == 0) = false := by simp [n0]
  have n2 : n < 0 := by omega
  have HN := Lib.hid hn
  clear hn
  go_enter Tryf.func6, Tryf.ntmps6
  go_wp2
  go_loopw [0, 5] (fun v0 v5 wr => IL w true u0 v0 v5 wr) (fun v _ _ => (intOf v).natAbs)
  case atStart => exact il_start w true u0 hu2 rfl HN.out
  case round =>
    obtain ⟨u, i, k, v, L, rfl, rfl, hv, hk, hi1, hi2, hd, B⟩ := hrel
    have HB := Lib.hid B
    have HD := Lib.hid hd
    clear B hd
    simp only [if_true] at hv
    obtain ⟨i', hi'⟩ : ∃ i', i = i' + 1 := ⟨i - 1, by omega⟩
    have HI := Lib.hid hi'
    have j1 : 0 ≤ (i : Int) - 1 := by omega
    have j2 : (i : Int) - 1 < 24 := by omega
    have j3 : ((i : Int) - 1).toNat = i' := by omega
    have j4 : (i : Int) - 1 = (i' : Int) := by omega
    have hi3 : i' < 24 := by omega
    have HJ4 := Lib.hid j4
    clear hi' j4
    obtain ⟨f, hr, _⟩ := HB.out.row
    have c1 := hr.cell (i := i') hi3
    have f1 := hr.frozen i'
    clear hr
    by_cases hu0 : u = 0
    · have v0 : v = 0 := by omega
      subst v0
      subst hu0
      obtain ⟨M, hM⟩ : ∃ M, M = 24 - i' := ⟨_, rfl⟩
      have hsl := fun W => slice28 W w.heap.size i' M _ HJ4.out hi3 hM
      have B2 := HB.out.put HI.out 45 (v := 45) rfl
      have hcv := B2.str (n := M) (cap := M) (by have := B2.len; omega)
      have HB2 := Lib.hid B2
      clear hv hk hM B2
      go_wp2
      go_ret
      refine ⟨_, rfl, ?_, HB2.out.bel⟩
      have h1 := HD.out
      have h2 : Lib.itoa n = 45 :: Lib.decDigits u0 := by rw [HN.out]; exact Lib.itoa_neg u0 hu
      rw [h2]
      unfold dd at h1
      rw [if_neg (by omega), if_pos rfl, List.nil_append] at h1
      rw [h1]
    · have v1 : v < 0 := by omega
      have v2 : ¬ v = 0 := by omega
      have v3 : (v != 0) = true := by simp [v2]
      obtain ⟨d, hdd⟩ : ∃ d, u % 10 = d := ⟨_, rfl⟩
      have hd9 : d ≤ 9 := by omega
      have ht : v.tmod 10 = -(d : Int) := by rw [hv, Int.neg_tmod, Int.tmod_eq_emod_of_nonneg (by omega)]; omega
      obtain ⟨v', hv'⟩ : ∃ v', v.tdiv 10 = v' := ⟨_, rfl⟩
      have hq : v' = -((u / 10 : Nat) : Int) := by rw [← hv', hv, Int.neg_tdiv, Int.tdiv_eq_ediv_of_nonneg (by omega)]; omega
      have hpos : 0 < u := by omega
      have hw1 : -10000000 ≤ v' := by
        have h10 : 10 ^ k ≤ 10 ^ 7 := Nat.pow_le_pow_right (by omega) (by omega)
        omega
      have hw2 : v' ≤ 0 := by omega
      have hk1 : 1 ≤ k := by
        rcases Nat.eq_zero_or_pos k with h | h
        · subst h; simp at hk; omega
        · exact h
      have hk2 : u / 10 < 10 ^ (k - 1) := by
        obtain ⟨k', rfl⟩ : ∃ k', k = k' + 1 := ⟨k - 1, by omega⟩
        rw [Nat.pow_succ] at hk
        simp only [Nat.add_sub_cancel]
        omega
      have hi4 : 17 + (k - 1) ≤ i' := by have := HI.out; omega
      have hd2 : dd u0 = dd (u / 10) ++ (UInt8.ofNat (48 + d) :: L) := by
        rw [HD.out, dd_step u hu0, hdd, List.append_assoc]
        rfl
      have hm : v'.natAbs < v.natAbs := by omega
      have B2 := HB.out.put HI.out (UInt8.ofNat (48 + d)) (v := 48 + (d : Int)) (by rw [UInt8.toNat_ofNat']; omega)
      have hfin := Lib.hid (show ∃ (k' : Nat), u / 10 < 10 ^ k' ∧ 17 + k' ≤ i' from ⟨k - 1, hk2, hi4⟩)
      have HR := Lib.hid (And.intro hq (And.intro hd2 (And.intro B2 hm)))
      clear hq hd2 B2 hk hk1 hk2 hi4 hdd hm hv hpos HD HB
      rcases Nat.eq_zero_or_pos d with hd0 | hd0
      · subst hd0
        have ht0 : v.tmod 10 = 0 := ht
        clear ht
        go_wp2
        go_roundw
        case rel =>
          obtain ⟨k', a1, a2⟩ := hfin.out
          exact ⟨u / 10, i', k', v', _, rfl, by rw [HJ4.out], by rw [if_pos rfl]; exact HR.out.1, a1, a2, by omega, HR.out.2.1, HR.out.2.2.1⟩
        case measure => simpa [intOf] using HR.out.2.2.2
      · have hneg : -(d : Int) < 0 := by omega
        have hnn : - -(d : Int) = (d : Int) := by omega
        go_wp2
        go_roundw
        case rel =>
          obtain ⟨k', a1, a2⟩ := hfin.out
          exact ⟨u / 10, i', k', v', _, rfl, by rw [HJ4.out], by rw [if_pos rfl]; exact HR.out.1, a1, a2, by omega, HR.out.2.1, HR.out.2.2.1⟩
        case measure => simpa [intOf] using HR.out.2.2.2
set_option maxHeartbeats 1000000 in
theorem itoaP (n : Int) (u0 : Nat) (hu : 0 < u0) (hu2 : u0 < 10000000) (hn : n = (u0 : Int)) (w : World) : Calls Tryf.prog 6 #[.int .i64 n] w (SomeS (Lib.itoa n) w) := by
  have n0 : ¬ n = 0 := by omega
  have n1 : (n == 0) = false := by simp [n0]
  have n2 : ¬ n < 0 := by omega
  have HN := Lib.hid hn
  clear hn
  go_enter Tryf.func6, Tryf.ntmps6
  go_wp2
  go_loopw [0, 5] (fun v0 v5 wr => IL w false u0 v0 v5 wr) (fun v _ _ => (intOf v).natAbs)
  case atStart => exact il_start w false u0 hu2 rfl HN.out
  case round =>
    obtain ⟨u, i, k, v, L, rfl, rfl, hv, hk, hi1, hi2, hd, B⟩ := hrel
    have HB := Lib.hid B
    have HD := Lib.hid hd
    clear B hd
    rw [if_neg (by simp)] at hv
    by_cases hu0 : u = 0
    · have v0 : v = 0 := by omega
      subst v0
      subst hu0
      have hLp : 0 < L.length := by
        have h1 := HD.out
        unfold dd at h1
        rw [if_neg (by omega), if_pos rfl, List.nil_append] at h1
        rw [← h1, Lib.decDigits_length]
        exact Lib.nDigits_pos u0
      have hLl := HB.out.len
      have hi3 : i < 24 := by omega
      obtain ⟨M, hM⟩ : ∃ M, M = 24 - i := ⟨_, rfl⟩
      have hsl := fun W => slice28 W w.heap.size i M _ rfl hi3 hM
      have hcv := HB.out.str (n := M) (cap := M) (by omega)
      clear hv hk hM hLp hLl
      go_wp2
      go_ret
      refine ⟨_, rfl, ?_, HB.out.bel⟩
      have h1 := HD.out
      have h2 : Lib.itoa n = Lib.decDigits u0 := by rw [HN.out]; exact Lib.itoa_nonneg u0
      rw [h2]
      unfold dd at h1
      rw [if_neg (by omega), if_pos rfl, List.nil_append] at h1
      rw [h1]
    · have v1 : 0 ≤ v := by omega
      have v2 : ¬ v = 0 := by omega
      have v3 : (v != 0) = true := by simp [v2]
      have v4 : v ≤ 10000000 := by
        have h10 : 10 ^ k ≤ 10 ^ 7 := Nat.pow_le_pow_right (by omega) (by omega)
        omega
      obtain ⟨i', hi'⟩ : ∃ i', i = i' + 1 := ⟨i - 1, by omega⟩
      have HI := Lib.hid hi'
      have j1 : 0 ≤ (i : Int) - 1 := by omega
      have j2 : (i : Int) - 1 < 24 := by omega
      have j3 : ((i : Int) - 1).toNat = i' := by omega
      have j4 : (i : Int) - 1 = (i' : Int) := by omega
      have hi3 : i' < 24 := by omega
      have HJ4 := Lib.hid j4
      clear hi' j4
      obtain ⟨f, hr, _⟩ := HB.out.row
      have c1 := hr.cell (i := i') hi3
      have f1 := hr.frozen i'
      clear hr
      obtain ⟨d, hdd⟩ : ∃ d, u % 10 = d := ⟨_, rfl⟩
      have hd9 : d ≤ 9 := by omega
      have ht : v % 10 = (d : Int) := by omega
      obtain ⟨v', hv'⟩ : ∃ v', v / 10 = v' := ⟨_, rfl⟩
      have hq : v' = ((u / 10 : Nat) : Int) := by omega
      have hpos : 0 < u := by omega
      have hk1 : 1 ≤ k := by
        rcases Nat.eq_zero_or_pos k with h | h
        · subst h; simp at hk; omega
        · exact h
      have hk2 : u / 10 < 10 ^ (k - 1) := by
        obtain ⟨k', rfl⟩ : ∃ k', k = k' + 1 := ⟨k - 1, by omega⟩
        rw [Nat.pow_succ] at hk
        simp only [Nat.add_sub_cancel]
        omega
      have hi4 : 17 + (k - 1) ≤ i' := by have := HI.out; omega
      have hd2 : dd u0 = dd (u / 10) ++ (UInt8.ofNat (48 + d) :: L) := by
        rw [HD.out, dd_step u hu0, hdd, List.append_assoc]
        rfl
      have hm : v'.natAbs < v.natAbs := by omega
      have B2 := HB.out.put HI.out (UInt8.ofNat (48 + d)) (v := 48 + (d : Int)) (by rw [UInt8.toNat_ofNat']; omega)
      have hfin := Lib.hid (show ∃ (k' : Nat), u / 10 < 10 ^ k' ∧ 17 + k' ≤ i' from ⟨k - 1, hk2, hi4⟩)
      have HR := Lib.hid (And.intro hq (And.intro hd2 (And.intro B2 hm)))
      clear hq hd2 B2 hk hk1 hk2 hi4 hdd hm hv hpos HD HB
      go_wp2
      go_roundw
      case rel =>
        obtain ⟨k', a1, a2⟩ := hfin.out
        exact ⟨u / 10, i', k', v', _, by rw [hv'], by rw [HJ4.out], by rw [if_neg (by simp)]; exact HR.out.1, a1, a2, by omega, HR.out.2.1, HR.out.2.2.1⟩
      case measure => simpa [intOf, hv'] using HR.out.2.2.2
theorem itoa_any (n : Int) (h1 : -9000000 ≤ n) (h2 : n ≤ 9000000) (w : World) : Calls Tryf.prog 6 #[.int .i64 n] w (SomeS (Lib.itoa n) w) := by
  rcases Int.lt_trichotomy n 0 with h | h | h
  · exact itoaN n n.natAbs (by omega) (by omega) (by omega) w
  · subst h; exact itoa0 w
  · exact itoaP n n.natAbs (by omega) (by omega) (by omega) w
end Go.Proofs.YtddojkdaajfmcaaFmt
