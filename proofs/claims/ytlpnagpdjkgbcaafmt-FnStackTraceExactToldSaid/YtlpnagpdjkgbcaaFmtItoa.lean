/- The law's own numeral: zzItoa gives the decimal digits. -/
import Derived.Test.YtlpnagpdjkgbcaaFmtWhr
import Derived.Laws.IdiomStrings
import Derived.RowKit
import Derived.Deep.OwnRows
import Derived.Lib.ItoaMem
namespace Go.Proofs.YtlpnagpdjkgbcaaFmt
set_option linter.unusedVariables false
open Go.RowKit Go.ChangeShapes Go.Deep
/-- The digits of what is left: none of nothing. -/
def dd (u : Nat) : List UInt8 := if u = 0 then [] else Lib.decDigits u
theorem dd_step (u : Nat) (h : u ≠ 0) : dd u = dd (u / 10) ++ [UInt8.ofNat (48 + u % 10)] := by
  unfold dd
  rw [if_neg h]
  by_cases h1 : u < 10
  · rw [if_pos (by omega), Lib.decDigits, dif_pos h1, Nat.mod_eq_of_lt h1]
    rfl
  · rw [if_neg (by omega), Lib.decDigits, dif_neg h1]
def SomeS (l : List UInt8) (w : World) (e : Ending) (w' : World) : Prop := ∃ s : ByteArray, e = .returned (.string s) ∧ s = ⟨l.toArray⟩ ∧ Below w.heap.size w w'
theorem itoa0 (w : World) : Calls Tryf.prog 35 #[.int .i64 0] w (SomeS (Lib.itoa 0) w) := by
  go_enter Tryf.func35, Tryf.ntmps35
  go_wp2
  go_ret
  exact ⟨_, rfl, by rw [show Lib.itoa 0 = Lib.decDigits 0 from rfl, Lib.decDigits, dif_pos (by decide)]; rfl, Below.refl _ _⟩
/-- What lies in the buffer: from place i on the digits L. -/
structure IB (W0 w : World) (i : Nat) (L : List UInt8) : Prop where
  row : ∃ f, w.rowIs W0.heap.size 112 24 f ∧ ∀ j (hj : j < L.length), f (i + j) = .int .u8 (L[j].toNat : Int)
  len : i + L.length = 24
  bel : Below W0.heap.size W0 w
theorem IB.put {W0 w : World} {i i' : Nat} {L : List UInt8} (h : IB W0 w i L) (hi : i = i' + 1) (c : UInt8) {v : Int} (hv : v = c.toNat) : IB W0 (w.setCell ⟨W0.heap.size, i', none⟩ (.int .u8 v)) i' (c :: L) := by
  obtain ⟨⟨f, hr, hf⟩, hl, hb⟩ := h
  subst hv hi
  refine ⟨⟨_, hr.set i' _, fun j hj => ?_⟩, by simp; omega, hb.setCell (Nat.le_refl _) _⟩
  cases j with
  | zero => simp
  | succ j =>
    simp only [List.length_cons] at hj
    have := hf j (by omega)
    rw [show i' + (j + 1) = i' + 1 + j by omega]
    rw [if_neg (by omega)]
    simpa using this
theorem IB.str {W0 w : World} {i : Nat} {L : List UInt8} (h : IB W0 w i L) {n cap : Nat} (hn : n = L.length) : (convert 102 9 (.slice (some ⟨W0.heap.size, i, none⟩) n cap)).run Tryf.prog w = .ok (.string ⟨L.toArray⟩) w := by
  obtain ⟨⟨f, hr, hf⟩, hl, hb⟩ := h
  subst hn
  refine run_convert_bytes_back (P := Tryf.prog) w 102 9 5 ⟨W0.heap.size, i, none⟩ cap L Tryf.underlying102 Tryf.underlying5 Tryf.underlying9 (fun j hj => ?_)
  have hc := hr.cell (i := i + j) (by omega)
  rw [hf j hj] at hc
  simp only [Addr.add]
  split
  · rename_i h0
    subst h0
    exact hc
  · exact hc
/-- The state at the head of the loop. -/
def IL (W0 : World) (u0 : Nat) (v4 v6 : Value) (w : World) : Prop :=
  ∃ (u i k : Nat) (L : List UInt8), v4 = .int .u64 u ∧ v6 = .int .i64 i ∧ u ≤ 9223372036854775808 ∧ u < 10 ^ k ∧ 4 + k ≤ i ∧ i ≤ 24 ∧ dd u0 = dd u ++ L ∧ IB W0 w i L
theorem il_start (W0 : World) (u0 : Nat) (h : u0 ≤ 9223372036854775808) {a : Array Value} (ha : a = #[.int .u8 0, .int .u8 0, .int .u8 0, .int .u8 0, .int .u8 0, .int .u8 0, .int .u8 0, .int .u8 0, .int .u8 0, .int .u8 0, .int .u8 0, .int .u8 0, .int .u8 0, .int .u8 0, .int .u8 0, .int .u8 0, .int .u8 0, .int .u8 0, .int .u8 0, .int .u8 0, .int .u8 0, .int .u8 0, .int .u8 0, .int .u8 0]) {v : Int} (hv : v = u0) :
    IL W0 u0 (.int .u64 v) (.int .i64 24) (W0.alloc (.cells a 112)) := by
  subst ha hv
  refine ⟨u0, 24, 19, [], rfl, rfl, h, by omega, by omega, by omega, by simp, ⟨⟨fun _ => .int .u8 0, ?_, fun j hj => by cases hj⟩, rfl, (Below.refl _ _).alloc (Nat.le_refl _) _⟩⟩
  exact World.rowIs_alloc W0 (Array.replicate 24 (Value.int .u8 0)) 112 (fun _ => .int .u8 0) (fun i hi => by
    have hi2 : i < 24 := by simpa using hi
    simp [hi2])
theorem len112 : Tryf.prog.arrayLen 112 = 24 := by kernel_rfl
theorem und112 : Tryf.prog.underlying 112 = some (.array (Tryf.prog.arrayLen 112) (Tryf.prog.elem 112)) := by kernel_rfl
theorem size112 (w : World) : (sizeOf (Tryf.prog.elem 112)).run Tryf.prog w = .ok 1 w := by kernel_rfl
theorem slice112 (W : World) (B i M : Nat) (l : Int) (hl : l = i) (hi : i < 24) (hM : M = 24 - i) :
    (Instr.sliceAt 112 (.pointer (some ⟨B, 0, none⟩)) (some (.int .i64 l)) none none).run Tryf.prog W = .ok (.slice (some ⟨B, i, none⟩) M M) W := by
  subst hl hM
  rw [run_sliceAt_array_l W 112 ⟨B, 0, none⟩ und112 .i64 _ (by omega) (by rw [len112]; omega), size112, len112]
  simp only [Result.andThen_ok, slicedAt, Int.toNat_natCast, Nat.mul_one]
  rw [if_neg (by omega)]
  simp only [Addr.add]
  split
  · rename_i h0; rw [h0]
  · simp
/-- A round of the loop. -/
theorem il_round {W0 w : World} {u0 u i i' k : Nat} {L : List UInt8} (hu : u ≤ 9223372036854775808) (hk : u < 10 ^ k) (hi1 : 4 + k ≤ i) (hi2 : i ≤ 24) (hd : dd u0 = dd u ++ L) (B : IB W0 w i L) (h0 : u ≠ 0) (hi : i = i' + 1) {v4 v6 x : Int} (h4 : v4 = ((u / 10 : Nat) : Int)) (h6 : v6 = i') (hx : x = 48 + ((u % 10 : Nat) : Int)) :
    IL W0 u0 (.int .u64 v4) (.int .i64 v6) (w.setCell ⟨W0.heap.size, i', none⟩ (.int .u8 x)) := by
  subst h4 h6 hx
  obtain ⟨k', rfl⟩ : ∃ k', k = k' + 1 := ⟨k - 1, by
    rcases Nat.eq_zero_or_pos k with h | h
    · subst h; simp at hk; omega
    · omega⟩
  rw [Nat.pow_succ] at hk
  exact ⟨u / 10, i', k', UInt8.ofNat (48 + u % 10) :: L, rfl, rfl, by omega, by omega, by omega, by omega, by rw [hd, dd_step u h0, List.append_assoc]; rfl, B.put hi (UInt8.ofNat (48 + u % 10)) (by rw [UInt8.toNat_ofNat']; omega)⟩
set_option maxHeartbeats 1000000 in
theorem itoaP (n : Int) (u0 : Nat) (hu : 0 < u0) (hu2 : u0 ≤ 9223372036854775807) (hn : n = (u0 : Int)) (w : World) : Calls Tryf.prog 35 #[.int .i64 n] w (SomeS (Lib.itoa n) w) := by
  have n0 : ¬ n = 0 := by omega
  have n1 : (n == 0) = false := by simp [n0]
  have n2 : ¬ n < 0 := by omega
  have n3 : 0 ≤ n := by omega
  have n4 : n ≤ 9223372036854775807 := by omega
  have HN := Lib.hid hn
  clear hn
  go_enter Tryf.func35, Tryf.ntmps35
  go_wp2
  go_loopw [4, 6] (fun v4 v6 wr => IL w u0 v4 v6 wr) (fun v _ _ => (intOf v).toNat)
  case atStart => exact il_start w u0 (by omega) rfl HN.out
  case round =>
    obtain ⟨u, i, k, L, rfl, rfl, hub, hk, hi1, hi2, hd, B⟩ := hrel
    have HB := Lib.hid B
    have HD := Lib.hid hd
    clear B hd
    by_cases hu0 : u = 0
    · subst hu0
      have hLp : 0 < L.length := by
        have h1 := HD.out
        unfold dd at h1
        rw [if_neg (by omega), if_pos rfl, List.nil_append] at h1
        rw [← h1, Lib.decDigits_length]
        exact Lib.nDigits_pos u0
      have hLl := HB.out.len
      have hi3 : i < 24 := by omega
      obtain ⟨M, hM⟩ : ∃ M, M = 24 - i := ⟨_, rfl⟩
      have hsl := fun W => slice112 W w.heap.size i M _ rfl hi3 hM
      have hcv := HB.out.str (n := M) (cap := M) (by omega)
      clear hk hM hLp hLl
      go_wp2
      go_ret
      refine ⟨_, rfl, ?_, HB.out.bel⟩
      have h1 := HD.out
      have h2 : Lib.itoa n = Lib.decDigits u0 := by rw [HN.out]; exact Lib.itoa_nonneg u0
      rw [h2]
      unfold dd at h1
      rw [if_neg (by omega), if_pos rfl, List.nil_append] at h1
      rw [h1]
    · obtain ⟨i', hi'⟩ : ∃ i', i = i' + 1 := ⟨i - 1, by omega⟩
      have hpos : 0 < u := by omega
      have j1 : 0 ≤ (i : Int) - 1 := by omega
      have j2 : (i : Int) - 1 < 24 := by omega
      have j3 : ((i : Int) - 1).toNat = i' := by omega
      have hi3 : i' < 24 := by omega
      obtain ⟨f, hr, _⟩ := HB.out.row
      have c1 := hr.cell (i := i') hi3
      have f1 := hr.frozen i'
      have HR := Lib.hid (fun v4 v6 x => il_round (v4 := v4) (v6 := v6) (x := x) hub hk hi1 hi2 HD.out HB.out hu0 hi')
      have hm0 : 0 ≤ (u : Int) % 10 := by omega
      have hm1 : (u : Int) % 10 ≤ 9 := by omega
      have HI := Lib.hid hi'
      clear hr hk hi'
      go_wp2
      go_roundw
      case rel => exact HR.out _ _ _ (by omega) (by have := HI.out; omega) (by omega)
      case measure => simp [intOf]; omega
theorem u64_wrap (v : Int) : IntKind.u64.wrap v = v % 18446744073709551616 := by
  simp [IntKind.wrap, IntKind.signed, IntKind.bits]
theorem u64_negneg {n : Int} {u0 : Nat} (hn : n = -(u0 : Int)) (hu : 0 < u0) (hu2 : u0 ≤ 9223372036854775808) : IntKind.u64.wrap (-IntKind.u64.wrap n) = u0 := by
  rw [u64_wrap, u64_wrap]; omega
set_option maxHeartbeats 1000000 in
theorem itoaN (n : Int) (u0 : Nat) (hu : 0 < u0) (hu2 : u0 ≤ 9223372036854775808) (hn : n = -(u0 : Int)) (w : World) : Calls Tryf.prog 35 #[.int .i64 n] w (SomeS (Lib.itoa n) w) := by
  have n0 : ¬ n = 0 := by omega
  have n1 : (n == 0) = false := by simp [n0]
  have n2 : n < 0 := by omega
  have HN := Lib.hid hn
  clear hn
  go_enter Tryf.func35, Tryf.ntmps35
  go_wp2
  go_loopw [4, 6] (fun v4 v6 wr => IL w u0 v4 v6 wr) (fun v _ _ => (intOf v).toNat)
  case atStart => exact il_start w u0 (by omega) rfl (u64_negneg HN.out hu hu2)
  case round =>
    obtain ⟨u, i, k, L, rfl, rfl, hub, hk, hi1, hi2, hd, B⟩ := hrel
    have HB := Lib.hid B
    have HD := Lib.hid hd
    clear B hd
    by_cases hu0 : u = 0
    · subst hu0
      obtain ⟨i', hi'⟩ : ∃ i', i = i' + 1 := ⟨i - 1, by omega⟩
      have HI := Lib.hid hi'
      have j1 : 0 ≤ (i : Int) - 1 := by omega
      have j2 : (i : Int) - 1 < 24 := by omega
      have j3 : ((i : Int) - 1).toNat = i' := by omega
      have j4 : (i : Int) - 1 = (i' : Int) := by omega
      have hi3 : i' < 24 := by omega
      have HJ4 := Lib.hid j4
      clear hi' j4
      obtain ⟨f, hr, _⟩ := HB.out.row
      have c1 := hr.cell (i := i') hi3
      have f1 := hr.frozen i'
      obtain ⟨M, hM⟩ : ∃ M, M = 24 - i' := ⟨_, rfl⟩
      have hsl := fun W => slice112 W w.heap.size i' M _ HJ4.out hi3 hM
      have B2 := HB.out.put HI.out 45 (v := 45) rfl
      have hcv := B2.str (n := M) (cap := M) (by have := B2.len; omega)
      have HB2 := Lib.hid B2
      clear hk hM B2 hr
      go_wp2
      go_ret
      refine ⟨_, rfl, ?_, HB2.out.bel⟩
      have h1 := HD.out
      have h2 : Lib.itoa n = 45 :: Lib.decDigits u0 := by rw [HN.out]; exact Lib.itoa_neg u0 hu
      rw [h2]
      unfold dd at h1
      rw [if_neg (by omega), if_pos rfl, List.nil_append] at h1
      rw [h1]
    · obtain ⟨i', hi'⟩ : ∃ i', i = i' + 1 := ⟨i - 1, by omega⟩
      have hpos : 0 < u := by omega
      have j1 : 0 ≤ (i : Int) - 1 := by omega
      have j2 : (i : Int) - 1 < 24 := by omega
      have j3 : ((i : Int) - 1).toNat = i' := by omega
      have hi3 : i' < 24 := by omega
      obtain ⟨f, hr, _⟩ := HB.out.row
      have c1 := hr.cell (i := i') hi3
      have f1 := hr.frozen i'
      have HR := Lib.hid (fun v4 v6 x => il_round (v4 := v4) (v6 := v6) (x := x) hub hk hi1 hi2 HD.out HB.out hu0 hi')
      have hm0 : 0 ≤ (u : Int) % 10 := by omega
      have hm1 : (u : Int) % 10 ≤ 9 := by omega
      have HI := Lib.hid hi'
      clear hr hk hi'
      go_wp2
      go_roundw
      case rel => exact HR.out _ _ _ (by omega) (by have := HI.out; omega) (by omega)
      case measure => simp [intOf]; omega
theorem itoa_any (n : Int) (h : (Lit.int .i64 n).wf = true) (w : World) : Calls Tryf.prog 35 #[.int .i64 n] w (SomeS (Lib.itoa n) w) := by
  have hb := bounds_i64 h
  rcases Int.lt_trichotomy n 0 with h | h | h
  · exact itoaN n n.natAbs (by omega) (by omega) (by omega) w
  · subst h; exact itoa0 w
  · exact itoaP n n.natAbs (by omega) (by omega) (by omega) w
end Go.Proofs.YtlpnagpdjkgbcaaFmt
