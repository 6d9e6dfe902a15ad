import Derived.Test.YtibehkcjmakobaaProg
import Derived.Test.YtibehkcjmakobaaHp
import Derived.Test.YtibehkcjmakobaaOr
import Derived.WalkKit
import Derived.WalkSpells
import Derived.WalkLawsBesides
import Derived.Lib.Hide
import Derived.Lib.Builder
import Derived.OpenShut
import Derived.Handy
import Derived.LaidEqlPtr
import Derived.Laws.EntriesVeiled
import Derived.Deep.QuietTactic
import Derived.BigQuiet
import Derived.RegionTactic
import Derived.BigRegion
import Derived.Deep.AppendLies
import Derived.Laws.BitsAllLaws
import Derived.Laws.Bits
namespace Go.Proofs.Ytibehkcjmakobaa
open Go.RowKit Go.ChangeShapes Go.Deep
theorem ofInt64 (v : Int) : (BitVec.ofInt 64 v).toNat = (v % 18446744073709551616).toNat := by
  rw [BitVec.toNat_ofInt]; rfl
/-- The complement of a block of bits. -/
theorem nat_hole (x i k M : Nat) (hM : M = 18446744073709551615 - (2 ^ i * (2 ^ k - 1))) (hx : x < 18446744073709551616) (hik : i + k ≤ 64) : x &&& M = x / 2 ^ (i + k) * 2 ^ (i + k) + x % 2 ^ i := by
  apply Nat.eq_of_testBit_eq
  intro j
  have e1 : x / 2 ^ (i + k) * 2 ^ (i + k) + x % 2 ^ i = 2 ^ (i + k) * (x / 2 ^ (i + k)) ||| x % 2 ^ i := by
    rw [← Nat.two_pow_add_eq_or_of_lt (b := x % 2 ^ i), Nat.mul_comm]
    exact Nat.lt_of_lt_of_le (Nat.mod_lt _ (Nat.two_pow_pos i)) (Nat.pow_le_pow_right (by omega) (by omega))
  have e2 : M = 2 ^ 64 - 1 - (2 ^ i * (2 ^ k - 1)) := by rw [hM]
  rw [e1, Nat.testBit_and, Nat.testBit_or, Nat.testBit_two_pow_mul, Nat.testBit_mod_two_pow, Nat.testBit_div_two_pow, e2]
  have hlt : 2 ^ i * (2 ^ k - 1) < 2 ^ 64 := by
    have : 2 ^ i * 2 ^ k ≤ 2 ^ 64 := by rw [← Nat.pow_add]; exact Nat.pow_le_pow_right (by omega) hik
    have h3 : 2 ^ i * (2 ^ k - 1) < 2 ^ i * 2 ^ k := Nat.mul_lt_mul_of_pos_left (by have := Nat.two_pow_pos k; omega) (Nat.two_pow_pos i)
    omega
  rw [show 2 ^ 64 - 1 - 2 ^ i * (2 ^ k - 1) = 2 ^ 64 - (2 ^ i * (2 ^ k - 1) + 1) by omega, Nat.testBit_two_pow_sub_succ hlt, Nat.testBit_two_pow_mul, Nat.testBit_two_pow_sub_one]
  by_cases hj : j < 64
  · by_cases h1 : j < i
    · have a1 : ¬ (i + k ≤ j) := by omega
      have a2 : ¬ (i ≤ j) := by omega
      simp [hj, h1, a1, a2]
    · by_cases h2 : j < i + k
      · have a1 : ¬ (i + k ≤ j) := by omega
        have a2 : i ≤ j := by omega
        have a3 : j - i < k := by omega
        simp [h1, a1, a2, a3]
      · have a1 : i + k ≤ j := by omega
        have a2 : i ≤ j := by omega
        have a3 : ¬ (j - i < k) := by omega
        simp [hj, h1, a1, a2, a3]
  · have hx2 : x.testBit j = false := Nat.testBit_lt_two_pow (Nat.lt_of_lt_of_le hx (by rw [show 18446744073709551616 = 2 ^ 64 from rfl]; exact Nat.pow_le_pow_right (by omega) (by omega)))
    by_cases h1 : i + k ≤ j
    · simp only [hx2, Bool.false_and, show j - (i + k) + (i + k) = j by omega, Bool.and_false, Bool.or_false, show decide (j < i) = false by simp; omega]
    · omega
theorem and_K (v : Int) (h0 : 256 ≤ v) (h1 : v ≤ 511) : bits .and .i64 v (-257) = v - 256 := by
  show IntKind.i64.wrap ((BitVec.ofInt 64 v &&& BitVec.ofInt 64 (-257)).toNat : Int) = _
  rw [BitVec.toNat_and, ofInt64, ofInt64, show ((-257 : Int) % 18446744073709551616).toNat = 18446744073709551359 from rfl, nat_hole _ 8 1 18446744073709551359 (by decide) (by omega) (by omega), IntKind.wrap_i64]
  omega
theorem is_K (v : Int) : bits .and .i64 v 256 = v / 256 % 2 * 256 := by
  show IntKind.i64.wrap ((BitVec.ofInt 64 v &&& BitVec.ofInt 64 256).toNat : Int) = _
  rw [BitVec.toNat_and, ofInt64, ofInt64, show ((256 : Int) % 18446744073709551616).toNat = 256 from rfl, show 256 = 2 ^ 8 from rfl, nat_bit, IntKind.wrap_i64]
  omega
@[go_sem] theorem as78 (v : Value) (w : World) : (Instr.typeAssert (.iface 78 v) 24 78 true).run Try.prog w = .ok (.tuple #[v, .bool true]) w := by kernel_rfl
@[go_sem] theorem as92 (v : Value) (w : World) : (Instr.typeAssert (.iface 92 v) 24 92 true).run Try.prog w = .ok (.tuple #[v, .bool true]) w := by kernel_rfl
@[go_sem] theorem as92f (v : Value) (w : World) : (Instr.typeAssert (.iface 92 v) 24 92 false).run Try.prog w = .ok v w := by kernel_rfl
structure RK (w : World) (p r f g q : Nat) (lb : Int) (K S R : Value) : Prop where
  c13 : w.cell? ⟨p, 13, none⟩ = some (.pointer (some ⟨r, 0, none⟩))
  c16 : w.cell? ⟨p, 16, none⟩ = some (.pointer (some ⟨f, 0, none⟩))
  r0 : w.cell? ⟨r, 0, none⟩ = some R
  f5 : w.cell? ⟨f, 5, none⟩ = some (.int .i64 lb)
  f1 : w.cell? ⟨f, 1, none⟩ = some (.pointer (some ⟨g, 0, none⟩))
  g2 : w.cell? ⟨g, 2, none⟩ = some (.pointer (some ⟨q, 0, none⟩))
  q8 : w.cell? ⟨q, 8, none⟩ = some K
  q14 : w.cell? ⟨q, 14, none⟩ = some S
theorem RK.below {w w' : World} {p r f g q : Nat} {lb : Int} {K S R : Value} (h : RK w p r f g q lb K S R) (hb : Below w.heap.size w w') : RK w' p r f g q lb K S R := by
  have key : ∀ (a : Addr) (v : Value), w.cell? a = some v → w'.cell? a = some v := fun a v hv => (hb.cell (World.block_lt_of_cell? w _ hv)).trans hv
  exact ⟨key _ _ h.c13, key _ _ h.c16, key _ _ h.r0, key _ _ h.f5, key _ _ h.f1, key _ _ h.g2, key _ _ h.q8, key _ _ h.q14⟩
theorem alloc5 (w : World) (C1 C2 C3 C4 C5 : Array Value) (t1 t2 t3 t4 t5 : TypeId) (i : Nat) :
    let W := ((((w.alloc (.cells C1 t1)).alloc (.cells C2 t2)).alloc (.cells C3 t3)).alloc (.cells C4 t4)).alloc (.cells C5 t5)
    (i < C1.size → W.cell? ⟨w.heap.size, i, none⟩ = some (C1.getD i undef)) ∧ (i < C2.size → W.cell? ⟨w.heap.size + 1, i, none⟩ = some (C2.getD i undef)) ∧ (i < C3.size → W.cell? ⟨w.heap.size + 1 + 1, i, none⟩ = some (C3.getD i undef)) ∧
    (i < C4.size → W.cell? ⟨w.heap.size + 1 + 1 + 1, i, none⟩ = some (C4.getD i undef)) ∧ (i < C5.size → W.cell? ⟨w.heap.size + 1 + 1 + 1 + 1, i, none⟩ = some (C5.getD i undef)) := by
  intro W
  refine ⟨fun h => ?_, fun h => ?_, fun h => ?_, fun h => ?_, fun h => ?_⟩
  · exact (((((World.rowIs_alloc w C1 t1 _ (array_at _)).alloc _).alloc _).alloc _).alloc _).cell h
  · have := (((World.rowIs_alloc (w.alloc (.cells C1 t1)) C2 t2 _ (array_at _)).alloc (.cells C3 t3)).alloc (.cells C4 t4)).alloc (.cells C5 t5) |>.cell h
    simp only [World.size_alloc] at this
    exact this
  · have := ((World.rowIs_alloc ((w.alloc (.cells C1 t1)).alloc (.cells C2 t2)) C3 t3 _ (array_at _)).alloc (.cells C4 t4)).alloc (.cells C5 t5) |>.cell h
    simp only [World.size_alloc] at this
    exact this
  · have := (World.rowIs_alloc (((w.alloc (.cells C1 t1)).alloc (.cells C2 t2)).alloc (.cells C3 t3)) C4 t4 _ (array_at _)).alloc (.cells C5 t5) |>.cell h
    simp only [World.size_alloc] at this
    exact this
  · have := (World.rowIs_alloc ((((w.alloc (.cells C1 t1)).alloc (.cells C2 t2)).alloc (.cells C3 t3)).alloc (.cells C4 t4)) C5 t5 _ (array_at _)).cell h
    simp only [World.size_alloc] at this
    exact this
theorem new_rk (lb : Int) (A B C : Option Addr) (nA cA nB cB nC cC : Nat) (w : World) :
    Calls Try.prog 11 #[.int .i64 lb, .slice A nA cA, .slice B nB cB, .slice C nC cC] w fun e w' =>
      ∃ p r f g q : Nat, e = .returned (.pointer (some ⟨p, 0, none⟩)) ∧ RK w' p r f g q lb (.slice A nA cA) (.slice B nB cB) (.slice C nC cC) ∧ Below w.heap.size w w' := by
  go_enter Try.func11, Try.ntmps11
  go_wp2
  go_ret
  refine ⟨w.heap.size + 1 + 1 + 1 + 1, w.heap.size, w.heap.size + 1 + 1 + 1, w.heap.size + 1 + 1, w.heap.size + 1, rfl, ⟨?_, ?_, ?_, ?_, ?_, ?_, ?_, ?_⟩, by go_grown⟩
  · exact (alloc5 _ _ _ _ _ _ _ _ _ _ _ 13).2.2.2.2 (by simp)
  · exact (alloc5 _ _ _ _ _ _ _ _ _ _ _ 16).2.2.2.2 (by simp)
  · exact (alloc5 _ _ _ _ _ _ _ _ _ _ _ 0).1 (by simp)
  · exact (alloc5 _ _ _ _ _ _ _ _ _ _ _ 5).2.2.2.1 (by simp)
  · exact (alloc5 _ _ _ _ _ _ _ _ _ _ _ 1).2.2.2.1 (by simp)
  · exact (alloc5 _ _ _ _ _ _ _ _ _ _ _ 2).2.2.1 (by simp)
  · exact (alloc5 _ _ _ _ _ _ _ _ _ _ _ 8).2.1 (by simp)
  · exact (alloc5 _ _ _ _ _ _ _ _ _ _ _ 14).2.1 (by simp)
theorem rk_reg {w : World} {p r f g q : Nat} {lb : Int} {K S : Value} {A : Option Addr} {n c : Nat} {F : Nat → Value} (h : RK w p r f g q lb K S (.slice A n c)) (hA : Arr w A n c F) (hn : n ≤ 65536) (idx : Int) (i : Nat) (h0 : 0 ≤ idx) (h1 : idx ≤ 255) (hi : lb + idx = i) (hin : i < n) :
    Calls Try.prog 21 #[.pointer (some ⟨p, 0, none⟩), .int .i64 idx] w fun e w' => e = .returned (F i) ∧ ∃ m, w' = w.drewN m := by
  obtain ⟨b, o, rfl, hb, hc⟩ := hA.at_ hin
  obtain ⟨c13, c16, r0, f5, f1, g2, q8, q14⟩ := h
  have e1 : bits .and .i64 idx 256 = 0 := by rw [is_K]; omega
  have e2 : wrap64 (lb + idx) = i := by rw [hi]; unfold wrap64; omega
  go_enter Try.func21, Try.ntmps21
  go_wp2
  go_quiet (fail)
  go_wp2
  go_ret
  exact ⟨rfl, _, rfl⟩
theorem rk_const {w : World} {p r f g q : Nat} {lb : Int} {S R : Value} {A : Option Addr} {n c : Nat} {F : Nat → Value} (h : RK w p r f g q lb (.slice A n c) S R) (hA : Arr w A n c F) (i : Nat) (hi : i ≤ 255) (hin : i < n) :
    Calls Try.prog 21 #[.pointer (some ⟨p, 0, none⟩), .int .i64 (i + 256)] w fun e w' => e = .returned (F i) ∧ w = w' := by
  obtain ⟨b, o, rfl, hb, hc⟩ := hA.at_ hin
  obtain ⟨c13, c16, r0, f5, f1, g2, q8, q14⟩ := h
  have e1 : bits .and .i64 ((i : Int) + 256) 256 = 256 := by rw [is_K]; omega
  have e2 : bits .and .i64 ((i : Int) + 256) (-257) = i := by rw [and_K _ (by omega) (by omega)]; omega
  go_enter Try.func21, Try.ntmps21
  go_wp2
  go_ret
  exact ⟨rfl, rfl⟩
theorem rk_number {w : World} {p r f g q : Nat} {lb : Int} {K S : Value} {A : Option Addr} {n c : Nat} {F : Nat → Nat} (h : RK w p r f g q lb K S (.slice A n c)) (hA : Arr w A n c (fun i => .iface 78 (.float .f64 (F i)))) (hn : n ≤ 65536) (idx : Int) (i : Nat) (h0 : 0 ≤ idx) (h1 : idx ≤ 255) (hi : lb + idx = i) (hin : i < n) :
    Calls Try.prog 12 #[.pointer (some ⟨p, 0, none⟩), .int .i64 idx] w fun e w' => e = .returned (.tuple #[.float .f64 (F i), .bool true]) ∧ ∃ m, w' = w.drewN m := by
  have c21 := rk_reg h hA hn idx i h0 h1 hi hin
  go_enter Try.func12, Try.ntmps12
  go_wp2_with fail
  refine c21.mono ?_
  rintro e w' ⟨rfl, m, rfl⟩
  go_wp2
  go_ret2
  exact ⟨rfl, _, rfl⟩
theorem rk_string {w : World} {p r f g q : Nat} {lb : Int} {K S : Value} {A : Option Addr} {n c : Nat} {F : Nat → ByteArray} (h : RK w p r f g q lb K S (.slice A n c)) (hA : Arr w A n c (fun i => .iface 92 (.string (F i)))) (hn : n ≤ 65536) (idx : Int) (i : Nat) (h0 : 0 ≤ idx) (h1 : idx ≤ 255) (hi : lb + idx = i) (hin : i < n) :
    Calls Try.prog 18 #[.pointer (some ⟨p, 0, none⟩), .int .i64 idx] w fun e w' => e = .returned (.string (F i)) ∧ ∃ m, w' = w.drewN m := by
  obtain ⟨b, o, rfl, hb, hc⟩ := hA.at_ hin
  obtain ⟨c13, c16, r0, f5, f1, g2, q8, q14⟩ := h
  have e1 : bits .and .i64 idx 256 = 0 := by rw [is_K]; omega
  have e2 : wrap64 (lb + idx) = i := by rw [hi]; unfold wrap64; omega
  go_enter Try.func18, Try.ntmps18
  go_wp2
  go_quiet (fail)
  go_wp2
  go_ret
  exact ⟨rfl, _, rfl⟩
theorem rk_string_k {w : World} {p r f g q : Nat} {lb : Int} {K R : Value} {A : Option Addr} {n c : Nat} {F : Nat → ByteArray} (h : RK w p r f g q lb K (.slice A n c) R) (hA : Arr w A n c (fun i => .string (F i))) (i : Nat) (hi : i ≤ 255) (hin : i < n) :
    Calls Try.prog 18 #[.pointer (some ⟨p, 0, none⟩), .int .i64 (i + 256)] w fun e w' => e = .returned (.string (F i)) ∧ w = w' := by
  obtain ⟨b, o, rfl, hb, hc⟩ := hA.at_ hin
  obtain ⟨c13, c16, r0, f5, f1, g2, q8, q14⟩ := h
  have e1 : bits .and .i64 ((i : Int) + 256) 256 = 256 := by rw [is_K]; omega
  have e2 : bits .and .i64 ((i : Int) + 256) (-257) = i := by rw [and_K _ (by omega) (by omega)]; omega
  go_enter Try.func18, Try.ntmps18
  go_wp2
  go_ret
  exact ⟨rfl, rfl⟩
theorem rk_value {w : World} {p : Nat} {idx : Int} {s : ByteArray} (c21 : Calls Try.prog 21 #[.pointer (some ⟨p, 0, none⟩), .int .i64 idx] w fun e w' => e = .returned (.iface 92 (.string s)) ∧ ∃ m, w' = w.drewN m) :
    Calls Try.prog 19 #[.pointer (some ⟨p, 0, none⟩), .int .i64 idx] w fun e w' => e = .returned (.tuple #[.string s, .bool true]) ∧ ∃ m, w' = w.drewN m := by
  go_enter Try.func19, Try.ntmps19
  go_wp2_with fail
  refine c21.mono ?_
  rintro e w' ⟨rfl, m, rfl⟩
  go_wp2
  go_ret2
  exact ⟨rfl, _, rfl⟩
theorem same_float (a : Nat) (w : World) : Calls Try.prog 13 #[.float .f64 a, .float .f64 a] w fun e w' => e = .returned (.bool true) ∧ w = w' := by
  go_enter Try.func13, Try.ntmps13
  go_wp2
  all_goals
    go_ret
    refine ⟨?_, rfl⟩
    first
      | rfl
      | (show Ending.returned (.bool (FloatKind.f64.format.order a a == some Ordering.eq || !(FloatKind.f64.format.order a a == some Ordering.eq))) = _
         rw [Bool.or_not_self])
end Go.Proofs.Ytibehkcjmakobaa
