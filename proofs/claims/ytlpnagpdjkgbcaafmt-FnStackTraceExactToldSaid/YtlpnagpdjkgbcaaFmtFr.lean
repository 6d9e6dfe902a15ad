/- A slice of frames that came in, or the copy of it: its cells; and the small reads of it. -/
import Derived.Test.YtlpnagpdjkgbcaaFmtChecked
import Derived.Test.YtlpnagpdjkgbcaaFmtHp
import Derived.Test.YtlpnagpdjkgbcaaFmtOr
import Derived.WalkKit
import Derived.WalkSpells
import Derived.WalkLawsBesides
import Derived.Lib.Hide
import Derived.OpenShut
import Derived.Handy
namespace Go.Proofs.YtlpnagpdjkgbcaaFmt
set_option linter.unusedVariables false
open Go.RowKit Go.ChangeShapes Go.Deep
/-- One frame of the model. -/
structure FR where
  g : Bool
  line : Int
  tail : Int
  name : ByteArray
  pc : Int
def FR.cell (f : FR) : Nat → Value
  | 0 => .bool f.g
  | 1 => .int .i64 f.line
  | 2 => .int .i64 f.tail
  | 3 => .string f.name
  | _ => .int .i64 f.pc
/-- The cells of n frames, row by row. -/
def fcell (z : Nat → FR) (i : Nat) : Value := (z (i / 5)).cell (i % 5)
def Fms (w : World) (A : Option Addr) (n c : Nat) (z : Nat → FR) : Prop :=
  (A = none ∧ n = 0 ∧ c = 0) ∨ (∃ x, A = some x ∧ n = 0 ∧ c ≤ maxLen) ∨
  ∃ b off, A = some ⟨b, off, none⟩ ∧ 0 < n ∧ n ≤ c ∧ c ≤ maxLen ∧ b < w.heap.size ∧ ∀ i, i < n → ∀ j, j < 5 → w.cell? ⟨b, off + i * 5 + j, none⟩ = some ((z i).cell j)
section
variable {w w' : World} {A : Option Addr} {n c : Nat} {z : Nat → FR}
theorem Fms.below (h : Fms w A n c z) (hb : Below w.heap.size w w') : Fms w' A n c z := by
  rcases h with h | h | ⟨b, off, hA, h0, hl, hm, hlt, hc⟩
  · exact .inl h
  · exact .inr (.inl h)
  · exact .inr (.inr ⟨b, off, hA, h0, hl, hm, Nat.lt_of_lt_of_le hlt hb.size, fun i hi j hj => (hb.cell (p := ⟨b, off + i * 5 + j, none⟩) hlt).trans (hc i hi j hj)⟩)
theorem Fms.len (h : Fms w A n c z) : n ≤ maxLen := by
  rcases h with ⟨_, h, _⟩ | ⟨_, _, h, _⟩ | ⟨_, _, _, _, h1, h2, _⟩ <;> omega
theorem Fms.some_ (h : Fms w A n c z) : (A = none ∧ n = 0 ∧ c = 0) ∨ ∃ x, A = some x := by
  rcases h with h | ⟨x, hx, _⟩ | ⟨b, off, hA, _⟩
  · exact .inl h
  · exact .inr ⟨x, hx⟩
  · exact .inr ⟨_, hA⟩
/-- Frame k's five cells. -/
theorem Fms.at_ {k : Nat} (h : Fms w A n c z) (hk : k < n) : ∃ b off, A = some ⟨b, off, none⟩ ∧ b < w.heap.size ∧ w.cell? ⟨b, off + k * 5, none⟩ = some (.bool (z k).g) ∧ w.cell? ⟨b, off + k * 5 + 1, none⟩ = some (.int .i64 (z k).line) ∧
    w.cell? ⟨b, off + k * 5 + 2, none⟩ = some (.int .i64 (z k).tail) ∧ w.cell? ⟨b, off + k * 5 + 3, none⟩ = some (.string (z k).name) ∧ w.cell? ⟨b, off + k * 5 + 4, none⟩ = some (.int .i64 (z k).pc) := by
  rcases h with ⟨_, h, _⟩ | ⟨_, _, h, _⟩ | ⟨b, off, hA, h0, hl, hm, hlt, hc⟩
  · omega
  · omega
  · exact ⟨b, off, hA, hlt, hc k hk 0 (by omega), hc k hk 1 (by omega), hc k hk 2 (by omega), hc k hk 3 (by omega), hc k hk 4 (by omega)⟩
theorem Fms.drewN (h : Fms w A n c z) (k : Nat) : Fms (w.drewN k) A n c z := h
end
theorem info36 : (Tryf.prog.info? 36).map (fun i => (i.zero, i.size, i.bytes)) = some (some (.agg #[.bool false, .int .i64 0, .int .i64 0, .string ⟨#[]⟩, .int .i64 0]), 5, 48) := by kernel_rfl
theorem make22 (n : Nat) (hn : n ≤ 4096) : ∃ C : Array Value, C.size = n * 5 ∧ ∀ W : World, (Instr.makeSlice 22 (.int .i64 (n : Int)) (.int .i64 (n : Int))).run Tryf.prog W = .ok (.slice (some ⟨W.heap.size, 0, none⟩) n n) (W.alloc (.cells C 36)) := by
  obtain ⟨i, hi, hzz⟩ := Option.map_eq_some_iff.1 info36
  simp only [Prod.mk.injEq] at hzz
  obtain ⟨hz, hs, hb⟩ := hzz
  refine ⟨madeCells (Value.agg #[.bool false, .int .i64 0, .int .i64 0, .string ⟨#[]⟩, .int .i64 0]).cells (n * i.size), by rw [size_madeCells, hs], fun W => ?_⟩
  have h := run_make (P := Tryf.prog) W 22 36 i _ Tryf.underlying22 hi hz .i64 .i64 n n (by omega) (by omega) (by rw [hb]; omega) (by omega)
  simp only [Int.toNat_natCast] at h
  exact h
theorem set5 {w : World} {b n o : Nat} {t : TypeId} {f : Nat → Value} (h : w.rowIs b t n f) (v0 v1 v2 v3 v4 : Value) :
    ∃ f', (((((w.setCell ⟨b, o, none⟩ v0).setCell ⟨b, o + 1, none⟩ v1).setCell ⟨b, o + 2, none⟩ v2).setCell ⟨b, o + 3, none⟩ v3).setCell ⟨b, o + 4, none⟩ v4).rowIs b t n f' ∧
      f' o = v0 ∧ f' (o + 1) = v1 ∧ f' (o + 2) = v2 ∧ f' (o + 3) = v3 ∧ f' (o + 4) = v4 ∧ ∀ i, i < o ∨ o + 5 ≤ i → f' i = f i := by
  refine ⟨_, ((((h.set o v0).set (o + 1) v1).set (o + 2) v2).set (o + 3) v3).set (o + 4) v4, ?_, ?_, ?_, ?_, ?_, ?_⟩
  · simp
  · simp
  · simp
  · simp
  · simp
  · intro i hi
    rw [if_neg (by omega), if_neg (by omega), if_neg (by omega), if_neg (by omega), if_neg (by omega)]
theorem below_set5 {B b o : Nat} {a w : World} (h : Below B a w) (hb : B ≤ b) (v0 v1 v2 v3 v4 : Value) :
    Below B a (((((w.setCell ⟨b, o, none⟩ v0).setCell ⟨b, o + 1, none⟩ v1).setCell ⟨b, o + 2, none⟩ v2).setCell ⟨b, o + 3, none⟩ v3).setCell ⟨b, o + 4, none⟩ v4) :=
  ((((h.setCell (p := ⟨b, o, none⟩) hb v0).setCell (p := ⟨b, o + 1, none⟩) hb v1).setCell (p := ⟨b, o + 2, none⟩) hb v2).setCell (p := ⟨b, o + 3, none⟩) hb v3).setCell (p := ⟨b, o + 4, none⟩) hb v4
/-- What the copy has filled. -/
structure CP (W0 w : World) (n k : Nat) (z : Nat → FR) : Prop where
  row : ∃ f, w.rowIs W0.heap.size 36 (n * 5) f ∧ ∀ i, i < k → ∀ j, j < 5 → f (i * 5 + j) = (z i).cell j
  bel : Below W0.heap.size W0 w
theorem CP.step {W0 w : World} {n k : Nat} {z : Nat → FR} (h : CP W0 w n k z) :
    CP W0 (((((w.setCell ⟨W0.heap.size, k * 5, none⟩ (.bool (z k).g)).setCell ⟨W0.heap.size, k * 5 + 1, none⟩ (.int .i64 (z k).line)).setCell ⟨W0.heap.size, k * 5 + 2, none⟩ (.int .i64 (z k).tail)).setCell ⟨W0.heap.size, k * 5 + 3, none⟩ (.string (z k).name)).setCell ⟨W0.heap.size, k * 5 + 4, none⟩ (.int .i64 (z k).pc)) n (k + 1) z := by
  obtain ⟨⟨f, hr, hf⟩, hb⟩ := h
  obtain ⟨f', hr', e0, e1, e2, e3, e4, eo⟩ := set5 (o := k * 5) hr (.bool (z k).g) (.int .i64 (z k).line) (.int .i64 (z k).tail) (.string (z k).name) (.int .i64 (z k).pc)
  refine ⟨⟨f', hr', fun i hi j hj => ?_⟩, below_set5 hb (Nat.le_refl _) _ _ _ _ _⟩
  by_cases hik : i = k
  · subst hik
    match j, hj with
    | 0, _ => exact e0
    | 1, _ => exact e1
    | 2, _ => exact e2
    | 3, _ => exact e3
    | 4, _ => exact e4
  · rw [eo _ (by omega), hf i (by omega) j hj]
theorem CP.fms {W0 w : World} {n : Nat} {z : Nat → FR} (h : CP W0 w n n z) (hn : n ≤ 4096) : Fms w (some ⟨W0.heap.size, 0, none⟩) n n z := by
  obtain ⟨⟨f, hr, hf⟩, hb⟩ := h
  by_cases h0 : n = 0
  · exact .inr (.inl ⟨_, rfl, h0, by unfold maxLen; omega⟩)
  · refine .inr (.inr ⟨_, 0, rfl, by omega, Nat.le_refl _, by unfold maxLen; omega, hr.lt, fun i hi j hj => ?_⟩)
    rw [Nat.zero_add, hr.cell (i := i * 5 + j) (by omega), hf i hi j hj]
set_option maxRecDepth 100000 in
set_option maxHeartbeats 1000000 in
theorem copy8 (A : Option Addr) (n c : Nat) (z : Nat → FR) (w : World) (ha : Fms w A n c z) (hn : n ≤ 4096) :
    Calls Tryf.prog 8 #[.slice A n c] w fun e w' => ∃ A', e = .returned (.slice A' n n) ∧ Fms w' A' n n z ∧ Below w.heap.size w w' := by
  have hnil := fun w => Lib.run_eql_slice_nil (P := Tryf.prog) w 22 36 A n c 0 0 Tryf.underlying22
  rcases ha.some_ with ⟨rfl, rfl, rfl⟩ | ⟨x, rfl⟩
  · go_enter Tryf.func8, Tryf.ntmps8
    go_wp2
    go_ret
    exact ⟨none, rfl, .inl ⟨rfl, rfl, rfl⟩, Below.refl _ _⟩
  · obtain ⟨C, hC, hmk⟩ := make22 n hn
    have H0 : Hid (CP w (w.alloc (.cells C 36)) n 0 z) := Lib.hid ⟨⟨fun i => C.getD i default, by
      rw [← hC]
      exact World.rowIs_alloc w C 36 _ (fun i hi => by simp [Array.getD, hi]), fun i hi => by omega⟩, (Below.refl _ _).alloc (Nat.le_refl _) _⟩
    clear hC
    go_enter Tryf.func8, Tryf.ntmps8
    go_wp2
    go_loopw [4] (fun i wr => ∃ k : Nat, k ≤ n ∧ i = .int .i64 k ∧ CP w wr n k z) (fun i _ => n - (intOf i).toNat)
    case atStart => exact ⟨0, Nat.zero_le _, rfl, H0.out⟩
    case round =>
      obtain ⟨k, hk, rfl, hcp⟩ := hrel
      by_cases hkn : k < n
      · obtain ⟨b, off, hx, hlt, c0, c1, c2, c3, c4⟩ := (ha.below hcp.bel).at_ hkn
        injection hx with hx
        subst hx
        have H1 := Lib.hid hcp.step
        have HA := Lib.hid ha
        obtain ⟨f, hr, _⟩ := hcp.row
        have d0 := hr.cell (i := k * 5) (by omega)
        have d1 := hr.cell (i := k * 5 + 1) (by omega)
        have d2 := hr.cell (i := k * 5 + 2) (by omega)
        have d3 := hr.cell (i := k * 5 + 3) (by omega)
        have d4 := hr.cell (i := k * 5 + 4) (by omega)
        have z0 := hr.frozen (k * 5)
        have z1 := hr.frozen (k * 5 + 1)
        have z2 := hr.frozen (k * 5 + 2)
        have z3 := hr.frozen (k * 5 + 3)
        have z4 := hr.frozen (k * 5 + 4)
        clear hcp ha hnil hmk hr H0
        go_wp2
        go_roundw
        case rel => exact ⟨k + 1, by omega, by go_num, H1.out⟩
        case measure => simp [intOf]; omega
      · obtain rfl : k = n := by omega
        clear hnil hmk H0
        have H1 := Lib.hid hcp
        clear hcp
        go_wp2
        go_ret
        exact ⟨_, rfl, H1.out.fms hn, H1.out.bel⟩
end Go.Proofs.YtlpnagpdjkgbcaaFmt
