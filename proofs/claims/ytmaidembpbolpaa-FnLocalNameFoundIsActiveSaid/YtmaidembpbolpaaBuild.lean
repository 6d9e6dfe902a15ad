import Derived.Test.YtmaidembpbolpaaProg
import Derived.Test.YtmaidembpbolpaaHp
import Derived.Test.YtmaidembpbolpaaLnMath
import Derived.Test.YtmaidembpbolpaaFresh
import Derived.Test.YtmaidembpbolpaaOr
import Derived.WalkKit
import Derived.WalkSpells
import Derived.WalkLawsBesides
import Derived.Lib.Hide
import Derived.Lib.Builder
import Derived.OpenShut
import Derived.Handy
import Derived.LaidEqlPtr
import Derived.Laws.EntriesVeiled
import Derived.Deep.QuietTactic
import Derived.BigQuiet
import Derived.RegionTactic
import Derived.BigRegion
import Derived.Deep.AppendLies
namespace Go.Proofs.Ytmaidembpbolpaa
open Go.RowKit Go.ChangeShapes Go.Deep
/-- A Lua function whose debug locals are these. -/
structure FnAt (w : World) (p q d : Nat) (X : Nat → Nat) (n : Nat) (zn : Nat → ByteArray) (zs ze : Nat → Int) : Prop where
  f0 : w.cell? ⟨p, 0, none⟩ = some (.bool false)
  f2 : w.cell? ⟨p, 2, none⟩ = some (.pointer (some ⟨q, 0, none⟩))
  q11 : w.cell? ⟨q, 11, none⟩ = some (.slice (some ⟨d, 0, none⟩) n n)
  at_ : ∀ i, i < n → w.cell? ⟨d, i, none⟩ = some (.pointer (some ⟨X i, 0, none⟩))
  x0 : ∀ i, i < n → w.cell? ⟨X i, 0, none⟩ = some (.string (zn i))
  x1 : ∀ i, i < n → w.cell? ⟨X i, 1, none⟩ = some (.int .i64 (zs i))
  x2 : ∀ i, i < n → w.cell? ⟨X i, 2, none⟩ = some (.int .i64 (ze i))
def dbg (s : ByteArray) (a b : Int) (i : Nat) : Value := if i = 0 then .string s else if i = 1 then .int .i64 a else .int .i64 b
theorem info54 : (Try.prog.info? 54).map (fun i => (i.zero, i.size, i.bytes)) = some (some (.pointer none), 1, 8) := by kernel_rfl
set_option maxHeartbeats 400000 in
theorem build_ok (n : Nat) (A0 : Option Addr) (c0 : Nat) (z0 : Nat → ByteArray) (A1 : Option Addr) (c1 : Nat) (z1 : Nat → Int) (A2 : Option Addr) (c2 : Nat) (z2 : Nat → Int) (w : World)
    (h0 : Arr w A0 n c0 (fun i => .string (z0 i))) (h1 : Arr w A1 n c1 (fun i => .int .i64 (z1 i))) (h2 : Arr w A2 n c2 (fun i => .int .i64 (z2 i))) (hn : n ≤ 65536) :
    Calls Try.prog 11 #[.slice A0 n c0, .slice A1 n c1, .slice A2 n c2] w fun e w' => ∃ p q d : Nat, ∃ X : Nat → Nat, e = .returned (.pointer (some ⟨p, 0, none⟩)) ∧ FnAt w' p q d X n z0 z1 z2 ∧ Below w.heap.size w w' := by
  have hmk := run_make_row' (P := Try.prog) 27 54 (.pointer none) 8 Try.underlying27 info54 rfl .i64 .i64 n (by omega) (by omega)
  go_enter Try.func11, Try.ntmps11
  go_wp2
  go_loopw [8] (fun i wr => ∃ k : Nat, k ≤ n ∧ i = .int .i64 k ∧ wr.rowIs w.heap.size 54 n (fun j => if j < k then .pointer (some ⟨w.heap.size + 1 + j, 0, none⟩) else .pointer none) ∧ wr.heap.size = w.heap.size + 1 + k ∧ (∀ j, j < k → wr.rowIs (w.heap.size + 1 + j) 56 3 (dbg (z0 j) (z1 j) (z2 j))) ∧ Below w.heap.size w wr) (fun i _ => n - (intOf i).toNat)
  case atStart => exact ⟨0, Nat.zero_le _, rfl, World.rowIs_made w _ n 54, by simp, by intro j hj; omega, by go_grown⟩
  case round =>
    obtain ⟨k, hk, rfl, hrow, hsz, hx, hb⟩ := hrel
    by_cases hkn : k < n
    · obtain ⟨b0, o0, e0, l0, d0⟩ := (h0.below hb).at_ hkn
      obtain ⟨b1, o1, e1, l1, d1⟩ := (h1.below hb).at_ hkn
      obtain ⟨b2, o2, e2, l2, d2⟩ := (h2.below hb).at_ hkn
      subst e0
      subst e1
      subst e2
      have c2' := hrow.cell hkn
      simp only [Nat.lt_irrefl, if_false] at c2'
      have c3 := hrow.frozen k
      have H1 := Lib.hid hrow
      have H2 := Lib.hid hx
      have H3 := Lib.hid hb
      have H4 := Lib.hid hsz
      have hlt : w.heap.size < wr.heap.size := by omega
      clear hrow hx hb hmk h0 h1 h2 hsz
      go_wp2
      go_region
      go_wp2
      have hsz := H4.out
      have hv : (Value.pointer (some ⟨wr.heap.size, 0, none⟩)) = .pointer (some ⟨w.heap.size + 1 + k, 0, none⟩) := by rw [hsz]
      go_roundw
      case rel =>
        refine ⟨k + 1, by omega, by go_num, ?_, ?_, ?_, ?_⟩
        · exact (((H1.out.set k (.pointer (some ⟨wr.heap.size, 0, none⟩))).congr (fun i hi => by
            by_cases h1 : i = k
            · subst h1; simp [hv]
            · by_cases h2 : i < k
              · simp [h1, h2, show i < k + 1 by omega]
              · simp [h1, h2, show ¬ i < k + 1 by omega])).alloc _)
        · show (World.alloc _ _).heap.size = _
          simp only [World.size_alloc, World.setCell]
          simpa using (by omega : wr.heap.size + 1 = w.heap.size + 1 + (k + 1))
        · intro j hj
          by_cases hjk : j = k
          · subst hjk
            have := World.rowIs_alloc (wr.setCell ⟨w.heap.size, j, none⟩ (.pointer (some ⟨wr.heap.size, 0, none⟩))) #[.string (z0 j), .int .i64 (z1 j), .int .i64 (z2 j)] 56 (dbg (z0 j) (z1 j) (z2 j)) (fun i hi => by simp at hi; match i, hi with | 0, _ => rfl | 1, _ => rfl | 2, _ => rfl)
            have e : (wr.setCell ⟨w.heap.size, j, none⟩ (.pointer (some ⟨wr.heap.size, 0, none⟩))).heap.size = w.heap.size + 1 + j := by simpa [World.setCell] using hsz
            rw [e] at this
            exact this
          · exact (World.rowIs.setOther (H2.out j (by omega)) (a := ⟨w.heap.size, k, none⟩) (by show _ ≠ _; simp; omega) _).alloc _
        · exact (H3.out.setCell (p := ⟨w.heap.size, k, none⟩) (Nat.le_refl _) (.pointer (some ⟨wr.heap.size, 0, none⟩)) |>.alloc (by simp [World.setCell]; omega) _).drew
      case measure => simp [intOf]; omega
    · have hkn' : k = n := by omega
      subst hkn'
      clear hmk
      go_wp2_with fail
      refine (new_fn _ 0 (by omega) _).mono ?_
      rintro e w1 ⟨rfl, r1, s1, b1, l1⟩
      have B := Lib.hid b1
      have S1 := Lib.hid s1
      have L1 := Lib.hid l1
      clear b1 s1 r1 l1
      go_wp2
      go_ret
      have b1 := B.out
      have hq : (wr.alloc (.cells #[.string ⟨#[122, 122]⟩, .int .i64 0, .int .i64 0, .int .u8 0, .int .u8 0, .int .u8 0, .int .u8 0, .slice none 0 0, .slice none 0 0, .slice none 0 0, .slice none 0 0, .slice (some ⟨w.heap.size, 0, none⟩) k k, .slice none 0 0, .slice none 0 0, .slice none 0 0] 31)).cell? ⟨w.heap.size + 1 + k, 11, none⟩ = some (.slice (some ⟨w.heap.size, 0, none⟩) k k) := by
        rw [← hsz]
        exact (World.rowIs_alloc wr _ 31 _ (array_at _)).cell (i := 11) (by simp)
      have key : ∀ p : Addr, p.block < wr.heap.size → w1.cell? p = wr.cell? p := fun p hp => (b1.cell (by simp; omega)).trans (((Below.refl wr.heap.size wr).alloc (Nat.le_refl _) _).cell hp)
      refine ⟨_, w.heap.size + 1 + k, w.heap.size, fun i => w.heap.size + 1 + i, rfl, ⟨?_, ?_, ?_, ?_, ?_, ?_, ?_⟩, ?_⟩
      · have := S1.out.cell (i := 0) (by omega)
        simp only [World.size_alloc, hsz] at this
        exact this
      · have := S1.out.cell (i := 2) (by omega)
        simp only [World.size_alloc, hsz] at this
        exact this
      · exact (b1.cell (p := ⟨w.heap.size + 1 + k, 11, none⟩) (by simp; omega)).trans hq
      · intro i hi
        refine (key ⟨w.heap.size, i, none⟩ (by show _ < _; simp; omega)).trans ?_
        have := hrow.cell hi
        simp only [if_pos hi] at this
        exact this
      · intro i hi
        exact (key ⟨w.heap.size + 1 + i, 0, none⟩ (by show _ < _; simp; omega)).trans ((hx i hi).cell (i := 0) (by omega))
      · intro i hi
        exact (key ⟨w.heap.size + 1 + i, 1, none⟩ (by show _ < _; simp; omega)).trans ((hx i hi).cell (i := 1) (by omega))
      · intro i hi
        exact (key ⟨w.heap.size + 1 + i, 2, none⟩ (by show _ < _; simp; omega)).trans ((hx i hi).cell (i := 2) (by omega))
      · exact (hb.alloc (by omega) _).trans (b1.mono (by simp; omega))
def LnPost (R : Nat) (r pc : Int) (zn : Nat → ByteArray) (ze : Nat → Int) (w : World) (e : Ending) (w' : World) : Prop :=
  w = w' ∧ ∃ (s : ByteArray) (b : Bool), e = .returned (.tuple #[.string s, .bool b]) ∧
        ((b = true ∧ ∃ i, i < R ∧ pc < ze i ∧ r = (cnt (fun i => decide (pc < ze i)) i + 1 : Nat) ∧ s = zn i) ∨
         (b = false ∧ s = ByteArray.empty ∧ ∀ i, i < R → pc < ze i → r ≠ (cnt (fun i => decide (pc < ze i)) i + 1 : Nat)))
theorem localname {w : World} {p q d : Nat} {X : Nat → Nat} {n : Nat} {zn : Nat → ByteArray} {zs ze : Nat → Int} (h : FnAt w p q d X n zn zs ze) (hn : n ≤ 65536) (r pc : Int) (hr0 : -9223372036854775808 ≤ r) (hr1 : r ≤ 9223372036854775807)
    (R : Nat) (hR0 : R ≤ n) (hR1 : ∀ i, i < R → zs i < pc) (hR2 : R < n → ¬ zs R < pc) :
    Calls Try.prog 12 #[.pointer (some ⟨p, 0, none⟩), .int .i64 r, .int .i64 pc] w (LnPost R r pc zn ze w) := by
  have cf0 := h.f0
  have cf2 := h.f2
  have cq := h.q11
  have H := Lib.hid h
  have HR1 := Lib.hid hR1
  have HR2 := Lib.hid hR2
  clear h hR1 hR2
  go_enter Try.func12, Try.ntmps12
  go_wp2
  go_loop [1, 9] (fun v i => ∃ (k : Nat) (x : Int), k ≤ R ∧ i = .int .i64 k ∧ v = .int .i64 x ∧ x = wrap64 (r - (cnt (fun i => decide (pc < ze i)) k : Nat)) ∧ ∀ i, i < k → pc < ze i → r ≠ (cnt (fun i => decide (pc < ze i)) i + 1 : Nat)) (fun _ i => n - (intOf i).toNat)
  case atStart => exact ⟨0, _, Nat.zero_le _, rfl, rfl, (by rw [cnt_zero]; unfold wrap64; omega), by intro i hi; omega⟩
  case round =>
    obtain ⟨k, x, hk, rfl, rfl, hx, hno⟩ := hrel
    have hc := cnt_le (fun i => decide (pc < ze i)) k
    have hcs := cnt_succ (fun i => decide (pc < ze i)) k
    have HC := Lib.hid hc
    have HN := Lib.hid hno
    have HX := Lib.hid hx
    by_cases hkn : k < n
    · have ca := H.out.at_ k hkn
      have c0 := H.out.x0 k hkn
      have c1 := H.out.x1 k hkn
      have c2 := H.out.x2 k hkn
      by_cases t1 : zs k < pc
      · have hkR : k < R := by
          rcases Nat.lt_or_ge k R with h | h
          · exact h
          · have : k = R := by omega
            subst this
            have := HR2.out hkn; omega
        by_cases t2 : pc < ze k
        · simp only [t2, decide_true, if_true] at hcs
          have HS := Lib.hid hcs
          clear hcs
          by_cases t3 : r = (cnt (fun i => decide (pc < ze i)) k + 1 : Nat)
          · have e0 : (wrap64 (x - 1) == 0) = true := by rw [hx, t3, beq_iff_eq]; unfold wrap64; omega
            have T3 := Lib.hid t3
            clear hno hc hx t3
            go_wp2
            go_ret2
            exact ⟨rfl, _, true, rfl, .inl ⟨rfl, k, hkR, t2, T3.out, rfl⟩⟩
          · have e0 : (wrap64 (x - 1) == 0) = false := by rw [hx, beq_eq_false_iff_ne]; unfold wrap64; omega
            have e1 : wrap64 (x - 1) = wrap64 (r - (cnt (fun i => decide (pc < ze i)) (k + 1) : Nat)) := by rw [hx, HS.out]; unfold wrap64; omega
            have T3 := Lib.hid t3
            have E1 := Lib.hid e1
            clear hno hc hx t3 e1
            go_wp2
            go_round
            case rel => exact ⟨k + 1, _, hkR, by go_num, rfl, E1.out, fun i hi h => by
              by_cases hik : i = k
              · subst hik; exact T3.out
              · exact HN.out i (by omega) h⟩
            case measure => simp [intOf]; omega
        · simp only [t2, decide_false] at hcs
          have HS := Lib.hid hcs
          clear hcs hno hc hx
          go_wp2
          go_round
          case rel => exact ⟨k + 1, _, hkR, by go_num, rfl, by rw [HS.out]; exact HX.out, fun i hi h => by
              by_cases hik : i = k
              · subst hik; exact absurd h t2
              · exact HN.out i (by omega) h⟩
          case measure => simp [intOf]; omega
      · have hkR : k = R := by
          rcases Nat.lt_or_ge k R with h | h
          · exact absurd (HR1.out k h) t1
          · omega
        have t1' : decide (zs k < pc) = false := decide_eq_false t1
        have HKR := Lib.hid hkR
        clear hcs hno hc hx hkR
        go_wp2
        go_ret2
        exact ⟨rfl, _, false, rfl, .inr ⟨rfl, rfl, fun i hi => HN.out i (by have := HKR.out; omega)⟩⟩
    · have hkR : k = R := by omega
      clear hcs hno hc hx
      go_wp2
      go_ret2
      exact ⟨rfl, _, false, rfl, .inr ⟨rfl, rfl, fun i hi => HN.out i (by omega)⟩⟩
end Go.Proofs.Ytmaidembpbolpaa
