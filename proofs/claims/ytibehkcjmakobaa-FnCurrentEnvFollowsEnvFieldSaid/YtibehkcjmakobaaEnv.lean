import Derived.Test.YtibehkcjmakobaaProg
import Derived.Test.YtibehkcjmakobaaHp
import Derived.WalkKit
import Derived.WalkSpells
import Derived.WalkLawsBesides
import Derived.Lib.Hide
import Derived.Lib.Builder
import Derived.OpenShut
import Derived.Handy
import Derived.LaidEqlPtr
import Derived.Laws.EntriesVeiled
import Derived.Deep.QuietTactic
import Derived.BigQuiet
import Derived.RegionTactic
import Derived.BigRegion
import Derived.Deep.AppendLies
namespace Go.Proofs.Ytibehkcjmakobaa
open Go.RowKit Go.ChangeShapes Go.Deep
theorem size_ne {P : Program} {t : TypeId} (h : (P.info? t).map (fun i => decide (i.size = 0)) = some false) : ∃ j, P.info? t = some j ∧ j.size ≠ 0 := by
  obtain ⟨j, hj, h0⟩ := Option.map_eq_some_iff.1 h
  exact ⟨j, hj, by simpa using h0⟩
theorem sz30 : (Try.prog.info? 30).map (fun i => decide (i.size = 0)) = some false := by kernel_rfl
theorem array_at (C : Array Value) : ∀ i, i < C.size → C[i]? = some (C.getD i undef) := fun i hi => by simp [Array.getD, hi]
/-- A new state whose field Env holds this. -/
def Env (a : Option Addr) (w : World) (e : Ending) (w' : World) : Prop :=
  ∃ p : Nat, e = .returned (.pointer (some ⟨p, 0, none⟩)) ∧ w'.cell? ⟨p, 2, none⟩ = some (.pointer a) ∧ w'.frozen? ⟨p, 2, none⟩ = false ∧ Below w.heap.size w w' ∧ w.heap.size ≤ p ∧ p < w'.heap.size
theorem noframe (a : Option Addr) (w : World) : Calls Try.prog 7 #[.pointer a] w (Env a w) := by
  go_enter Try.func7, Try.ntmps7
  go_wp2
  go_ret
  refine ⟨_, rfl, (World.rowIs_alloc w _ 50 _ (array_at _)).cell (i := 2) (by simp), (World.rowIs_alloc w _ 50 _ (array_at _)).frozen 2, by go_grown, Nat.le_refl _, by simp⟩
theorem frame (a b : Option Addr) (x y : Int) (w : World) : Calls Try.prog 6 #[.pointer a, .int .i64 x, .int .i64 y, .pointer b] w (Env a w) := by
  go_enter Try.func6, Try.ntmps6
  go_wp2
  go_ret
  have f : ∀ (W : World) (C : Array Value) (q : Nat) (v : Value), W.heap.size = q → C.getD 2 undef = v → 2 < C.size → (W.alloc (.cells C 50)).cell? ⟨q, 2, none⟩ = some v ∧ (W.alloc (.cells C 50)).frozen? ⟨q, 2, none⟩ = false := by
    rintro W C q v rfl rfl hC
    exact ⟨(World.rowIs_alloc W _ 50 _ (array_at _)).cell (i := 2) hC, (World.rowIs_alloc W _ 50 _ (array_at _)).frozen 2⟩
  refine ⟨w.heap.size + 1 + 1 + 1, rfl, (f _ _ _ _ (by simp only [World.size_alloc]) rfl (by simp)).1, (f _ _ _ _ (by simp only [World.size_alloc]) rfl (by simp)).2, by go_grown, by omega, by simp⟩
theorem current {w : World} {p : Nat} {v : Value} (h : w.cell? ⟨p, 2, none⟩ = some v) : Calls Try.prog 8 #[.pointer (some ⟨p, 0, none⟩)] w fun e w' => e = .returned v ∧ w = w' := by
  go_enter Try.func8, Try.ntmps8
  go_wp2
  go_ret
  exact ⟨rfl, rfl⟩
set_option maxRecDepth 100000 in
theorem law3 (h : Bool) (lb : Int) (w : World) : Calls Try.prog 3 #[.bool h, .int .i64 lb] w fun e w' => e = .returned (.bool true) ∧ Below w.heap.size w w' := by
  obtain ⟨j30, hj30, hs30⟩ := size_ne sz30
  have e30 := fun W a => Lib.run_neq_ptr_same (P := Try.prog) (w := W) a Try.underlying22 hj30
  have E30 := Lib.hid e30
  clear e30
  have body : ∀ W : World, Calls Try.prog 3 #[.bool h, .int .i64 lb] w fun e w' => e = .returned (.bool true) ∧ Below w.heap.size w w' := by
    intro _
    cases h
    all_goals
      go_enter Try.func3, Try.ntmps3
      go_wp2_with fail
      first
        | refine (noframe _ _).mono ?_
        | refine (frame _ _ _ _ _).mono ?_
      rintro e w1 ⟨p, rfl, c, f, b, l1, l2⟩
      simp only [World.size_alloc] at l1
      have k1 := current c
      have k2 := current (w := w1.setCell ⟨p, 2, none⟩ (.pointer (some ⟨w.heap.size + 1, 0, none⟩))) (p := p) (v := .pointer (some ⟨w.heap.size + 1, 0, none⟩)) (World.cell?_setCell_same _ _ _ c)
      have k3 := current (w := (w1.setCell ⟨p, 2, none⟩ (.pointer (some ⟨w.heap.size + 1, 0, none⟩))).setCell ⟨p, 2, none⟩ (.pointer none)) (p := p) (v := .pointer none) (World.cell?_setCell_same _ _ _ (World.cell?_setCell_same _ _ _ c))
      have n1 := fun W => E30.out W ⟨w.heap.size, 0, none⟩
      have n2 := fun W => E30.out W ⟨w.heap.size + 1, 0, none⟩
      have B := Lib.hid b
      have K1 := Lib.hid k1
      have K2 := Lib.hid k2
      have K3 := Lib.hid k3
      clear b k1 k2 k3
      go_wp2_with fail
      refine K1.out.mono ?_
      rintro e w' ⟨rfl, rfl⟩
      go_wp2_with fail
      refine K2.out.mono ?_
      rintro e w' ⟨rfl, rfl⟩
      go_wp2_with fail
      refine K2.out.mono ?_
      rintro e w' ⟨rfl, rfl⟩
      go_wp2_with fail
      refine K3.out.mono ?_
      rintro e w' ⟨rfl, rfl⟩
      go_wp2
      go_ret
      have K0 : Below w.heap.size w (((w.alloc (.cells #[.nilIface, .slice none 0 0, .map none, .map none, .slice none 0 0, .map none] 30)).alloc (.cells #[.nilIface, .slice none 0 0, .map none, .map none, .slice none 0 0, .map none] 30)).alloc (.cells #[.nilIface, .slice none 0 0, .map none, .map none, .slice none 0 0, .map none] 30)) := by go_grown
      have K : Below w.heap.size w w1 := K0.trans (B.out.mono K0.size)
      exact ⟨rfl, (K.setCell (p := ⟨p, 2, none⟩) (by show w.heap.size ≤ p; omega) _).setCell (p := ⟨p, 2, none⟩) (by show w.heap.size ≤ p; omega) _⟩
  exact body w
end Go.Proofs.Ytibehkcjmakobaa
