/- A new Lua function has its own slots for upvalues: the walk through newLFunctionL and the law. -/
import Derived.Test.YtmaidembpbolpaaProg
import Derived.Test.YtmaidembpbolpaaHp
import Derived.WalkKit
import Derived.WalkSpells
import Derived.WalkLawsBesides
import Derived.Lib.Hide
import Derived.Lib.Builder
import Derived.OpenShut
import Derived.Handy
import Derived.LaidEqlPtr
import Derived.Laws.EntriesVeiled
import Derived.Deep.QuietTactic
import Derived.BigQuiet
import Derived.RegionTactic
import Derived.BigRegion
namespace Go.Proofs.Ytmaidembpbolpaa
open Go.RowKit Go.ChangeShapes Go.Deep
theorem info34 : (Try.prog.info? 34).map (fun i => (i.zero, i.size, i.bytes)) = some (some (.pointer none), 1, 8) := by kernel_rfl
theorem size_ne {P : Program} {t : TypeId} (h : (P.info? t).map (fun i => decide (i.size = 0)) = some false) : ∃ j, P.info? t = some j ∧ j.size ≠ 0 := by
  obtain ⟨j, hj, h0⟩ := Option.map_eq_some_iff.1 h
  exact ⟨j, hj, by simpa using h0⟩
theorem sz45 : (Try.prog.info? 45).map (fun i => decide (i.size = 0)) = some false := by kernel_rfl
theorem sz39 : (Try.prog.info? 39).map (fun i => decide (i.size = 0)) = some false := by kernel_rfl
theorem sz31 : (Try.prog.info? 31).map (fun i => decide (i.size = 0)) = some false := by kernel_rfl
def fnF (proto : Value) (g n : Nat) (i : Nat) : Value := if i = 0 then .bool false else if i = 1 then .pointer none else if i = 2 then proto else if i = 3 then .nilFunc else .slice (some ⟨g, 0, none⟩) n n
theorem new_fn (proto : Option Addr) (n : Nat) (hn : n ≤ 65536) (w : World) : Calls Try.prog 6 #[.pointer proto, .pointer none, .int .i64 n] w fun e w' =>
    e = .returned (.pointer (some ⟨w.heap.size + 1, 0, none⟩)) ∧ w'.rowIs w.heap.size 34 n (fun _ => .pointer none) ∧ w'.rowIs (w.heap.size + 1) 45 5 (fnF (.pointer proto) w.heap.size n) ∧ Below w.heap.size w w' ∧ w'.heap.size = w.heap.size + 2 := by
  have hmk := run_make_row' (P := Try.prog) 43 34 (.pointer none) 8 Try.underlying43 info34 rfl .i64 .i64 n (by omega) (by omega)
  go_enter Try.func6, Try.ntmps6
  go_wp2
  go_ret
  refine ⟨rfl, (World.rowIs_made w _ n 34).alloc _, ?_, by go_grown, by simp only [World.size_alloc]⟩
  have := World.rowIs_alloc (w.alloc (.cells (madeCells #[.pointer none] n) 34)) #[.bool false, .pointer none, .pointer proto, .nilFunc, .slice (some ⟨w.heap.size, 0, none⟩) n n] 45 (fnF (.pointer proto) w.heap.size n)
    (fun i hi => by simp at hi; match i, hi with | 0, _ => rfl | 1, _ => rfl | 2, _ => rfl | 3, _ => rfl | 4, _ => rfl)
  simp only [World.size_alloc] at this
  exact this
theorem new_fn' (proto : Option Addr) (n : Nat) (hn : n ≤ 65536) (w : World) : Calls Try.prog 6 #[.pointer proto, .pointer none, .int .i64 n] w fun e w' =>
    ∃ g p : Nat, e = .returned (.pointer (some ⟨p, 0, none⟩)) ∧ w'.rowIs g 34 n (fun _ => .pointer none) ∧ w'.rowIs p 45 5 (fnF (.pointer proto) g n) ∧ Below w.heap.size w w' ∧ w.heap.size ≤ g ∧ g < p ∧ p < w'.heap.size := by
  refine (new_fn proto n hn w).mono ?_
  rintro e w' ⟨rfl, h1, h2, h3, h4⟩
  exact ⟨_, _, rfl, h1, h2, h3, Nat.le_refl _, by omega, by omega⟩
set_option maxRecDepth 100000 in
theorem law3 (a b : Int) (h0 : -9223372036854775808 ≤ a) (h1 : a ≤ 9223372036854775807) (w : World) :
    Calls Try.prog 3 #[.int .i64 a, .int .i64 b] w fun e w' => e = .returned (.bool true) ∧ Below w.heap.size w w' := by
  by_cases c1 : a < 1
  · go_enter Try.func3, Try.ntmps3
    go_wp2
    go_ret
    exact ⟨rfl, Below.refl _ _⟩
  by_cases c2 : 65536 < a
  · go_enter Try.func3, Try.ntmps3
    go_wp2
    go_ret
    exact ⟨rfl, Below.refl _ _⟩
  by_cases c3 : b < 0
  · go_enter Try.func3, Try.ntmps3
    go_wp2
    go_ret
    exact ⟨rfl, Below.refl _ _⟩
  by_cases c4 : a ≤ b
  · go_enter Try.func3, Try.ntmps3
    go_wp2
    go_ret
    exact ⟨rfl, Below.refl _ _⟩
  obtain ⟨n, rfl⟩ : ∃ n : Nat, a = (n : Int) := ⟨a.toNat, by omega⟩
  obtain ⟨k, rfl⟩ : ∃ k : Nat, b = (k : Int) := ⟨b.toNat, by omega⟩
  have d1 : k < n := by omega
  have d2 : n ≤ 65536 := by omega
  clear c1 c2 c3 c4
  obtain ⟨j45, hj45, hs45⟩ := size_ne sz45
  obtain ⟨j39, hj39, hs39⟩ := size_ne sz39
  obtain ⟨j31, hj31, hs31⟩ := size_ne sz31
  have H45 := Lib.hid hj45
  have S45 := Lib.hid hs45
  have e39 := fun W a => Lib.run_neq_ptr_same (P := Try.prog) (w := W) a Try.underlying34 hj39
  have e31 := fun W a => run_eql_ptr_same (P := Try.prog) (w := W) a Try.underlying22 hj31
  clear hj45 hs45 hs39 hs31 hj39 hj31
  have E39 := Lib.hid e39
  have E31 := Lib.hid e31
  clear e39 e31
  go_enter Try.func3, Try.ntmps3
  go_wp2_with fail
  refine (new_fn' _ n d2 _).mono ?_
  rintro e w1 ⟨g1, p1, rfl, r1, s1, b1, l1, l2, l3⟩
  simp only [World.size_alloc] at l1
  go_wp2_with fail
  refine (new_fn' _ n d2 _).mono ?_
  rintro e w2 ⟨g2, p2, rfl, r2, s2, b2, m1, m2, m3⟩
  have r1' := Below.row b2 r1 (by omega)
  have s1' := Below.row b2 s1 (by omega)
  have hpp : (binOp .eql 32 (.pointer (some ⟨p1, 0, none⟩)) (.pointer (some ⟨p2, 0, none⟩))).run Try.prog w2 = .ok (.bool false) w2 := by
    obtain ⟨ca, ha, _⟩ := s1'
    obtain ⟨cb, hb, _⟩ := s2
    exact run_eql_ptr_other w2 Try.underlying32 H45.out S45.out (by intro e; injection e with e; omega) ha hb
  have a1 := s1'.cell (i := 4) (by omega)
  have a2 := s2.cell (i := 4) (by omega)
  have a3 := s1'.cell (i := 2) (by omega)
  have a4 := s2.cell (i := 2) (by omega)
  simp only [fnF] at a1 a2 a3 a4
  simp at a1 a2 a3 a4
  have u1 := r1'.cell d1
  have u2 := r2.cell d1
  have v1 := r1'.frozen k
  have hg12 : g1 ≠ g2 := by omega
  have hg1p : g1 ≠ p1 := by omega
  have hg1q : g1 ≠ p2 := by omega
  have l4 : g1 < w2.heap.size := by omega
  have l5 : p1 < w2.heap.size := by omega
  have l6 : g2 < w2.heap.size := by omega
  have q39 := fun W => E39.out W ⟨w2.heap.size, 0, none⟩
  have q31 := fun W => E31.out W ⟨w.heap.size, 0, none⟩
  have B2 := Lib.hid b2
  have B1 := Lib.hid b1
  clear b1 b2 r1 r2 s1 s2 r1' s1'
  go_wp2
  go_quiet (fail)
  go_wp2
  go_ret
  refine ⟨rfl, ?_⟩
  have K1 : Below w.heap.size w w1 := ((Below.refl _ _).alloc (Nat.le_refl _) _).trans (B1.out.mono (by simp))
  have K2 : Below w.heap.size w w2 := K1.trans (B2.out.mono K1.size)
  exact below_drewN ((K2.setCell (p := ⟨g1, k, none⟩) (by show w.heap.size ≤ g1; omega) _).alloc (by have := K2.size; simp; omega) _) _
end Go.Proofs.Ytmaidembpbolpaa
