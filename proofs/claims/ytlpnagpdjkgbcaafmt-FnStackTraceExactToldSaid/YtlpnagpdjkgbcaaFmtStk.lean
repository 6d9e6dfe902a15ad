/- The stack of frames in memory; its makers and its small methods, walked. -/
import Derived.Test.YtlpnagpdjkgbcaaFmtFn
import Derived.StillTailTactics
import Derived.Deep.QuietTactic
import Derived.BigQuiet
namespace Go.Proofs.YtlpnagpdjkgbcaaFmt
set_option linter.unusedVariables false
open Go.RowKit Go.ChangeShapes Go.Deep
def W10 (w : World) (b o : Nat) (v0 v1 v2 v3 v4 v5 v6 v7 v8 v9 : Value) : World := ((((((((((w).setCell ⟨b, o, none⟩ v0).setCell ⟨b, o + 1, none⟩ v1).setCell ⟨b, o + 2, none⟩ v2).setCell ⟨b, o + 3, none⟩ v3).setCell ⟨b, o + 4, none⟩ v4).setCell ⟨b, o + 5, none⟩ v5).setCell ⟨b, o + 6, none⟩ v6).setCell ⟨b, o + 7, none⟩ v7).setCell ⟨b, o + 8, none⟩ v8).setCell ⟨b, o + 9, none⟩ v9
theorem set10 {w : World} {b n o : Nat} {t : TypeId} {f : Nat → Value} (h : w.rowIs b t n f) (v0 v1 v2 v3 v4 v5 v6 v7 v8 v9 : Value) :
    ∃ f', (W10 w b o v0 v1 v2 v3 v4 v5 v6 v7 v8 v9).rowIs b t n f' ∧ f' (o) = v0 ∧ f' (o + 1) = v1 ∧ f' (o + 2) = v2 ∧ f' (o + 3) = v3 ∧ f' (o + 4) = v4 ∧ f' (o + 5) = v5 ∧ f' (o + 6) = v6 ∧ f' (o + 7) = v7 ∧ f' (o + 8) = v8 ∧ f' (o + 9) = v9 ∧ ∀ i, i < o ∨ o + 10 ≤ i → f' i = f i := by
  unfold W10
  refine ⟨_, ((((((((((h).set (o) v0).set (o + 1) v1).set (o + 2) v2).set (o + 3) v3).set (o + 4) v4).set (o + 5) v5).set (o + 6) v6).set (o + 7) v7).set (o + 8) v8).set (o + 9) v9, ?_, ?_, ?_, ?_, ?_, ?_, ?_, ?_, ?_, ?_, ?_⟩
  all_goals first
    | (simp; done)
    | (intro i hi; rw [if_neg (by omega)]; rw [if_neg (by omega)]; rw [if_neg (by omega)]; rw [if_neg (by omega)]; rw [if_neg (by omega)]; rw [if_neg (by omega)]; rw [if_neg (by omega)]; rw [if_neg (by omega)]; rw [if_neg (by omega)]; rw [if_neg (by omega)])
theorem fr_W10 {o' : Nat → Prop} {a w : World} {b o : Nat} (h : Fr o' a w) (hb : o' b ∨ a.heap.size ≤ b) (v0 v1 v2 v3 v4 v5 v6 v7 v8 v9 : Value) : Fr o' a (W10 w b o v0 v1 v2 v3 v4 v5 v6 v7 v8 v9) := by
  unfold W10
  exact ((((((((((h).setCell (p := ⟨b, o, none⟩) hb v0).setCell (p := ⟨b, o + 1, none⟩) hb v1).setCell (p := ⟨b, o + 2, none⟩) hb v2).setCell (p := ⟨b, o + 3, none⟩) hb v3).setCell (p := ⟨b, o + 4, none⟩) hb v4).setCell (p := ⟨b, o + 5, none⟩) hb v5).setCell (p := ⟨b, o + 6, none⟩) hb v6).setCell (p := ⟨b, o + 7, none⟩) hb v7).setCell (p := ⟨b, o + 8, none⟩) hb v8).setCell (p := ⟨b, o + 9, none⟩) hb v9
theorem other_W10 {w : World} {b' b o n : Nat} {t : TypeId} {f : Nat → Value} (h : w.rowIs b' t n f) (hne : b' ≠ b) (v0 v1 v2 v3 v4 v5 v6 v7 v8 v9 : Value) : (W10 w b o v0 v1 v2 v3 v4 v5 v6 v7 v8 v9).rowIs b' t n f := by
  unfold W10
  exact (((((((((h.setOther (a := ⟨b, _, none⟩) hne _).setOther (a := ⟨b, _, none⟩) hne _).setOther (a := ⟨b, _, none⟩) hne _).setOther (a := ⟨b, _, none⟩) hne _).setOther (a := ⟨b, _, none⟩) hne _).setOther (a := ⟨b, _, none⟩) hne _).setOther (a := ⟨b, _, none⟩) hne _).setOther (a := ⟨b, _, none⟩) hne _).setOther (a := ⟨b, _, none⟩) hne _).setOther (a := ⟨b, _, none⟩) hne _
def csF (pa n k : Nat) : Nat → Value
  | 0 => .slice (some ⟨pa, 0, none⟩) n n
  | _ => .int .i64 k
structure PS (w w' : World) (pa pcs n k : Nat) (F : Nat → Value) (fnp par : Value) (tail : Int) : Prop where
  row : ∃ F', w'.rowIs pa 87 (n * 10) F' ∧ F' (k * 10) = .int .i64 k ∧ F' (k * 10 + 1) = fnp ∧ F' (k * 10 + 2) = par ∧ F' (k * 10 + 3) = .int .i64 1 ∧ F' (k * 10 + 9) = .int .i64 tail ∧ ∀ i, i < k * 10 ∨ k * 10 + 10 ≤ i → F' i = F i
  cs : w'.rowIs pcs 68 2 (csF pa n (k + 1))
  fr : Fr (fun x => x = pa ∨ x = pcs) w w'
theorem row_drew {w : World} {b n : Nat} {t : TypeId} {f : Nat → Value} (h : w.rowIs b t n f) : w.drew.rowIs b t n f := h
theorem PS.drew {w w' : World} {pa pcs n k : Nat} {F : Nat → Value} {fnp par : Value} {tail : Int} (h : PS w w' pa pcs n k F fnp par tail) : PS w w'.drew pa pcs n k F fnp par tail := ⟨h.row, h.cs, h.fr.drew⟩
theorem ps_of {w W1 : World} {pa pcs n k : Nat} {F F' : Nat → Value} {fnp par : Value} {tail : Int} (hne : pa ≠ pcs) (r1 : W1.rowIs pa 87 (n * 10) F') (c1 : W1.rowIs pcs 68 2 (csF pa n k)) (f1 : Fr (fun x => x = pa ∨ x = pcs) w W1)
    (e1 : F' (k * 10 + 1) = fnp) (e2 : F' (k * 10 + 2) = par) (e3 : F' (k * 10 + 3) = .int .i64 1) (e9 : F' (k * 10 + 9) = .int .i64 tail) (eo : ∀ i, i < k * 10 ∨ k * 10 + 10 ≤ i → F' i = F i) (v : Int) (hv : v = k + 1) :
    PS w ((W1.setCell ⟨pa, k * 10, none⟩ (.int .i64 k)).setCell ⟨pcs, 1, none⟩ (.int .i64 v)) pa pcs n k F fnp par tail := by
  subst hv
  have r2 := World.rowIs.set r1 (k * 10) (.int .i64 k)
  refine ⟨⟨_, World.rowIs.setOther r2 (a := ⟨pcs, 1, none⟩) hne _, by simp, by simp [e1], by simp [e2], by simp [e3], by simp [e9], fun i hi => ?_⟩, ?_, ?_⟩
  · rw [if_neg (by omega)]; exact eo i hi
  · refine ((c1.setOther (a := ⟨pa, _, none⟩) hne.symm _).set 1 (.int .i64 ((k : Int) + 1))).congr (fun i hi => ?_)
    match i, hi with
    | 0, _ => rfl
    | 1, _ => simp [csF]
  · exact Fr.setCell (Fr.setCell f1 (p := ⟨pa, k * 10, none⟩) (.inl (.inl rfl)) _) (p := ⟨pcs, 1, none⟩) (.inl (.inr rfl)) _
set_option maxRecDepth 100000 in
set_option maxHeartbeats 2000000 in
theorem push26 {w : World} {pa pcs n k : Nat} {F : Nat → Value} (fo po : Option Addr) (tail : Int) (hr : w.rowIs pa 87 (n * 10) F) (hc : w.rowIs pcs 68 2 (csF pa n k)) (hne : pa ≠ pcs) (hn : n ≤ 4096) (hk : k < n) :
    Calls Tryf.prog 26 #[.pointer (some ⟨pcs, 0, none⟩), .agg #[.int .i64 0, .pointer fo, .pointer po, .int .i64 1, .int .i64 0, .int .i64 0, .int .i64 0, .int .i64 0, .int .i64 0, .int .i64 tail]] w fun e w' => e = .returned (.tuple #[]) ∧ PS w w' pa pcs n k F (.pointer fo) (.pointer po) tail := by
  obtain ⟨H, hH⟩ : ∃ H, H = w.heap.size := ⟨_, rfl⟩
  have hA := hr.alloc (.cells #[.int .i64 0, .pointer fo, .pointer po, .int .i64 1, .int .i64 0, .int .i64 0, .int .i64 0, .int .i64 0, .int .i64 0, .int .i64 tail] 87)
  have hB := hc.alloc (.cells #[.int .i64 0, .pointer fo, .pointer po, .int .i64 1, .int .i64 0, .int .i64 0, .int .i64 0, .int .i64 0, .int .i64 0, .int .i64 tail] 87)
  have hF : Fr (fun x => x = pa ∨ x = pcs) w (w.alloc (.cells #[.int .i64 0, .pointer fo, .pointer po, .int .i64 1, .int .i64 0, .int .i64 0, .int .i64 0, .int .i64 0, .int .i64 0, .int .i64 tail] 87)) := (Fr.refl _ w).alloc _
  have hX : ∀ i v, (#[.int .i64 0, .pointer fo, .pointer po, .int .i64 1, .int .i64 0, .int .i64 0, .int .i64 0, .int .i64 0, .int .i64 0, .int .i64 tail] : Array Value)[i]? = some v → (w.alloc (.cells #[.int .i64 0, .pointer fo, .pointer po, .int .i64 1, .int .i64 0, .int .i64 0, .int .i64 0, .int .i64 0, .int .i64 0, .int .i64 tail] 87)).cell? ⟨H, i, none⟩ = some v := fun i v hv => by
    rw [hH, World.cell?_alloc_new]
    exact hv
  have hs : (w.alloc (.cells #[.int .i64 0, .pointer fo, .pointer po, .int .i64 1, .int .i64 0, .int .i64 0, .int .i64 0, .int .i64 0, .int .i64 0, .int .i64 tail] 87)).heap.size = H + 1 := by rw [hH]; simp
  have lt1 := hc.lt
  have lt2 := hr.lt
  rw [← hH] at lt1 lt2
  go_enter Tryf.func26, Tryf.ntmps26
  go_wp2
  rw [← hH]
  generalize (w.alloc (.cells #[.int .i64 0, .pointer fo, .pointer po, .int .i64 1, .int .i64 0, .int .i64 0, .int .i64 0, .int .i64 0, .int .i64 0, .int .i64 tail] 87)) = W at *
  clear hr hc hH
  have b0 := hX 0 _ rfl
  have b1 := hX 1 _ rfl
  have b2 := hX 2 _ rfl
  have b3 := hX 3 _ rfl
  have b4 := hX 4 _ rfl
  have b5 := hX 5 _ rfl
  have b6 := hX 6 _ rfl
  have b7 := hX 7 _ rfl
  have b8 := hX 8 _ rfl
  have b9 := hX 9 _ rfl
  have c0 := hB.cell (i := 0) (by omega)
  have c1 := hB.cell (i := 1) (by omega)
  simp only [csF] at c0 c1
  have z1 := hB.frozen 1
  have d0 := hA.cell (i := k * 10) (by omega)
  have d1 := hA.cell (i := k * 10 + 1) (by omega)
  have d2 := hA.cell (i := k * 10 + 2) (by omega)
  have d3 := hA.cell (i := k * 10 + 3) (by omega)
  have d4 := hA.cell (i := k * 10 + 4) (by omega)
  have d5 := hA.cell (i := k * 10 + 5) (by omega)
  have d6 := hA.cell (i := k * 10 + 6) (by omega)
  have d7 := hA.cell (i := k * 10 + 7) (by omega)
  have d8 := hA.cell (i := k * 10 + 8) (by omega)
  have d9 := hA.cell (i := k * 10 + 9) (by omega)
  have y0 := hA.frozen (k * 10)
  have y1 := hA.frozen (k * 10 + 1)
  have y2 := hA.frozen (k * 10 + 2)
  have y3 := hA.frozen (k * 10 + 3)
  have y4 := hA.frozen (k * 10 + 4)
  have y5 := hA.frozen (k * 10 + 5)
  have y6 := hA.frozen (k * 10 + 6)
  have y7 := hA.frozen (k * 10 + 7)
  have y8 := hA.frozen (k * 10 + 8)
  have y9 := hA.frozen (k * 10 + 9)
  have HA := Lib.hid hA
  have HB := Lib.hid hB
  have HF := Lib.hid hF
  clear hA hB hF hX
  go_still_tail 10, (by kernel_rfl)
  change wpList _ _ _ _ _ W.drew
  go_wp2
  change Code.wp _ _ _ _ (W10 W pa (k * 10) (.int .i64 0) (.pointer fo) (.pointer po) (.int .i64 1) (.int .i64 0) (.int .i64 0) (.int .i64 0) (.int .i64 0) (.int .i64 0) (.int .i64 tail)).drew
  obtain ⟨F', r1, e0, e1, e2, e3, e4, e5, e6, e7, e8, e9, eo⟩ := set10 (o := k * 10) HA.out (.int .i64 0) (.pointer fo) (.pointer po) (.int .i64 1) (.int .i64 0) (.int .i64 0) (.int .i64 0) (.int .i64 0) (.int .i64 0) (.int .i64 tail)
  have r1' : (W10 W pa (k * 10) (.int .i64 0) (.pointer fo) (.pointer po) (.int .i64 1) (.int .i64 0) (.int .i64 0) (.int .i64 0) (.int .i64 0) (.int .i64 0) (.int .i64 tail)).drew.rowIs pa 87 (n * 10) F' := row_drew r1
  have q1 : (W10 W pa (k * 10) (.int .i64 0) (.pointer fo) (.pointer po) (.int .i64 1) (.int .i64 0) (.int .i64 0) (.int .i64 0) (.int .i64 0) (.int .i64 0) (.int .i64 tail)).drew.rowIs pcs 68 2 (csF pa n k) := row_drew (other_W10 (b := pa) (o := k * 10) HB.out hne.symm (.int .i64 0) (.pointer fo) (.pointer po) (.int .i64 1) (.int .i64 0) (.int .i64 0) (.int .i64 0) (.int .i64 0) (.int .i64 0) (.int .i64 tail))
  have q2 := (fr_W10 (b := pa) (o := k * 10) HF.out (.inl (.inl rfl)) (.int .i64 0) (.pointer fo) (.pointer po) (.int .i64 1) (.int .i64 0) (.int .i64 0) (.int .i64 0) (.int .i64 0) (.int .i64 0) (.int .i64 tail)).drew
  clear r1
  generalize (W10 W pa (k * 10) (.int .i64 0) (.pointer fo) (.pointer po) (.int .i64 1) (.int .i64 0) (.int .i64 0) (.int .i64 0) (.int .i64 0) (.int .i64 0) (.int .i64 tail)).drew = X at *
  clear b0 b1 b2 b3 b4 b5 b6 b7 b8 b9 c0 c1 z1 d0 d1 d2 d3 d4 d5 d6 d7 d8 d9 y0 y1 y2 y3 y4 y5 y6 y7 y8 y9 HA HB HF
  have c0 := q1.cell (i := 0) (by omega)
  have c1 := q1.cell (i := 1) (by omega)
  simp only [csF] at c0 c1
  have z1 := q1.frozen 1
  have d0 := r1'.cell (i := k * 10) (by omega)
  have y0 := r1'.frozen (k * 10)
  have lt3 := q1.lt
  have lt4 := r1'.lt
  have HX := Lib.hid (fun v hv => (ps_of (n := n) (k := k) hne r1' q1 q2 e1 e2 e3 e9 eo v hv))
  clear r1' q1 q2 e0 e1 e2 e3 e4 e5 e6 e7 e8 e9 eo
  go_still_tail 14, (by kernel_rfl)
  change wpList _ _ _ _ _ X.drew
  go_wp2
  go_end0
  exact ⟨rfl, (HX.out _ rfl).drew⟩
end Go.Proofs.YtlpnagpdjkgbcaaFmt
