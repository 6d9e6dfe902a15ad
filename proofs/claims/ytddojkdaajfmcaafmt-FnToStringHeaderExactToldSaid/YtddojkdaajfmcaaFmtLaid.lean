/- The program's table of opcodes, out of what the row lists: each name's cell and each layout's cell. -/
import Derived.Test.YtddojkdaajfmcaaFmtNames
import Derived.Test.YtddojkdaajfmcaaFmtRows
import Derived.ProofKit
import Derived.LaidMore
import Derived.MakeChecks
import Derived.Deep.Slices
import Derived.Deep.Fields
import Derived.ChangeSame
import Derived.ChangeVars
namespace Go.Proofs.YtddojkdaajfmcaaFmt
set_option linter.unusedVariables false
open Go.ChangeShapes Go.WideShapes Go.Deep Go.RowKit
section
variable {H : Type} {enc : TypeId × Value → H} {P : Program} {w : World} {base : Nat} {spare : Nat → Bool} {held : Bool}
/-- (After the guide's page on structs.) -/
theorem open_slice_fields {t e : TypeId} {fs : Array Field} {fuel : Nat} {cs : List Value} {x : DataW H × List MemPlace} (ht : P.underlying t = some (.slice e)) (he : P.underlying e = some (.struct fs))
    (hone : oneCellFields P fs = true) (hC : P.cellsOf e = fs.size) (h : DataW.trod enc P w base spare held fuel t cs = some x) :
    (cs = [.slice none 0 0] ∧ x = (.nil, [])) ∨
    ∃ (a : Addr) (len cap m : Nat) (D : Nat → DataW H) (Pl : Nat → List MemPlace), cs = [.slice (some a) len cap] ∧ base ≤ a.block ∧ len ≤ cap ∧ cap ≤ maxLen ∧ m = (if spare a.block then cap else len) ∧
      x = (.slice ((List.range len).map D) ((List.range (m - len)).map fun j => D (len + j)), MemPlace.row a (m * fs.size) ++ (List.range m).flatMap Pl) ∧
      ∀ i, i < m → ∃ (ys : List (DataW H × List MemPlace)) (n : Nat), D i = .agg (ys.map (·.1)) ∧ Pl i = ys.flatMap (·.2) ∧ ys.length = fs.size ∧
        ∀ (j : Nat) (f : Field), fs[j]? = some f → ∃ (v : Value) (y : DataW H × List MemPlace), w.cell? (a.add (i * fs.size + j)) = some v ∧ ys[j]? = some y ∧ DataW.trod enc P w base spare held n f.type [v] = some y := by
  rcases open_slice ht h with h0 | ⟨a, len, cap, m, n, D, Pl, hcs, hb, hl, hm, hmm, hx, hi⟩
  · exact .inl h0
  · refine .inr ⟨a, len, cap, m, D, Pl, hcs, hb, hl, hm, hmm, by rw [hC] at hx; exact hx, fun i him => ?_⟩
    obtain ⟨cs', hc, ht'⟩ := hi i him
    rw [hC] at hc
    obtain ⟨ys, n', hn', hy, hlen, hyl, hf⟩ := DataW.trod_struct he ht'
    obtain ⟨_, hcl, hat⟩ := World.cells?_some hc
    simp only [Prod.mk.injEq] at hy
    refine ⟨ys, n', hy.1, hy.2, hyl, fun j f hj => ?_⟩
    obtain ⟨ho, hk⟩ := hone_of hone j f hj
    have hjl : j < fs.size := (Array.getElem?_eq_some_iff.1 hj).1
    have hcell := hat j hjl
    have hv : cs'[j]? = some (cs'[j]'(by omega)) := List.getElem?_eq_getElem (by omega)
    have h1 := hf j f hj
    rw [ho, hk] at h1
    have hone' : (cs'.drop j).take 1 = [cs'[j]'(by omega)] := by
      rw [List.drop_eq_getElem_cons (by omega)]
      rfl
    rw [hone'] at h1
    have hys : ys[j]? = some (ys[j]'(by omega)) := List.getElem?_eq_getElem (by omega)
    refine ⟨_, _, ?_, hys, h1.trans hys⟩
    rw [← Go.Deep.add_add, hcell, hv]
end
theorem gTab : Tryf.prog.globalNamed "github.com/yuin/gopher-lua.opProps" = some 0 := by kernel_rfl
theorem gTabType : (Tryf.prog.globals[0]?).map (·.type) = some 36 := by kernel_rfl
def rowsD {H : Type} : List (DataW H) := match (Rows.laid_github_com_yuin_gopher_lua_opProps : DataW H) with
  | .slice es _ => es
  | _ => []
theorem rowsD_eq {H : Type} : (Rows.laid_github_com_yuin_gopher_lua_opProps : DataW H) = .slice rowsD [] := rfl
set_option maxRecDepth 100000 in
theorem rowsD_at {H : Type} (k : Nat) (hk : k < 42) : ∃ x1 x2 x3 x4 : DataW H, (rowsD : List (DataW H))[k]? = some (.agg [.lit (.string (nameOf k)), x1, x2, x3, x4, .lit (.int .i64 (typOf k))]) :=
  all42 (P := fun k => ∃ x1 x2 x3 x4 : DataW H, (rowsD : List (DataW H))[k]? = some (.agg [.lit (.string (nameOf k)), x1, x2, x3, x4, .lit (.int .i64 (typOf k))]))
    ⟨_, _, _, _, rfl⟩ ⟨_, _, _, _, rfl⟩ ⟨_, _, _, _, rfl⟩ ⟨_, _, _, _, rfl⟩ ⟨_, _, _, _, rfl⟩ ⟨_, _, _, _, rfl⟩ ⟨_, _, _, _, rfl⟩ ⟨_, _, _, _, rfl⟩ ⟨_, _, _, _, rfl⟩ ⟨_, _, _, _, rfl⟩ ⟨_, _, _, _, rfl⟩ ⟨_, _, _, _, rfl⟩ ⟨_, _, _, _, rfl⟩ ⟨_, _, _, _, rfl⟩
    ⟨_, _, _, _, rfl⟩ ⟨_, _, _, _, rfl⟩ ⟨_, _, _, _, rfl⟩ ⟨_, _, _, _, rfl⟩ ⟨_, _, _, _, rfl⟩ ⟨_, _, _, _, rfl⟩ ⟨_, _, _, _, rfl⟩ ⟨_, _, _, _, rfl⟩ ⟨_, _, _, _, rfl⟩ ⟨_, _, _, _, rfl⟩ ⟨_, _, _, _, rfl⟩ ⟨_, _, _, _, rfl⟩ ⟨_, _, _, _, rfl⟩ ⟨_, _, _, _, rfl⟩
    ⟨_, _, _, _, rfl⟩ ⟨_, _, _, _, rfl⟩ ⟨_, _, _, _, rfl⟩ ⟨_, _, _, _, rfl⟩ ⟨_, _, _, _, rfl⟩ ⟨_, _, _, _, rfl⟩ ⟨_, _, _, _, rfl⟩ ⟨_, _, _, _, rfl⟩ ⟨_, _, _, _, rfl⟩ ⟨_, _, _, _, rfl⟩ ⟨_, _, _, _, rfl⟩ ⟨_, _, _, _, rfl⟩ ⟨_, _, _, _, rfl⟩ ⟨_, _, _, _, rfl⟩ k hk
theorem rowsD_len {H : Type} : (rowsD : List (DataW H)).length = 42 := rfl
theorem hone35 : ∃ fs, Tryf.prog.underlying 35 = some (.struct fs) ∧ oneCellFields Tryf.prog fs = true ∧ Tryf.prog.cellsOf 35 = fs.size ∧ fs.size = 6 ∧ (∃ f, fs[0]? = some f ∧ f.type = 9) ∧ (∃ f, fs[5]? = some f ∧ f.type = 33) := by
  exact ⟨_, Tryf.underlying35, by kernel_rfl, by kernel_rfl, rfl, ⟨_, rfl, rfl⟩, ⟨_, rfl, rfl⟩⟩
theorem ot_of_laid {W : World} (h : laidMetH Tryf.prog Rows.fnToStringHeaderExactRow.laid W) : ∃ b off cap, OT W b off cap := by
  rw [MakeChecks.laidMetH_plain _ _ _ (by kernel_rfl)] at h
  obtain ⟨ps, ⟨g0, t0, cs0, f0, p0, q0, hg0, ht0, hv0, hd0, _, _⟩, _⟩ := h
  obtain rfl := Option.some.inj (gTab.symm.trans hg0)
  obtain rfl := Option.some.inj (gTabType.symm.trans ht0)
  obtain ⟨fs, hs, hone, hC, h6, ⟨fa, hfa, tfa⟩, ⟨fb, hfb, tfb⟩⟩ := hone35
  rcases open_slice_fields Tryf.underlying36 hs hone hC hd0 with ⟨_, hx⟩ | ⟨a, len, cap, m, D, Pl, hcs, hb, hl, hm, hmm, hx, hi⟩
  · simp [rowsD_eq] at hx
  · rw [rowsD_eq] at hx
    simp only [Prod.mk.injEq, DataW.slice.injEq] at hx
    obtain ⟨⟨hD, _⟩, _⟩ := hx
    have hlen : len = 42 := by
      have := congrArg List.length hD
      rw [rowsD_len] at this
      simpa using this.symm
    subst hlen
    have hm42 : 42 ≤ m := by rw [hmm]; split <;> omega
    have hcell : W.cell? ⟨0, 0, none⟩ = some (.slice (some a) 42 cap) := by
      have := World.var?_cell hg0 hv0 0
      rw [Array.eq_one_of_toList hcs] at this
      simpa using this
    have key : ∀ k, k < 42 → W.cell? (a.add (k * 6)) = some (.string ⟨(nameOf k).toArray⟩) ∧ W.cell? (a.add (k * 6 + 5)) = some (.int .i64 (typOf k)) := by
      intro k hk
      obtain ⟨ys, n, hDk, _, hyl, hf⟩ := hi k (by omega)
      obtain ⟨x1, x2, x3, x4, hrow⟩ := rowsD_at (H := Unit) k hk
      rw [hD] at hrow
      simp only [List.getElem?_map, List.getElem?_range hk, Option.map_some, Option.some.injEq] at hrow
      rw [hDk] at hrow
      simp only [DataW.agg.injEq] at hrow
      obtain ⟨v0, y0, c0, hy0, t0⟩ := hf 0 fa hfa
      obtain ⟨v5, y5, c5, hy5, t5⟩ := hf 5 fb hfb
      rw [h6] at c0 c5
      have e0 : y0.1 = .lit (.string (nameOf k)) := by
        have := congrArg (fun l => l[0]?) hrow
        simpa [hy0] using this
      have e5 : y5.1 = .lit (.int .i64 (typOf k)) := by
        have := congrArg (fun l => l[5]?) hrow
        simpa [hy5] using this
      rw [tfa] at t0
      rw [tfb] at t5
      obtain ⟨s, hs1, hs2, _⟩ := DataW.trod_string Tryf.underlying9 t0
      obtain ⟨z, hz1, hz2, _⟩ := DataW.trod_int Tryf.underlying33 t5
      simp only [List.cons.injEq, and_true] at hs1 hz1
      rw [hs2] at e0
      rw [hz2] at e5
      simp at e0 e5
      subst hs1 hz1
      rw [Nat.add_zero] at c0
      exact ⟨by rw [c0, bytes_ext e0], by rw [c5, e5]⟩
    obtain ⟨b, off, spot⟩ := a
    have hspot : spot = none := by simpa [Addr.add] using World.cell?_spot (key 0 (by decide)).1
    subst hspot
    have ha : ∀ n, (⟨b, off, none⟩ : Addr).add n = ⟨b, off + n, none⟩ := fun n => by unfold Addr.add; split <;> simp_all
    refine ⟨b, off, cap, hcell, fun k hk => ?_, fun k hk => ?_, ?_⟩
    · have := (key k hk).1
      rw [ha, Nat.mul_comm] at this
      exact this
    · have := (key k hk).2
      rw [ha, Nat.mul_comm] at this
      exact this
    · have := World.block_lt_of_cell? W _ (key 0 (by decide)).1
      simpa [Addr.add] using this
end Go.Proofs.YtddojkdaajfmcaaFmt
