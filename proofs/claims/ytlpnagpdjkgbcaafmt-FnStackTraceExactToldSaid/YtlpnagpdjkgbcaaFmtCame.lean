/- The frames that came in, out of what the row reads. -/
import Derived.Test.YtlpnagpdjkgbcaaFmtFr
import Derived.Test.YtlpnagpdjkgbcaaFmtRows
import Derived.ProofKit
import Derived.Deep.Slices
import Derived.Deep.Fields
import Derived.ChangeSame
namespace Go.Proofs.YtlpnagpdjkgbcaaFmt
set_option linter.unusedVariables false
open Go.ChangeShapes Go.WideShapes Go.Deep Go.RowKit
section
variable {H : Type} {enc : TypeId × Value → H} {P : Program} {w : World} {base : Nat} {spare : Nat → Bool} {held : Bool}
/-- (After the guide's page on structs.) -/
theorem open_slice_fields {t e : TypeId} {fs : Array Field} {fuel : Nat} {cs : List Value} {x : DataW H × List MemPlace} (ht : P.underlying t = some (.slice e)) (he : P.underlying e = some (.struct fs))
    (hone : oneCellFields P fs = true) (hC : P.cellsOf e = fs.size) (h : DataW.trod enc P w base spare held fuel t cs = some x) :
    (cs = [.slice none 0 0] ∧ x = (.nil, [])) ∨
    ∃ (a : Addr) (len cap m : Nat) (D : Nat → DataW H) (Pl : Nat → List MemPlace), cs = [.slice (some a) len cap] ∧ base ≤ a.block ∧ len ≤ cap ∧ cap ≤ maxLen ∧ m = (if spare a.block then cap else len) ∧
      x = (.slice ((List.range len).map D) ((List.range (m - len)).map fun j => D (len + j)), MemPlace.row a (m * fs.size) ++ (List.range m).flatMap Pl) ∧
      ∀ i, i < m → ∃ (ys : List (DataW H × List MemPlace)) (n : Nat), D i = .agg (ys.map (·.1)) ∧ Pl i = ys.flatMap (·.2) ∧ ys.length = fs.size ∧
        ∀ (j : Nat) (f : Field), fs[j]? = some f → ∃ (v : Value) (y : DataW H × List MemPlace), w.cell? (a.add (i * fs.size + j)) = some v ∧ ys[j]? = some y ∧ DataW.trod enc P w base spare held n f.type [v] = some y := by
  rcases open_slice ht h with h0 | ⟨a, len, cap, m, n, D, Pl, hcs, hb, hl, hm, hmm, hx, hi⟩
  · exact .inl h0
  · refine .inr ⟨a, len, cap, m, D, Pl, hcs, hb, hl, hm, hmm, by rw [hC] at hx; exact hx, fun i him => ?_⟩
    obtain ⟨cs', hc, ht'⟩ := hi i him
    rw [hC] at hc
    obtain ⟨ys, n', hn', hy, hlen, hyl, hf⟩ := DataW.trod_struct he ht'
    obtain ⟨_, hcl, hat⟩ := World.cells?_some hc
    simp only [Prod.mk.injEq] at hy
    refine ⟨ys, n', hy.1, hy.2, hyl, fun j f hj => ?_⟩
    obtain ⟨ho, hk⟩ := hone_of hone j f hj
    have hjl : j < fs.size := (Array.getElem?_eq_some_iff.1 hj).1
    have hcell := hat j hjl
    have hv : cs'[j]? = some (cs'[j]'(by omega)) := List.getElem?_eq_getElem (by omega)
    have h1 := hf j f hj
    rw [ho, hk] at h1
    have hone' : (cs'.drop j).take 1 = [cs'[j]'(by omega)] := by
      rw [List.drop_eq_getElem_cons (by omega)]
      rfl
    rw [hone'] at h1
    have hys : ys[j]? = some (ys[j]'(by omega)) := List.getElem?_eq_getElem (by omega)
    refine ⟨_, _, ?_, hys, h1.trans hys⟩
    rw [← Go.Deep.add_add, hcell, hv]
end

theorem hone36 : ∃ fs, Tryf.prog.underlying 36 = some (.struct fs) ∧ oneCellFields Tryf.prog fs = true ∧ Tryf.prog.cellsOf 36 = fs.size ∧ fs.size = 5 ∧ (∃ f, fs[0]? = some f ∧ f.type = 4) ∧ (∃ f, fs[1]? = some f ∧ f.type = 3) ∧ (∃ f, fs[2]? = some f ∧ f.type = 3) ∧ (∃ f, fs[3]? = some f ∧ f.type = 9) ∧ (∃ f, fs[4]? = some f ∧ f.type = 3) :=
  ⟨_, Tryf.underlying36, by kernel_rfl, by kernel_rfl, rfl, ⟨_, rfl, rfl⟩, ⟨_, rfl, rfl⟩, ⟨_, rfl, rfl⟩, ⟨_, rfl, rfl⟩, ⟨_, rfl, rfl⟩⟩
def CameFrames (w : World) (A : Option Addr) (n c : Nat) (z : Nat → FR) : Prop := Fms w A n c z ∧ (∀ i, i < n → (z i).name.size ≤ maxLen) ∧ ∀ i, i < n → (Lit.int .i64 (z i).line).wf = true
theorem came_frames {H : Type} {enc : TypeId × Value → H} {w : World} {fuel : Nat} {A : Option Addr} {n c : Nat} {x : DataW H × List MemPlace} (h : DataW.trod enc Tryf.prog w 0 (fun _ => true) true fuel 22 [.slice A n c] = some x) : ∃ z, CameFrames w A n c z := by
  obtain ⟨fs, hs, hone, hC, h5, ⟨f0, hf0, t0⟩, ⟨f1, hf1, t1⟩, ⟨f2, hf2, t2⟩, ⟨f3, hf3, t3⟩, ⟨f4, hf4, t4⟩⟩ := hone36
  rcases open_slice_fields Tryf.underlying22 hs hone hC h with ⟨hcs, _⟩ | ⟨a, len, cap, m, D, Pl, hcs, hb, hl, hm, hmm, hx, hi⟩
  · simp at hcs
    obtain ⟨rfl, rfl, rfl⟩ := hcs
    exact ⟨fun _ => ⟨false, 0, 0, ⟨#[]⟩, 0⟩, .inl ⟨rfl, rfl, rfl⟩, fun i hi => by omega, fun i hi => by omega⟩
  · simp at hcs
    obtain ⟨rfl, rfl, rfl⟩ := hcs
    simp only [if_true] at hmm
    have key : ∀ i, i < n → ∃ f : FR, (∀ j, j < 5 → w.cell? (a.add (i * 5 + j)) = some (f.cell j)) ∧ f.name.size ≤ maxLen ∧ (Lit.int .i64 f.line).wf = true := by
      intro i hin
      obtain ⟨ys, nn, _, _, _, hf⟩ := hi i (by omega)
      obtain ⟨v0, y0, c0, _, r0⟩ := hf 0 f0 hf0
      obtain ⟨v1, y1, c1, _, r1⟩ := hf 1 f1 hf1
      obtain ⟨v2, y2, c2, _, r2⟩ := hf 2 f2 hf2
      obtain ⟨v3, y3, c3, _, r3⟩ := hf 3 f3 hf3
      obtain ⟨v4, y4, c4, _, r4⟩ := hf 4 f4 hf4
      rw [h5] at c0 c1 c2 c3 c4
      rw [t0] at r0
      rw [t1] at r1
      rw [t2] at r2
      rw [t3] at r3
      rw [t4] at r4
      cases nn with
      | zero => simp [DataW.trod] at r0
      | succ nn =>
        obtain ⟨bb, e0, _⟩ := DataW.trod_bool Tryf.underlying4 r0
        obtain ⟨k1, e1, d1, w1⟩ := DataW.trod_int Tryf.underlying3 r1
        obtain ⟨k2, e2, d2, w2⟩ := DataW.trod_int Tryf.underlying3 r2
        obtain ⟨s3, e3, d3, w3⟩ := DataW.trod_string Tryf.underlying9 r3
        obtain ⟨k4, e4, d4, w4⟩ := DataW.trod_int Tryf.underlying3 r4
        simp only [List.cons.injEq, and_true] at e0 e1 e2 e3 e4
        subst e0 e1 e2 e3 e4
        refine ⟨⟨bb, k1, k2, s3, k4⟩, fun j hj => ?_, ?_, ?_⟩
        · match j, hj with
          | 0, _ => exact c0
          | 1, _ => exact c1
          | 2, _ => exact c2
          | 3, _ => exact c3
          | 4, _ => exact c4
        · exact w3
        · exact w1
    obtain ⟨z, hz⟩ : ∃ z : Nat → FR, ∀ i, i < n → (∀ j, j < 5 → w.cell? (a.add (i * 5 + j)) = some ((z i).cell j)) ∧ (z i).name.size ≤ maxLen ∧ (Lit.int .i64 (z i).line).wf = true :=
      ⟨fun i => if h : i < n then Classical.choose (key i h) else ⟨false, 0, 0, ⟨#[]⟩, 0⟩, fun i hi => by simp only [dif_pos hi]; exact Classical.choose_spec (key i hi)⟩
    refine ⟨z, ?_, fun i hi => (hz i hi).2.1, fun i hi => (hz i hi).2.2⟩
    by_cases h0 : n = 0
    · exact .inr (.inl ⟨a, rfl, h0, hm⟩)
    · obtain ⟨b, off, spot⟩ := a
      have h1 := (hz 0 (by omega)).1 0 (by omega)
      have hsp : spot = none := by simpa [Addr.add] using World.cell?_spot h1
      subst hsp
      have hlt : b < w.heap.size := by
        have := World.block_lt_of_cell? w _ h1
        simpa [Addr.add] using this
      refine .inr (.inr ⟨b, off, rfl, by omega, hl, hm, hlt, fun i hi j hj => ?_⟩)
      have h2 := (hz i hi).1 j hj
      have e : (⟨b, off, none⟩ : Addr).add (i * 5 + j) = ⟨b, off + i * 5 + j, none⟩ := by unfold Addr.add; split <;> simp_all [Nat.add_assoc]
      rwa [e] at h2
end Go.Proofs.YtlpnagpdjkgbcaaFmt
