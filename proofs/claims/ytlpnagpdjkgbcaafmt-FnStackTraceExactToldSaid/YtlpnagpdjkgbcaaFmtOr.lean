/- A slice that the call grows by append: what it holds, and what of memory stays. Plain theorems on worlds: no program in sight. -/
import Derived.Test.YtlpnagpdjkgbcaaFmtHp
import Derived.Deep.AppendLies
import Derived.Maps.AppendAt
namespace Go.Proofs.YtlpnagpdjkgbcaaFmt
open Go.RowKit Go.ChangeShapes Go.Deep
abbrev OR (w : World) (e : TypeId) (g n cap : Nat) (xs : List Value) : Prop := w.ownsRow 0 e 1 (.slice (some ⟨g, 0, none⟩) n cap) n xs
section
variable {w w' : World} {e : TypeId} {g n cap : Nat} {l : List Value}
theorem OR.lt' (h : OR w e g n cap l) : g < w.heap.size := by
  obtain ⟨_, h1 | ⟨g', cap', cur, h1, _, hg, _⟩⟩ := h
  · simp at h1
  · simp at h1; obtain ⟨rfl, _⟩ := h1; exact (Array.getElem?_eq_some_iff.1 hg).1
theorem OR.at_ (h : OR w e g n cap l) {i : Nat} {v : Value} (hi : i < n) (hv : l[i]? = some v) : w.cell? ⟨g, i, none⟩ = some v := by
  rw [World.ownsRow.cellAt h i (by omega), hv]
theorem OR.drewN (h : OR w e g n cap l) (k : Nat) : OR (w.drewN k) e g n cap l := h
theorem OR.setCell (h : OR w e g n cap l) {p : Addr} (hp : p.block ≠ g) (u : Value) : OR (w.setCell p u) e g n cap l :=
  Fr.own (o := fun x => x = p.block) (Fr.setCell (o := fun x => x = p.block) (Fr.refl _ w) (.inl rfl) u) h (fun k hk => by simp [Value.ownBlock] at hk; omega)
theorem OR.grown {row : Option Nat} (h : OR w e g n cap l) (hg : w.grownBy w' row) (hp : row ≠ some g) : OR w' e g n cap l :=
  World.ownsRow.kept h hg (.inr (by simpa [Value.ownBlock] using fun e => hp e.symm))
theorem OR.below {B : Nat} (h : OR w e g n cap l) (hb : Below B w w') (hg : g < B) : OR w' e g n cap l := by
  refine ⟨h.1, ?_⟩
  rcases h.2 with h0 | ⟨g', cap', cur, hv, hb', hg', rest⟩
  · exact .inl h0
  · have : g' = g := by simp at hv; exact hv.1.symm
    subst this
    exact .inr ⟨_, cap', cur, hv, hb', (hb.block _ hg).trans hg', rest⟩
end
theorem or_news (W : World) (v : Value) (e : TypeId) (H : Nat) (hH : W.heap.size = H) : ∀ j u, [v][j]? = some u → (W.alloc (.cells #[v] e)).cell? ((⟨H, 0, none⟩ : Addr).add j) = some u := by
  subst hH
  exact cell_one_new _ _ _
theorem or_parts {P : Program} {e : TypeId} {z : Value} {s b : Nat} (h : (P.info? e).map (fun i => (i.zero, i.size, i.bytes)) = some (some z, s, b)) : ∃ i, P.info? e = some i ∧ i.zero = some z ∧ i.size = s ∧ i.bytes = b := by
  obtain ⟨i, hi, hz⟩ := Option.map_eq_some_iff.1 h
  simp only [Prod.mk.injEq] at hz
  exact ⟨i, hi, hz.1, hz.2.1, hz.2.2⟩
theorem or_make {P : Program} (t e : TypeId) (z : Value) (bytes : Nat) (ht : P.underlying t = some (.slice e)) (hinfo : (P.info? e).map (fun i => (i.zero, i.size, i.bytes)) = some (some z, 1, bytes)) (hz1 : z.cells = #[z])
    (c : Nat) (hbytes : bytes * c ≤ 281474976710656) (h63 : c ≤ 9223372036854775807) :
    ∃ C : Array Value, C.size = c ∧ ∀ W : World, (Instr.makeSlice t (.int .i64 0) (.int .i64 (c : Int))).run P W = .ok (.slice (some ⟨W.heap.size, 0, none⟩) 0 c) (W.alloc (.cells C e)) := by
  obtain ⟨i, hi, hzz⟩ := Option.map_eq_some_iff.1 hinfo
  simp only [Prod.mk.injEq] at hzz
  obtain ⟨hz, hs, hb⟩ := hzz
  refine ⟨madeCells #[z] c, by rw [size_madeCells], fun w => ?_⟩
  have hb' : (i.bytes : Int) * (c : Int) ≤ 281474976710656 := by
    have h : ((i.bytes * c : Nat) : Int) ≤ 281474976710656 := by rw [hb]; omega
    rwa [Int.natCast_mul] at h
  have hr := run_make (P := P) w t e i z ht hi hz .i64 .i64 0 c (by omega) (by omega) hb' (by omega)
  simp only [Int.toNat_natCast, hs, Nat.mul_one, hz1] at hr
  exact hr
/-- Behind a new block and an append to row g, of which nothing below B is a part. -/
theorem below_app {B g : Nat} {w0 w w' : World} {o : Obj} (h : Below B w0 w) (hB : B ≤ w.heap.size) (hg : (w.alloc o).grownBy w' (some g)) (hgB : B ≤ g) : Below B w0 w' :=
  h.trans ((Fr.grown (o := fun x => B ≤ x) ((Fr.refl _ w).alloc o) hg (fun k hk => by injection hk with hk; subst hk; exact .inl hgB)).below hB (fun _ h => h))
theorem Own.arr {w : World} {B n : Nat} {e : TypeId} {A : Option Addr} {f : Nat → Value} (h : Own w B e A n f) (hn : n ≤ maxLen) : Arr w A n n f := by
  rcases h with ⟨rfl, rfl⟩ | ⟨g, rfl, hB, hr⟩
  · exact .inl ⟨rfl, rfl, rfl⟩
  · by_cases h0 : n = 0
    · subst h0; exact .inr (.inl ⟨_, rfl, rfl, Nat.zero_le _⟩)
    · exact .inr (.inr ⟨g, 0, rfl, by omega, Nat.le_refl _, hn, hr.lt, fun i hi => by rw [Nat.zero_add]; exact hr.cell hi⟩)
theorem array_at (C : Array Value) : ∀ i, i < C.size → C[i]? = some (C.getD i undef) := fun i hi => by simp [Array.getD, hi]
end Go.Proofs.YtlpnagpdjkgbcaaFmt
