/- frameFuncName: the bare name of a frame. -/
import Derived.Test.YtlpnagpdjkgbcaaFmtTrt
namespace Go.Proofs.YtlpnagpdjkgbcaaFmt
set_option linter.unusedVariables false
open Go.RowKit Go.ChangeShapes Go.Deep Go.Extern.Stop Go.Stop Go.Extern Go.Kit
/-- Frame k's cells. -/
structure FrF (w : World) (pa n k : Nat) (z : Nat → FR) (src : ByteArray) (ld : Int) (B fp : Nat) : Prop where
  f1 : w.cell? ⟨pa, k * 10 + 1, none⟩ = some (.pointer (some ⟨fp, 0, none⟩))
  f2 : w.cell? ⟨pa, k * 10 + 2, none⟩ = some (.pointer (parA pa k))
  f3 : w.cell? ⟨pa, k * 10 + 3, none⟩ = some (.int .i64 1)
  f9 : w.cell? ⟨pa, k * 10 + 9, none⟩ = some (.int .i64 (zt (z k)))
  fn : FnAt B w fp (z k) (nextOf n z k) src ld
theorem FrF.below {w w' : World} {pa n k : Nat} {z : Nat → FR} {src : ByteArray} {ld : Int} {B fp : Nat} (h : FrF w pa n k z src ld B fp) (hb : Below w.heap.size w w') : FrF w' pa n k z src ld B fp :=
  have q := Kp.of_below (B := 0) hb
  ⟨q _ _ (Nat.zero_le _) h.f1, q _ _ (Nat.zero_le _) h.f2, q _ _ (Nat.zero_le _) h.f3, q _ _ (Nat.zero_le _) h.f9, h.fn.kp (Kp.of_below hb)⟩
section
variable {F : Interp} {w0 w : World} {pl n : Nat} {z : Nat → FR} {src : ByteArray} {ld : Int} {child : Bool} {B pa pcs : Nat} {pt : Option Addr}
theorem RN.fr (h : RN F w0 w pl n z src ld child B pa pcs pt) {k : Nat} (hk : k < n) : ∃ fp, FrF w pa n k z src ld B fp := by
  obtain ⟨Fr', hF, hf⟩ := h.st.sk.arr
  obtain ⟨fp, hs⟩ := hf k hk
  have f1 := hF.cell (i := k * 10 + 1) (by omega)
  have f2 := hF.cell (i := k * 10 + 2) (by omega)
  have f3 := hF.cell (i := k * 10 + 3) (by omega)
  have f9 := hF.cell (i := k * 10 + 9) (by omega)
  rw [hs.f1] at f1
  rw [hs.f2] at f2
  rw [hs.f3] at f3
  rw [hs.f9] at f9
  exact ⟨fp, f1, f2, f3, f9, hs.fn⟩
def NPost (txt : List UInt8) (b : Bool) (w : World) (e : Ending) (w' : World) : Prop := e = .returned (.tuple #[.string ⟨txt.toArray⟩, .bool b]) ∧ Below w.heap.size w w'
set_option maxRecDepth 100000 in
theorem name_0 (h : RN F w0 w pl n z src ld child B pa pcs pt) (hk : 0 < n) :
    Calls Tryf.prog 37 #[.pointer (some ⟨pl, 0, none⟩), .pointer (some ⟨pa, 0, none⟩)] w (NPost (rawT z src ld child 0) true w) := by
  obtain ⟨fp, hf⟩ := h.fr hk
  have f2 := hf.f2
  have hp0 : parA pa 0 = none := rfl
  rw [hp0] at f2
  have c1 := h.st.ls.c1
  have hch := h.st.ch
  have hch' := h.st.ch'
  clear h hf hp0
  cases child with
  | false =>
    rw [hch rfl] at c1
    clear hch hch'
    simp only [Nat.zero_mul, Nat.zero_add] at f2
    go_enter Tryf.func37, Tryf.ntmps37
    go_wp2
    go_ret2
    exact ⟨rfl, Below.refl _ _⟩
  | true =>
    obtain ⟨x, rfl⟩ : ∃ x, pt = some x := Option.ne_none_iff_exists'.1 (hch' rfl)
    clear hch hch'
    simp only [Nat.zero_mul, Nat.zero_add] at f2
    go_enter Tryf.func37, Tryf.ntmps37
    go_wp2
    go_ret2
    exact ⟨rfl, Below.refl _ _⟩
/-- The parent is no Lua function. -/
theorem name_g (h : RN F w0 w pl n z src ld child B pa pcs pt) (hld : (Lit.int .i64 ld).wf = true) {k : Nat} (hk : k + 1 < n) (hg : (z k).g = true) (hg1 : (z (k + 1)).g = true) :
    Calls Tryf.prog 37 #[.pointer (some ⟨pl, 0, none⟩), .pointer (some ⟨pa, (k + 1) * 10, none⟩)] w (NPost (rawT z src ld child (k + 1)) false w) := by
  obtain ⟨fp, hf⟩ := h.fr hk
  obtain ⟨fq, hq⟩ := h.fr (k := k) (by omega)
  have HT : Hid (rawT z src ld child (k + 1) = anonT) := Lib.hid (by rw [rawT, if_neg (by simp [hg]), if_neg (by simp [hg1])])
  have f1 := hf.f1
  have f2 := hf.f2
  have hp0 : parA pa (k + 1) = some ⟨pa, k * 10, none⟩ := by simp [parA]
  rw [hp0] at f2
  have g1 := hf.fn.g.2
  have q1 := hq.f1
  have q0 := hq.fn.g.2
  rw [hg1] at g1
  rw [hg] at q0
  generalize (k + 1) * 10 = o1 at *
  generalize k * 10 = o0 at *
  clear h hf hq hp0
  go_enter Tryf.func37, Tryf.ntmps37
  go_wp2
  go_ret2
  exact ⟨by rw [HT.out]; rfl, Below.refl _ _⟩
set_option maxRecDepth 100000 in
set_option maxHeartbeats 2000000 in
theorem name_gl (h : RN F w0 w pl n z src ld child B pa pcs pt) (hld : (Lit.int .i64 ld).wf = true) {k : Nat} (hk : k + 1 < n) (hg : (z k).g = true) (hg1 : (z (k + 1)).g = false) :
    Calls Tryf.prog 37 #[.pointer (some ⟨pl, 0, none⟩), .pointer (some ⟨pa, (k + 1) * 10, none⟩)] w (NPost (rawT z src ld child (k + 1)) false w) := by
  obtain ⟨fp, hf⟩ := h.fr hk
  obtain ⟨fq, hq⟩ := h.fr (k := k) (by omega)
  obtain ⟨T1, hT1⟩ : ∃ T1 : ByteArray, (⟨(posT src ld).toArray⟩ : ByteArray) = T1 := ⟨_, rfl⟩
  have t1 := (tx_pos F src.data.toList ld (by have : src.data.toList.length ≤ 65536 := h.ok.hs; omega) hld).trans hT1
  have HT : Hid ((⟨(rawT z src ld child (k + 1)).toArray⟩ : ByteArray) = T1) := Lib.hid (by rw [← hT1, rawT, if_neg (by simp [hg]), if_pos (by simp [hg1])])
  have f1 := hf.f1
  have f2 := hf.f2
  have hp0 : parA pa (k + 1) = some ⟨pa, k * 10, none⟩ := by simp [parA]
  rw [hp0] at f2
  have g1 := hf.fn.g.2
  obtain ⟨pp, lp, dv, p2, p0, p1, _⟩ := hf.fn.no hg1
  have a2 := p2.2
  have a0 := p0.2
  have a1 := p1.2
  have q1 := hq.f1
  have q0 := hq.fn.g.2
  rw [hg1] at g1
  rw [hg] at q0
  generalize (k + 1) * 10 = o1 at *
  generalize k * 10 = o0 at *
  have hF' := answers_open h.hF
  clear h hf hq hp0 hT1 p2 p0 p1 hg hg1
  go_enter Tryf.func37, Tryf.ntmps37
  go_wp2
  go_still_tail 22, (by kernel_rfl)
  change wpList _ _ _ _ _ w.drew
  go_wp2
  go_ret2
  exact ⟨by rw [HT.out]; rfl, below_drew (below_drew (below_one (Below.refl _ _) _))⟩
theorem str_q {s : ByteArray} (h : s.size ≠ 0) : (!s.toList.isEmpty) = true ∧ ¬ s.toList = [] := by
  have e2 : (!s.toList.isEmpty) = true := by
    rw [ByteArray.toList_eq]
    cases h' : s.data.toList with
    | nil => exact absurd (by show s.data.size = 0; rw [← Array.length_toList, h']; rfl) h
    | cons a l => rfl
  exact ⟨e2, fun h => by rw [h] at e2; cases e2⟩
set_option maxRecDepth 100000 in
set_option maxHeartbeats 2000000 in
/-- The parent is a Lua function, its call bears no name. -/
theorem name_l0 (h : RN F w0 w pl n z src ld child B pa pcs pt) (hld : (Lit.int .i64 ld).wf = true) {k : Nat} (hk : k + 1 < n) (hg : (z k).g = false) (hn0 : (z (k + 1)).name.size = 0) (hg1 : (z (k + 1)).g = true) :
    Calls Tryf.prog 37 #[.pointer (some ⟨pl, 0, none⟩), .pointer (some ⟨pa, (k + 1) * 10, none⟩)] w (NPost (rawT z src ld child (k + 1)) false w) := by
  obtain ⟨fp, hf⟩ := h.fr hk
  obtain ⟨fq, hq⟩ := h.fr (k := k) (by omega)
  have HT : Hid (rawT z src ld child (k + 1) = anonT) := Lib.hid (by rw [rawT, if_neg (by simp [hn0]), if_neg (by simp [hg1])])
  have f1 := hf.f1
  have f2 := hf.f2
  have hp0 : parA pa (k + 1) = some ⟨pa, k * 10, none⟩ := by simp [parA]
  rw [hp0] at f2
  have g1 := hf.fn.g.2
  have q1 := hq.f1
  have q3 := hq.f3
  have q0 := hq.fn.g.2
  obtain ⟨pp, lp, dv, p2, p0, p1, _, _, p12, pd⟩ := hq.fn.no hg
  have a2 := p2.2
  have a12 := p12.2
  have hdv : dv = .slice none 0 0 := by
    rcases pd with pd | ⟨u, _, _, e1, e2, _⟩
    · exact pd.2
    · rw [nextOf, if_pos hk] at e1
      injection e1 with e1
      rw [← e1] at e2
      exact absurd hn0 e2
  rw [hdv] at a12
  rw [hg1] at g1
  rw [hg] at q0
  generalize (k + 1) * 10 = o1 at *
  generalize k * 10 = o0 at *
  have hw0 : IntKind.i64.wrap ((1 : Int) - 1) = 0 := by decide
  clear h hf hq hp0 hg hg1 p2 p0 p1 p12 pd hdv hn0
  go_enter Tryf.func37, Tryf.ntmps37
  go_wp2
  go_loopw [46] (fun v46 wr => v46 = .int .i64 0 ∧ wr = w) (fun _ _ => 0)
  case atStart => exact ⟨rfl, rfl⟩
  case round =>
    obtain ⟨rfl, rfl⟩ := hrel
    go_wp2
    go_ret2
    exact ⟨by rw [HT.out]; rfl, Below.refl _ _⟩
end
end Go.Proofs.YtlpnagpdjkgbcaaFmt
