/- frameFuncName behind a Lua function's list of calls: printed by our program wip/mknam.py. -/
import Derived.Test.YtlpnagpdjkgbcaaFmtNam
namespace Go.Proofs.YtlpnagpdjkgbcaaFmt
set_option linter.unusedVariables false
open Go.RowKit Go.ChangeShapes Go.Deep Go.Extern.Stop Go.Stop Go.Extern Go.Kit
theorem zt_g {f : FR} (h : f.g = true) : zt f = 0 := by simp [zt, h]
section
variable {F : Interp} {w0 w : World} {pl n : Nat} {z : Nat → FR} {src : ByteArray} {ld : Int} {child : Bool} {B pa pcs : Nat} {pt : Option Addr}
set_option maxRecDepth 100000 in
set_option maxHeartbeats 4000000 in
theorem nm_a (h : RN F w0 w pl n z src ld child B pa pcs pt) (hld : (Lit.int .i64 ld).wf = true) {k : Nat} (hk : k + 1 < n) (hg : (z k).g = false) (hn0 : (z (k + 1)).name.size ≠ 0) (hpc : (z (k + 1)).pc = 0) (hg1 : (z (k + 1)).g = true) (hq1 : (z (k + 1)).name = ⟨#[63]⟩) :
    Calls Tryf.prog 37 #[.pointer (some ⟨pl, 0, none⟩), .pointer (some ⟨pa, (k + 1) * 10, none⟩)] w (NPost (rawT z src ld child (k + 1)) false w) := by
  obtain ⟨fp, hf⟩ := h.fr hk
  obtain ⟨fq, hq⟩ := h.fr (k := k) (by omega)
  have HT : Hid ((⟨(rawT z src ld child (k + 1)).toArray⟩ : ByteArray) = (z (k + 1)).name) := Lib.hid (by rw [rawT, if_pos ⟨hg, hn0, hpc⟩, if_neg (by simp [hg1])])
  have f1 := hf.f1
  have f2 := hf.f2
  have f9 := hf.f9
  have hp0 : parA pa (k + 1) = some ⟨pa, k * 10, none⟩ := by simp [parA]
  rw [hp0] at f2
  have g1 := hf.fn.g.2
  have q1 := hq.f1
  have q3 := hq.f3
  have q0 := hq.fn.g.2
  obtain ⟨pp, lp, dv, p2, p0, p1, _, _, p12, pd⟩ := hq.fn.no hg
  have a2 := p2.2
  have a12 := p12.2
  obtain ⟨g, cap, rfl, d0, d1, d2, d3⟩ : ∃ g cap, dv = .slice (some ⟨g, 0, none⟩) 3 cap ∧ w.cell? ⟨g, 0, none⟩ = some (.string decoyS) ∧ w.cell? ⟨g, 1, none⟩ = some (.int .i64 7) ∧ w.cell? ⟨g, 2, none⟩ = some (.string (z (k + 1)).name) ∧ w.cell? ⟨g, 3, none⟩ = some (.int .i64 0) := by
    rcases pd with pd | ⟨u, g, cap, e1, e2, e3, c0, c1, c2, c3, _⟩
    · exact absurd (pd.1 _ (by rw [nextOf, if_pos hk])) hn0
    · rw [nextOf, if_pos hk] at e1
      injection e1 with e1
      subst e1
      rw [if_pos hpc] at e3
      rw [hpc] at c3
      exact ⟨g, cap, e3, c0.2, c1.2, c2.2, c3.2⟩
  unfold decoyS at d0
  rw [hg1] at g1
  rw [hg] at q0
  rw [zt_g hg1] at f9
  rw [hq1] at d2
  rw [hq1] at HT
  generalize (k + 1) * 10 = o1 at *
  generalize k * 10 = o0 at *
  generalize hN : (z (k + 1)).name = N at *
  have hw0 : IntKind.i64.wrap ((1 : Int) - 1) = 0 := by decide
  clear h hf hq hp0 hg hg1 p2 p0 p1 p12 hq1 pd hn0 hN hld hpc
  go_enter Tryf.func37, Tryf.ntmps37
  go_wp2
  go_loopw [46] (fun v46 wr => ∃ i : Nat, i ≤ 1 ∧ v46 = .int .i64 i ∧ Below w.heap.size w wr) (fun v46 _ => 3 - (intOf v46).toNat)
  case atStart => exact ⟨0, by omega, rfl, Below.refl _ _⟩
  case round =>
    obtain ⟨i, hi, rfl, hb⟩ := hrel
    have q := Kp.of_below (B := 0) hb
    replace f1 := q _ _ (Nat.zero_le _) f1
    replace f2 := q _ _ (Nat.zero_le _) f2
    replace f9 := q _ _ (Nat.zero_le _) f9
    replace g1 := q _ _ (Nat.zero_le _) g1
    replace d0 := q _ _ (Nat.zero_le _) d0
    replace d1 := q _ _ (Nat.zero_le _) d1
    replace d2 := q _ _ (Nat.zero_le _) d2
    replace d3 := q _ _ (Nat.zero_le _) d3
    have l1 : pa < wr.heap.size := World.block_lt_of_cell? wr _ f1
    have l2 : fp < wr.heap.size := World.block_lt_of_cell? wr _ g1
    have HB := Lib.hid hb
    clear hb q
    obtain rfl | rfl : i = 0 ∨ i = 1 := by omega
    · go_wp2
      go_roundw
      case rel => exact ⟨1, by omega, by go_num, below_one HB.out _⟩
      case measure => simp [intOf]
    · go_wp2
      go_ret2
      exact ⟨by first | (rw [HT.out]; done) | (rw [HT.out]; rfl), below_one HB.out _⟩
set_option maxRecDepth 100000 in
set_option maxHeartbeats 4000000 in
theorem nm_b (h : RN F w0 w pl n z src ld child B pa pcs pt) (hld : (Lit.int .i64 ld).wf = true) {k : Nat} (hk : k + 1 < n) (hg : (z k).g = false) (hn0 : (z (k + 1)).name.size ≠ 0) (hpc : (z (k + 1)).pc = 0) (hg1 : (z (k + 1)).g = true) (hq1 : (z (k + 1)).name ≠ ⟨#[63]⟩) :
    Calls Tryf.prog 37 #[.pointer (some ⟨pl, 0, none⟩), .pointer (some ⟨pa, (k + 1) * 10, none⟩)] w (NPost (rawT z src ld child (k + 1)) false w) := by
  obtain ⟨fp, hf⟩ := h.fr hk
  obtain ⟨fq, hq⟩ := h.fr (k := k) (by omega)
  have HT : Hid ((⟨(rawT z src ld child (k + 1)).toArray⟩ : ByteArray) = (z (k + 1)).name) := Lib.hid (by rw [rawT, if_pos ⟨hg, hn0, hpc⟩, if_neg (by simp [hg1])])
  have f1 := hf.f1
  have f2 := hf.f2
  have f9 := hf.f9
  have hp0 : parA pa (k + 1) = some ⟨pa, k * 10, none⟩ := by simp [parA]
  rw [hp0] at f2
  have g1 := hf.fn.g.2
  have q1 := hq.f1
  have q3 := hq.f3
  have q0 := hq.fn.g.2
  obtain ⟨pp, lp, dv, p2, p0, p1, _, _, p12, pd⟩ := hq.fn.no hg
  have a2 := p2.2
  have a12 := p12.2
  obtain ⟨g, cap, rfl, d0, d1, d2, d3⟩ : ∃ g cap, dv = .slice (some ⟨g, 0, none⟩) 3 cap ∧ w.cell? ⟨g, 0, none⟩ = some (.string decoyS) ∧ w.cell? ⟨g, 1, none⟩ = some (.int .i64 7) ∧ w.cell? ⟨g, 2, none⟩ = some (.string (z (k + 1)).name) ∧ w.cell? ⟨g, 3, none⟩ = some (.int .i64 0) := by
    rcases pd with pd | ⟨u, g, cap, e1, e2, e3, c0, c1, c2, c3, _⟩
    · exact absurd (pd.1 _ (by rw [nextOf, if_pos hk])) hn0
    · rw [nextOf, if_pos hk] at e1
      injection e1 with e1
      subst e1
      rw [if_pos hpc] at e3
      rw [hpc] at c3
      exact ⟨g, cap, e3, c0.2, c1.2, c2.2, c3.2⟩
  unfold decoyS at d0
  rw [hg1] at g1
  rw [hg] at q0
  rw [zt_g hg1] at f9
  have m1 : ¬ (z (k + 1)).name.toList = [63] := fun e => hq1 (by
    rw [ByteArray.toList_eq] at e
    exact bytes_ext e)
  have m2 : ((z (k + 1)).name.toList == [63]) = false := by simp [m1]
  generalize (k + 1) * 10 = o1 at *
  generalize k * 10 = o0 at *
  generalize hN : (z (k + 1)).name = N at *
  have hw0 : IntKind.i64.wrap ((1 : Int) - 1) = 0 := by decide
  clear h hf hq hp0 hg hg1 p2 p0 p1 p12 hq1 pd hn0 hN hld hpc
  go_enter Tryf.func37, Tryf.ntmps37
  go_wp2
  go_loopw [46] (fun v46 wr => ∃ i : Nat, i ≤ 1 ∧ v46 = .int .i64 i ∧ Below w.heap.size w wr) (fun v46 _ => 3 - (intOf v46).toNat)
  case atStart => exact ⟨0, by omega, rfl, Below.refl _ _⟩
  case round =>
    obtain ⟨i, hi, rfl, hb⟩ := hrel
    have q := Kp.of_below (B := 0) hb
    replace f1 := q _ _ (Nat.zero_le _) f1
    replace f2 := q _ _ (Nat.zero_le _) f2
    replace f9 := q _ _ (Nat.zero_le _) f9
    replace g1 := q _ _ (Nat.zero_le _) g1
    replace d0 := q _ _ (Nat.zero_le _) d0
    replace d1 := q _ _ (Nat.zero_le _) d1
    replace d2 := q _ _ (Nat.zero_le _) d2
    replace d3 := q _ _ (Nat.zero_le _) d3
    have l1 : pa < wr.heap.size := World.block_lt_of_cell? wr _ f1
    have l2 : fp < wr.heap.size := World.block_lt_of_cell? wr _ g1
    have HB := Lib.hid hb
    clear hb q
    obtain rfl | rfl : i = 0 ∨ i = 1 := by omega
    · go_wp2
      go_roundw
      case rel => exact ⟨1, by omega, by go_num, below_one HB.out _⟩
      case measure => simp [intOf]
    · go_wp2
      go_ret2
      exact ⟨by first | (rw [HT.out]; done) | (rw [HT.out]; rfl), below_one HB.out _⟩
set_option maxRecDepth 100000 in
set_option maxHeartbeats 4000000 in
theorem nm_c (h : RN F w0 w pl n z src ld child B pa pcs pt) (hld : (Lit.int .i64 ld).wf = true) {k : Nat} (hk : k + 1 < n) (hg : (z k).g = false) (hn0 : (z (k + 1)).name.size ≠ 0) (hpc : (z (k + 1)).pc = 0) (hg1 : (z (k + 1)).g = false) (hq1 : (z (k + 1)).name ≠ ⟨#[63]⟩) (ht : zt (z (k + 1)) ≤ 0) :
    Calls Tryf.prog 37 #[.pointer (some ⟨pl, 0, none⟩), .pointer (some ⟨pa, (k + 1) * 10, none⟩)] w (NPost (rawT z src ld child (k + 1)) false w) := by
  obtain ⟨fp, hf⟩ := h.fr hk
  obtain ⟨fq, hq⟩ := h.fr (k := k) (by omega)
  have HT : Hid ((⟨(rawT z src ld child (k + 1)).toArray⟩ : ByteArray) = (z (k + 1)).name) := Lib.hid (by rw [rawT, if_pos ⟨hg, hn0, hpc⟩, if_neg (by rintro ⟨_, e | e⟩; exact hq1 e; omega)])
  have f1 := hf.f1
  have f2 := hf.f2
  have f9 := hf.f9
  have hp0 : parA pa (k + 1) = some ⟨pa, k * 10, none⟩ := by simp [parA]
  rw [hp0] at f2
  have g1 := hf.fn.g.2
  have q1 := hq.f1
  have q3 := hq.f3
  have q0 := hq.fn.g.2
  obtain ⟨pp, lp, dv, p2, p0, p1, _, _, p12, pd⟩ := hq.fn.no hg
  have a2 := p2.2
  have a12 := p12.2
  obtain ⟨g, cap, rfl, d0, d1, d2, d3⟩ : ∃ g cap, dv = .slice (some ⟨g, 0, none⟩) 3 cap ∧ w.cell? ⟨g, 0, none⟩ = some (.string decoyS) ∧ w.cell? ⟨g, 1, none⟩ = some (.int .i64 7) ∧ w.cell? ⟨g, 2, none⟩ = some (.string (z (k + 1)).name) ∧ w.cell? ⟨g, 3, none⟩ = some (.int .i64 0) := by
    rcases pd with pd | ⟨u, g, cap, e1, e2, e3, c0, c1, c2, c3, _⟩
    · exact absurd (pd.1 _ (by rw [nextOf, if_pos hk])) hn0
    · rw [nextOf, if_pos hk] at e1
      injection e1 with e1
      subst e1
      rw [if_pos hpc] at e3
      rw [hpc] at c3
      exact ⟨g, cap, e3, c0.2, c1.2, c2.2, c3.2⟩
  unfold decoyS at d0
  rw [hg1] at g1
  rw [hg] at q0
  generalize zt (z (k + 1)) = TT at *
  have m1 : ¬ (z (k + 1)).name.toList = [63] := fun e => hq1 (by
    rw [ByteArray.toList_eq] at e
    exact bytes_ext e)
  have m2 : ((z (k + 1)).name.toList == [63]) = false := by simp [m1]
  generalize (k + 1) * 10 = o1 at *
  generalize k * 10 = o0 at *
  generalize hN : (z (k + 1)).name = N at *
  have hw0 : IntKind.i64.wrap ((1 : Int) - 1) = 0 := by decide
  clear h hf hq hp0 hg hg1 p2 p0 p1 p12 hq1 pd hn0 hN hld hpc
  go_enter Tryf.func37, Tryf.ntmps37
  go_wp2
  go_loopw [46] (fun v46 wr => ∃ i : Nat, i ≤ 1 ∧ v46 = .int .i64 i ∧ Below w.heap.size w wr) (fun v46 _ => 3 - (intOf v46).toNat)
  case atStart => exact ⟨0, by omega, rfl, Below.refl _ _⟩
  case round =>
    obtain ⟨i, hi, rfl, hb⟩ := hrel
    have q := Kp.of_below (B := 0) hb
    replace f1 := q _ _ (Nat.zero_le _) f1
    replace f2 := q _ _ (Nat.zero_le _) f2
    replace f9 := q _ _ (Nat.zero_le _) f9
    replace g1 := q _ _ (Nat.zero_le _) g1
    replace d0 := q _ _ (Nat.zero_le _) d0
    replace d1 := q _ _ (Nat.zero_le _) d1
    replace d2 := q _ _ (Nat.zero_le _) d2
    replace d3 := q _ _ (Nat.zero_le _) d3
    have l1 : pa < wr.heap.size := World.block_lt_of_cell? wr _ f1
    have l2 : fp < wr.heap.size := World.block_lt_of_cell? wr _ g1
    have HB := Lib.hid hb
    clear hb q
    obtain rfl | rfl : i = 0 ∨ i = 1 := by omega
    · go_wp2
      go_roundw
      case rel => exact ⟨1, by omega, by go_num, below_one HB.out _⟩
      case measure => simp [intOf]
    · go_wp2
      go_ret2
      exact ⟨by first | (rw [HT.out]; done) | (rw [HT.out]; rfl), below_one HB.out _⟩
set_option maxRecDepth 100000 in
set_option maxHeartbeats 4000000 in
theorem nm_d (h : RN F w0 w pl n z src ld child B pa pcs pt) (hld : (Lit.int .i64 ld).wf = true) {k : Nat} (hk : k + 1 < n) (hg : (z k).g = false) (hn0 : (z (k + 1)).name.size ≠ 0) (hpc : (z (k + 1)).pc = 0) (hg1 : (z (k + 1)).g = false) (hq1 : (z (k + 1)).name = ⟨#[63]⟩) :
    Calls Tryf.prog 37 #[.pointer (some ⟨pl, 0, none⟩), .pointer (some ⟨pa, (k + 1) * 10, none⟩)] w (NPost (rawT z src ld child (k + 1)) false w) := by
  obtain ⟨fp, hf⟩ := h.fr hk
  obtain ⟨fq, hq⟩ := h.fr (k := k) (by omega)
  obtain ⟨T1, hT1⟩ : ∃ T1 : ByteArray, (⟨(posT src ld).toArray⟩ : ByteArray) = T1 := ⟨_, rfl⟩
  have t1 := (tx_pos F src.data.toList ld (by have : src.data.toList.length ≤ 65536 := h.ok.hs; omega) hld).trans hT1
  have HT : Hid ((⟨(rawT z src ld child (k + 1)).toArray⟩ : ByteArray) = T1) := Lib.hid (by rw [← hT1, rawT, if_pos ⟨hg, hn0, hpc⟩, if_pos ⟨hg1, .inl hq1⟩])
  have f1 := hf.f1
  have f2 := hf.f2
  have f9 := hf.f9
  have hp0 : parA pa (k + 1) = some ⟨pa, k * 10, none⟩ := by simp [parA]
  rw [hp0] at f2
  have g1 := hf.fn.g.2
  have q1 := hq.f1
  have q3 := hq.f3
  have q0 := hq.fn.g.2
  obtain ⟨pp, lp, dv, p2, p0, p1, _, _, p12, pd⟩ := hq.fn.no hg
  have a2 := p2.2
  have a12 := p12.2
  obtain ⟨p', l', _, b2, b0, b1, _⟩ := hf.fn.no hg1
  replace b2 := b2.2
  replace b0 := b0.2
  replace b1 := b1.2
  obtain ⟨g, cap, rfl, d0, d1, d2, d3⟩ : ∃ g cap, dv = .slice (some ⟨g, 0, none⟩) 3 cap ∧ w.cell? ⟨g, 0, none⟩ = some (.string decoyS) ∧ w.cell? ⟨g, 1, none⟩ = some (.int .i64 7) ∧ w.cell? ⟨g, 2, none⟩ = some (.string (z (k + 1)).name) ∧ w.cell? ⟨g, 3, none⟩ = some (.int .i64 0) := by
    rcases pd with pd | ⟨u, g, cap, e1, e2, e3, c0, c1, c2, c3, _⟩
    · exact absurd (pd.1 _ (by rw [nextOf, if_pos hk])) hn0
    · rw [nextOf, if_pos hk] at e1
      injection e1 with e1
      subst e1
      rw [if_pos hpc] at e3
      rw [hpc] at c3
      exact ⟨g, cap, e3, c0.2, c1.2, c2.2, c3.2⟩
  unfold decoyS at d0
  rw [hg1] at g1
  rw [hg] at q0
  generalize zt (z (k + 1)) = TT at *
  rw [hq1] at d2
  generalize (k + 1) * 10 = o1 at *
  generalize k * 10 = o0 at *
  generalize hN : (z (k + 1)).name = N at *
  have hw0 : IntKind.i64.wrap ((1 : Int) - 1) = 0 := by decide
  have hF' := answers_open h.hF
  clear h hf hq hp0 hg hg1 p2 p0 p1 p12 hq1 pd hn0 hN hld hpc hT1
  go_enter Tryf.func37, Tryf.ntmps37
  go_wp2
  go_loopw [46] (fun v46 wr => ∃ i : Nat, i ≤ 1 ∧ v46 = .int .i64 i ∧ Below w.heap.size w wr) (fun v46 _ => 3 - (intOf v46).toNat)
  case atStart => exact ⟨0, by omega, rfl, Below.refl _ _⟩
  case round =>
    obtain ⟨i, hi, rfl, hb⟩ := hrel
    have q := Kp.of_below (B := 0) hb
    replace f1 := q _ _ (Nat.zero_le _) f1
    replace f2 := q _ _ (Nat.zero_le _) f2
    replace f9 := q _ _ (Nat.zero_le _) f9
    replace g1 := q _ _ (Nat.zero_le _) g1
    replace b2 := q _ _ (Nat.zero_le _) b2
    replace b0 := q _ _ (Nat.zero_le _) b0
    replace b1 := q _ _ (Nat.zero_le _) b1
    replace d0 := q _ _ (Nat.zero_le _) d0
    replace d1 := q _ _ (Nat.zero_le _) d1
    replace d2 := q _ _ (Nat.zero_le _) d2
    replace d3 := q _ _ (Nat.zero_le _) d3
    have l1 : pa < wr.heap.size := World.block_lt_of_cell? wr _ f1
    have l2 : fp < wr.heap.size := World.block_lt_of_cell? wr _ g1
    have l3 : p' < wr.heap.size := World.block_lt_of_cell? wr _ b0
    rw [← hb.tape] at hF'
    have HB := Lib.hid hb
    clear hb q
    obtain rfl | rfl : i = 0 ∨ i = 1 := by omega
    · go_wp2
      go_roundw
      case rel => exact ⟨1, by omega, by go_num, below_one HB.out _⟩
      case measure => simp [intOf]
    · go_wp2
      have q2 := Kp.of_below (B := 0) (below_one (Below.refl wr.heap.size wr) (Obj.cells #[Value.string { data := #[63] }, Value.int IntKind.i64 0] 77))
      have hF2 : F.told.answers (wr.alloc (Obj.cells #[Value.string { data := #[63] }, Value.int IntKind.i64 0] 77)).tape := hF'
      have HB2 := Lib.hid (below_one HB.out (Obj.cells #[Value.string { data := #[63] }, Value.int IntKind.i64 0] 77))
      have F1 := q2 _ _ (Nat.zero_le _) f1
      have G1 := q2 _ _ (Nat.zero_le _) g1
      have B2 := q2 _ _ (Nat.zero_le _) b2
      have B0 := q2 _ _ (Nat.zero_le _) b0
      have B1 := q2 _ _ (Nat.zero_le _) b1
      generalize (wr.alloc (Obj.cells #[Value.string { data := #[63] }, Value.int IntKind.i64 0] 77)) = X at *
      clear f1 g1 b2 b0 b1 q2 hF'
      replace hF2 := answers_open hF2
      go_still_tail 22, (by kernel_rfl)
      change wpList _ _ _ _ _ X.drew
      go_wp2
      go_ret2
      exact ⟨by first | (rw [HT.out]; done) | (rw [HT.out]; rfl), below_drew (below_drew (below_one HB2.out _))⟩
set_option maxRecDepth 100000 in
set_option maxHeartbeats 4000000 in
theorem nm_e (h : RN F w0 w pl n z src ld child B pa pcs pt) (hld : (Lit.int .i64 ld).wf = true) {k : Nat} (hk : k + 1 < n) (hg : (z k).g = false) (hn0 : (z (k + 1)).name.size ≠ 0) (hpc : (z (k + 1)).pc = 0) (hg1 : (z (k + 1)).g = false) (hq1 : (z (k + 1)).name ≠ ⟨#[63]⟩) (ht : 0 < zt (z (k + 1))) :
    Calls Tryf.prog 37 #[.pointer (some ⟨pl, 0, none⟩), .pointer (some ⟨pa, (k + 1) * 10, none⟩)] w (NPost (rawT z src ld child (k + 1)) false w) := by
  obtain ⟨fp, hf⟩ := h.fr hk
  obtain ⟨fq, hq⟩ := h.fr (k := k) (by omega)
  obtain ⟨T1, hT1⟩ : ∃ T1 : ByteArray, (⟨(posT src ld).toArray⟩ : ByteArray) = T1 := ⟨_, rfl⟩
  have t1 := (tx_pos F src.data.toList ld (by have : src.data.toList.length ≤ 65536 := h.ok.hs; omega) hld).trans hT1
  have HT : Hid ((⟨(rawT z src ld child (k + 1)).toArray⟩ : ByteArray) = T1) := Lib.hid (by rw [← hT1, rawT, if_pos ⟨hg, hn0, hpc⟩, if_pos ⟨hg1, .inr ht⟩])
  have f1 := hf.f1
  have f2 := hf.f2
  have f9 := hf.f9
  have hp0 : parA pa (k + 1) = some ⟨pa, k * 10, none⟩ := by simp [parA]
  rw [hp0] at f2
  have g1 := hf.fn.g.2
  have q1 := hq.f1
  have q3 := hq.f3
  have q0 := hq.fn.g.2
  obtain ⟨pp, lp, dv, p2, p0, p1, _, _, p12, pd⟩ := hq.fn.no hg
  have a2 := p2.2
  have a12 := p12.2
  obtain ⟨p', l', _, b2, b0, b1, _⟩ := hf.fn.no hg1
  replace b2 := b2.2
  replace b0 := b0.2
  replace b1 := b1.2
  obtain ⟨g, cap, rfl, d0, d1, d2, d3⟩ : ∃ g cap, dv = .slice (some ⟨g, 0, none⟩) 3 cap ∧ w.cell? ⟨g, 0, none⟩ = some (.string decoyS) ∧ w.cell? ⟨g, 1, none⟩ = some (.int .i64 7) ∧ w.cell? ⟨g, 2, none⟩ = some (.string (z (k + 1)).name) ∧ w.cell? ⟨g, 3, none⟩ = some (.int .i64 0) := by
    rcases pd with pd | ⟨u, g, cap, e1, e2, e3, c0, c1, c2, c3, _⟩
    · exact absurd (pd.1 _ (by rw [nextOf, if_pos hk])) hn0
    · rw [nextOf, if_pos hk] at e1
      injection e1 with e1
      subst e1
      rw [if_pos hpc] at e3
      rw [hpc] at c3
      exact ⟨g, cap, e3, c0.2, c1.2, c2.2, c3.2⟩
  unfold decoyS at d0
  rw [hg1] at g1
  rw [hg] at q0
  generalize zt (z (k + 1)) = TT at *
  have m1 : ¬ (z (k + 1)).name.toList = [63] := fun e => hq1 (by
    rw [ByteArray.toList_eq] at e
    exact bytes_ext e)
  have m2 : ((z (k + 1)).name.toList == [63]) = false := by simp [m1]
  generalize (k + 1) * 10 = o1 at *
  generalize k * 10 = o0 at *
  generalize hN : (z (k + 1)).name = N at *
  have hw0 : IntKind.i64.wrap ((1 : Int) - 1) = 0 := by decide
  have hF' := answers_open h.hF
  clear h hf hq hp0 hg hg1 p2 p0 p1 p12 hq1 pd hn0 hN hld hpc hT1
  go_enter Tryf.func37, Tryf.ntmps37
  go_wp2
  go_loopw [46] (fun v46 wr => ∃ i : Nat, i ≤ 1 ∧ v46 = .int .i64 i ∧ Below w.heap.size w wr) (fun v46 _ => 3 - (intOf v46).toNat)
  case atStart => exact ⟨0, by omega, rfl, Below.refl _ _⟩
  case round =>
    obtain ⟨i, hi, rfl, hb⟩ := hrel
    have q := Kp.of_below (B := 0) hb
    replace f1 := q _ _ (Nat.zero_le _) f1
    replace f2 := q _ _ (Nat.zero_le _) f2
    replace f9 := q _ _ (Nat.zero_le _) f9
    replace g1 := q _ _ (Nat.zero_le _) g1
    replace b2 := q _ _ (Nat.zero_le _) b2
    replace b0 := q _ _ (Nat.zero_le _) b0
    replace b1 := q _ _ (Nat.zero_le _) b1
    replace d0 := q _ _ (Nat.zero_le _) d0
    replace d1 := q _ _ (Nat.zero_le _) d1
    replace d2 := q _ _ (Nat.zero_le _) d2
    replace d3 := q _ _ (Nat.zero_le _) d3
    have l1 : pa < wr.heap.size := World.block_lt_of_cell? wr _ f1
    have l2 : fp < wr.heap.size := World.block_lt_of_cell? wr _ g1
    have l3 : p' < wr.heap.size := World.block_lt_of_cell? wr _ b0
    rw [← hb.tape] at hF'
    have HB := Lib.hid hb
    clear hb q
    obtain rfl | rfl : i = 0 ∨ i = 1 := by omega
    · go_wp2
      go_roundw
      case rel => exact ⟨1, by omega, by go_num, below_one HB.out _⟩
      case measure => simp [intOf]
    · go_wp2
      have q2 := Kp.of_below (B := 0) (below_one (Below.refl wr.heap.size wr) (Obj.cells #[Value.string N, Value.int IntKind.i64 0] 77))
      have hF2 : F.told.answers (wr.alloc (Obj.cells #[Value.string N, Value.int IntKind.i64 0] 77)).tape := hF'
      have HB2 := Lib.hid (below_one HB.out (Obj.cells #[Value.string N, Value.int IntKind.i64 0] 77))
      have F1 := q2 _ _ (Nat.zero_le _) f1
      have G1 := q2 _ _ (Nat.zero_le _) g1
      have B2 := q2 _ _ (Nat.zero_le _) b2
      have B0 := q2 _ _ (Nat.zero_le _) b0
      have B1 := q2 _ _ (Nat.zero_le _) b1
      generalize (wr.alloc (Obj.cells #[Value.string N, Value.int IntKind.i64 0] 77)) = X at *
      clear f1 g1 b2 b0 b1 q2 hF'
      replace hF2 := answers_open hF2
      go_still_tail 22, (by kernel_rfl)
      change wpList _ _ _ _ _ X.drew
      go_wp2
      go_ret2
      exact ⟨by first | (rw [HT.out]; done) | (rw [HT.out]; rfl), below_drew (below_drew (below_one HB2.out _))⟩
set_option maxRecDepth 100000 in
set_option maxHeartbeats 4000000 in
theorem nm_f (h : RN F w0 w pl n z src ld child B pa pcs pt) (hld : (Lit.int .i64 ld).wf = true) {k : Nat} (hk : k + 1 < n) (hg : (z k).g = false) (hn0 : (z (k + 1)).name.size ≠ 0) (hpc : (z (k + 1)).pc ≠ 0) (hg1 : (z (k + 1)).g = true) :
    Calls Tryf.prog 37 #[.pointer (some ⟨pl, 0, none⟩), .pointer (some ⟨pa, (k + 1) * 10, none⟩)] w (NPost (rawT z src ld child (k + 1)) false w) := by
  obtain ⟨fp, hf⟩ := h.fr hk
  obtain ⟨fq, hq⟩ := h.fr (k := k) (by omega)
  have HT : Hid (rawT z src ld child (k + 1) = anonT) := Lib.hid (by rw [rawT, if_neg (by simp [hpc]), if_neg (by simp [hg1])])
  have f1 := hf.f1
  have f2 := hf.f2
  have f9 := hf.f9
  have hp0 : parA pa (k + 1) = some ⟨pa, k * 10, none⟩ := by simp [parA]
  rw [hp0] at f2
  have g1 := hf.fn.g.2
  have q1 := hq.f1
  have q3 := hq.f3
  have q0 := hq.fn.g.2
  obtain ⟨pp, lp, dv, p2, p0, p1, _, _, p12, pd⟩ := hq.fn.no hg
  have a2 := p2.2
  have a12 := p12.2
  obtain ⟨g, cap, rfl, d0, d1, d2, d3⟩ : ∃ g cap, dv = .slice (some ⟨g, 0, none⟩) 2 cap ∧ w.cell? ⟨g, 0, none⟩ = some (.string decoyS) ∧ w.cell? ⟨g, 1, none⟩ = some (.int .i64 7) ∧ w.cell? ⟨g, 2, none⟩ = some (.string (z (k + 1)).name) ∧ w.cell? ⟨g, 3, none⟩ = some (.int .i64 (z (k + 1)).pc) := by
    rcases pd with pd | ⟨u, g, cap, e1, e2, e3, c0, c1, c2, c3, _⟩
    · exact absurd (pd.1 _ (by rw [nextOf, if_pos hk])) hn0
    · rw [nextOf, if_pos hk] at e1
      injection e1 with e1
      subst e1
      rw [if_neg hpc] at e3
      exact ⟨g, cap, e3, c0.2, c1.2, c2.2, c3.2⟩
  unfold decoyS at d0
  rw [hg1] at g1
  rw [hg] at q0
  have hpc2 : ((z (k + 1)).pc == 0) = false := by simp [hpc]
  generalize zt (z (k + 1)) = TT at *
  generalize (k + 1) * 10 = o1 at *
  generalize k * 10 = o0 at *
  generalize hN : (z (k + 1)).name = N at *
  generalize (z (k + 1)).pc = PC at *
  have hw0 : IntKind.i64.wrap ((1 : Int) - 1) = 0 := by decide
  clear h hf hq hp0 hg hg1 p2 p0 p1 p12 pd hn0 hN hld
  go_enter Tryf.func37, Tryf.ntmps37
  go_wp2
  go_loopw [46] (fun v46 wr => ∃ i : Nat, i ≤ 2 ∧ v46 = .int .i64 i ∧ Below w.heap.size w wr) (fun v46 _ => 3 - (intOf v46).toNat)
  case atStart => exact ⟨0, by omega, rfl, Below.refl _ _⟩
  case round =>
    obtain ⟨i, hi, rfl, hb⟩ := hrel
    have q := Kp.of_below (B := 0) hb
    replace f1 := q _ _ (Nat.zero_le _) f1
    replace f2 := q _ _ (Nat.zero_le _) f2
    replace f9 := q _ _ (Nat.zero_le _) f9
    replace g1 := q _ _ (Nat.zero_le _) g1
    replace d0 := q _ _ (Nat.zero_le _) d0
    replace d1 := q _ _ (Nat.zero_le _) d1
    replace d2 := q _ _ (Nat.zero_le _) d2
    replace d3 := q _ _ (Nat.zero_le _) d3
    have l1 : pa < wr.heap.size := World.block_lt_of_cell? wr _ f1
    have l2 : fp < wr.heap.size := World.block_lt_of_cell? wr _ g1
    have HB := Lib.hid hb
    clear hb q
    obtain rfl | rfl | rfl : i = 0 ∨ i = 1 ∨ i = 2 := by omega
    · go_wp2
      go_roundw
      case rel => exact ⟨1, by omega, by go_num, below_one HB.out _⟩
      case measure => simp [intOf]
    · go_wp2
      go_roundw
      case rel => exact ⟨2, by omega, by go_num, below_one HB.out _⟩
      case measure => simp [intOf]
    · go_wp2
      go_ret2
      exact ⟨by first | (rw [HT.out]; done) | (rw [HT.out]; rfl), HB.out⟩
set_option maxRecDepth 100000 in
set_option maxHeartbeats 4000000 in
theorem nm_g (h : RN F w0 w pl n z src ld child B pa pcs pt) (hld : (Lit.int .i64 ld).wf = true) {k : Nat} (hk : k + 1 < n) (hg : (z k).g = false) (hn0 : (z (k + 1)).name.size ≠ 0) (hpc : (z (k + 1)).pc ≠ 0) (hg1 : (z (k + 1)).g = false) :
    Calls Tryf.prog 37 #[.pointer (some ⟨pl, 0, none⟩), .pointer (some ⟨pa, (k + 1) * 10, none⟩)] w (NPost (rawT z src ld child (k + 1)) false w) := by
  obtain ⟨fp, hf⟩ := h.fr hk
  obtain ⟨fq, hq⟩ := h.fr (k := k) (by omega)
  obtain ⟨T1, hT1⟩ : ∃ T1 : ByteArray, (⟨(posT src ld).toArray⟩ : ByteArray) = T1 := ⟨_, rfl⟩
  have t1 := (tx_pos F src.data.toList ld (by have : src.data.toList.length ≤ 65536 := h.ok.hs; omega) hld).trans hT1
  have HT : Hid ((⟨(rawT z src ld child (k + 1)).toArray⟩ : ByteArray) = T1) := Lib.hid (by rw [← hT1, rawT, if_neg (by simp [hpc]), if_pos (by simp [hg1])])
  have f1 := hf.f1
  have f2 := hf.f2
  have f9 := hf.f9
  have hp0 : parA pa (k + 1) = some ⟨pa, k * 10, none⟩ := by simp [parA]
  rw [hp0] at f2
  have g1 := hf.fn.g.2
  have q1 := hq.f1
  have q3 := hq.f3
  have q0 := hq.fn.g.2
  obtain ⟨pp, lp, dv, p2, p0, p1, _, _, p12, pd⟩ := hq.fn.no hg
  have a2 := p2.2
  have a12 := p12.2
  obtain ⟨p', l', _, b2, b0, b1, _⟩ := hf.fn.no hg1
  replace b2 := b2.2
  replace b0 := b0.2
  replace b1 := b1.2
  obtain ⟨g, cap, rfl, d0, d1, d2, d3⟩ : ∃ g cap, dv = .slice (some ⟨g, 0, none⟩) 2 cap ∧ w.cell? ⟨g, 0, none⟩ = some (.string decoyS) ∧ w.cell? ⟨g, 1, none⟩ = some (.int .i64 7) ∧ w.cell? ⟨g, 2, none⟩ = some (.string (z (k + 1)).name) ∧ w.cell? ⟨g, 3, none⟩ = some (.int .i64 (z (k + 1)).pc) := by
    rcases pd with pd | ⟨u, g, cap, e1, e2, e3, c0, c1, c2, c3, _⟩
    · exact absurd (pd.1 _ (by rw [nextOf, if_pos hk])) hn0
    · rw [nextOf, if_pos hk] at e1
      injection e1 with e1
      subst e1
      rw [if_neg hpc] at e3
      exact ⟨g, cap, e3, c0.2, c1.2, c2.2, c3.2⟩
  unfold decoyS at d0
  rw [hg1] at g1
  rw [hg] at q0
  have hpc2 : ((z (k + 1)).pc == 0) = false := by simp [hpc]
  generalize zt (z (k + 1)) = TT at *
  generalize (k + 1) * 10 = o1 at *
  generalize k * 10 = o0 at *
  generalize hN : (z (k + 1)).name = N at *
  generalize (z (k + 1)).pc = PC at *
  have hw0 : IntKind.i64.wrap ((1 : Int) - 1) = 0 := by decide
  have hF' := answers_open h.hF
  clear h hf hq hp0 hg hg1 p2 p0 p1 p12 pd hn0 hN hld hT1
  go_enter Tryf.func37, Tryf.ntmps37
  go_wp2
  go_loopw [46] (fun v46 wr => ∃ i : Nat, i ≤ 2 ∧ v46 = .int .i64 i ∧ Below w.heap.size w wr) (fun v46 _ => 3 - (intOf v46).toNat)
  case atStart => exact ⟨0, by omega, rfl, Below.refl _ _⟩
  case round =>
    obtain ⟨i, hi, rfl, hb⟩ := hrel
    have q := Kp.of_below (B := 0) hb
    replace f1 := q _ _ (Nat.zero_le _) f1
    replace f2 := q _ _ (Nat.zero_le _) f2
    replace f9 := q _ _ (Nat.zero_le _) f9
    replace g1 := q _ _ (Nat.zero_le _) g1
    replace b2 := q _ _ (Nat.zero_le _) b2
    replace b0 := q _ _ (Nat.zero_le _) b0
    replace b1 := q _ _ (Nat.zero_le _) b1
    replace d0 := q _ _ (Nat.zero_le _) d0
    replace d1 := q _ _ (Nat.zero_le _) d1
    replace d2 := q _ _ (Nat.zero_le _) d2
    replace d3 := q _ _ (Nat.zero_le _) d3
    have l1 : pa < wr.heap.size := World.block_lt_of_cell? wr _ f1
    have l2 : fp < wr.heap.size := World.block_lt_of_cell? wr _ g1
    have l3 : p' < wr.heap.size := World.block_lt_of_cell? wr _ b0
    rw [← hb.tape] at hF'
    have HB := Lib.hid hb
    clear hb q
    obtain rfl | rfl | rfl : i = 0 ∨ i = 1 ∨ i = 2 := by omega
    · go_wp2
      go_roundw
      case rel => exact ⟨1, by omega, by go_num, below_one HB.out _⟩
      case measure => simp [intOf]
    · go_wp2
      go_roundw
      case rel => exact ⟨2, by omega, by go_num, below_one HB.out _⟩
      case measure => simp [intOf]
    · go_wp2
      go_still_tail 22, (by kernel_rfl)
      change wpList _ _ _ _ _ wr.drew
      go_wp2
      go_ret2
      exact ⟨by first | (rw [HT.out]; done) | (rw [HT.out]; rfl), below_drew (below_drew (below_one HB.out _))⟩
set_option maxRecDepth 100000 in
set_option maxHeartbeats 4000000 in
theorem nm_h (h : RN F w0 w pl n z src ld child B pa pcs pt) (hld : (Lit.int .i64 ld).wf = true) {k : Nat} (hk : k + 1 < n) (hg : (z k).g = false) (hn0 : (z (k + 1)).name.size = 0) (hg1 : (z (k + 1)).g = false) :
    Calls Tryf.prog 37 #[.pointer (some ⟨pl, 0, none⟩), .pointer (some ⟨pa, (k + 1) * 10, none⟩)] w (NPost (rawT z src ld child (k + 1)) false w) := by
  obtain ⟨fp, hf⟩ := h.fr hk
  obtain ⟨fq, hq⟩ := h.fr (k := k) (by omega)
  obtain ⟨T1, hT1⟩ : ∃ T1 : ByteArray, (⟨(posT src ld).toArray⟩ : ByteArray) = T1 := ⟨_, rfl⟩
  have t1 := (tx_pos F src.data.toList ld (by have : src.data.toList.length ≤ 65536 := h.ok.hs; omega) hld).trans hT1
  have HT : Hid ((⟨(rawT z src ld child (k + 1)).toArray⟩ : ByteArray) = T1) := Lib.hid (by rw [← hT1, rawT, if_neg (by simp [hn0]), if_pos (by simp [hg1])])
  have f1 := hf.f1
  have f2 := hf.f2
  have f9 := hf.f9
  have hp0 : parA pa (k + 1) = some ⟨pa, k * 10, none⟩ := by simp [parA]
  rw [hp0] at f2
  have g1 := hf.fn.g.2
  have q1 := hq.f1
  have q3 := hq.f3
  have q0 := hq.fn.g.2
  obtain ⟨pp, lp, dv, p2, p0, p1, _, _, p12, pd⟩ := hq.fn.no hg
  have a2 := p2.2
  have a12 := p12.2
  obtain ⟨p', l', _, b2, b0, b1, _⟩ := hf.fn.no hg1
  replace b2 := b2.2
  replace b0 := b0.2
  replace b1 := b1.2
  have hdv : dv = .slice none 0 0 := by
    rcases pd with pd | ⟨u, _, _, e1, e2, _⟩
    · exact pd.2
    · rw [nextOf, if_pos hk] at e1
      injection e1 with e1
      rw [← e1] at e2
      exact absurd hn0 e2
  subst hdv
  rw [hg1] at g1
  rw [hg] at q0
  generalize zt (z (k + 1)) = TT at *
  generalize (k + 1) * 10 = o1 at *
  generalize k * 10 = o0 at *
  generalize hN : (z (k + 1)).name = N at *
  have hw0 : IntKind.i64.wrap ((1 : Int) - 1) = 0 := by decide
  have hF' := answers_open h.hF
  clear h hf hq hp0 hg hg1 p2 p0 p1 p12 pd hn0 hN hld hT1
  go_enter Tryf.func37, Tryf.ntmps37
  go_wp2
  go_loopw [46] (fun v46 wr => ∃ i : Nat, i ≤ 0 ∧ v46 = .int .i64 i ∧ Below w.heap.size w wr) (fun v46 _ => 3 - (intOf v46).toNat)
  case atStart => exact ⟨0, by omega, rfl, Below.refl _ _⟩
  case round =>
    obtain ⟨i, hi, rfl, hb⟩ := hrel
    have q := Kp.of_below (B := 0) hb
    replace f1 := q _ _ (Nat.zero_le _) f1
    replace f2 := q _ _ (Nat.zero_le _) f2
    replace f9 := q _ _ (Nat.zero_le _) f9
    replace g1 := q _ _ (Nat.zero_le _) g1
    replace b2 := q _ _ (Nat.zero_le _) b2
    replace b0 := q _ _ (Nat.zero_le _) b0
    replace b1 := q _ _ (Nat.zero_le _) b1
    have l1 : pa < wr.heap.size := World.block_lt_of_cell? wr _ f1
    have l2 : fp < wr.heap.size := World.block_lt_of_cell? wr _ g1
    have l3 : p' < wr.heap.size := World.block_lt_of_cell? wr _ b0
    rw [← hb.tape] at hF'
    have HB := Lib.hid hb
    clear hb q
    obtain rfl : i = 0 := by omega
    · go_wp2
      go_still_tail 22, (by kernel_rfl)
      change wpList _ _ _ _ _ wr.drew
      go_wp2
      go_ret2
      exact ⟨by first | (rw [HT.out]; done) | (rw [HT.out]; rfl), below_drew (below_drew (below_one HB.out _))⟩
theorem name37 (h : RN F w0 w pl n z src ld child B pa pcs pt) (hld : (Lit.int .i64 ld).wf = true) {k : Nat} (hk : k < n) :
    Calls Tryf.prog 37 #[.pointer (some ⟨pl, 0, none⟩), .pointer (some ⟨pa, k * 10, none⟩)] w (NPost (rawT z src ld child k) (decide (k = 0)) w) := by
  cases k with
  | zero => rw [Nat.zero_mul]; exact name_0 h hk
  | succ k =>
    have e : decide (k + 1 = 0) = false := by simp
    rw [e]
    cases hg : (z k).g
    · by_cases hn0 : (z (k + 1)).name.size = 0
      · cases hg1 : (z (k + 1)).g
        · exact nm_h h hld hk hg hn0 hg1
        · exact name_l0 h hld hk hg hn0 hg1
      · by_cases hpc : (z (k + 1)).pc = 0
        · by_cases hq : (z (k + 1)).name = ⟨#[63]⟩
          · cases hg1 : (z (k + 1)).g
            · exact nm_d h hld hk hg hn0 hpc hg1 hq
            · exact nm_a h hld hk hg hn0 hpc hg1 hq
          · cases hg1 : (z (k + 1)).g
            · by_cases ht : 0 < zt (z (k + 1))
              · exact nm_e h hld hk hg hn0 hpc hg1 hq ht
              · exact nm_c h hld hk hg hn0 hpc hg1 hq (by omega)
            · exact nm_b h hld hk hg hn0 hpc hg1 hq
        · cases hg1 : (z (k + 1)).g
          · exact nm_g h hld hk hg hn0 hpc hg1
          · exact nm_f h hld hk hg hn0 hpc hg1
    · cases hg1 : (z (k + 1)).g
      · exact name_gl h hld hk hg hg1
      · exact name_g h hld hk hg hg1
end
end Go.Proofs.YtlpnagpdjkgbcaaFmt

