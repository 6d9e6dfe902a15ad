/- The stack of frames, built: what the law's builder leaves in memory. -/
import Derived.Test.YtlpnagpdjkgbcaaFmtStk
namespace Go.Proofs.YtlpnagpdjkgbcaaFmt
set_option linter.unusedVariables false
open Go.RowKit Go.ChangeShapes Go.Deep
theorem Kp.of_fr {B : Nat} {o : Nat → Prop} {w w' : World} (h : Fr o w w') (ho : ∀ x, o x → x < B) : Kp B w w' := fun a v ha hc =>
  (h.cell (World.block_lt_of_cell? w _ hc) (fun hx => by have := ho _ hx; omega)).trans hc
def parA (pa i : Nat) : Option Addr := if i = 0 then none else some ⟨pa, (i - 1) * 10, none⟩
structure SF (B : Nat) (w : World) (F : Nat → Value) (pa n i : Nat) (z : Nat → FR) (src : ByteArray) (ld : Int) (fp : Nat) : Prop where
  f0 : F (i * 10) = .int .i64 i
  f1 : F (i * 10 + 1) = .pointer (some ⟨fp, 0, none⟩)
  f2 : F (i * 10 + 2) = .pointer (parA pa i)
  f3 : F (i * 10 + 3) = .int .i64 1
  f9 : F (i * 10 + 9) = .int .i64 (zt (z i))
  fn : FnAt B w fp (z i) (nextOf n z i) src ld
structure SK (B : Nat) (w0 w : World) (pa pcs n k : Nat) (z : Nat → FR) (src : ByteArray) (ld : Int) : Prop where
  arr : ∃ F, w.rowIs pa 87 (n * 10) F ∧ ∀ i, i < k → ∃ fp, SF B w F pa n i z src ld fp
  cs : w.rowIs pcs 68 2 (csF pa n k)
  bel : Below w0.heap.size w0 w
  ne : pa ≠ pcs
  la : w0.heap.size ≤ pa
  lc : w0.heap.size ≤ pcs
  ba : pa < B
  bc : pcs < B
  bw : B ≤ w.heap.size
theorem SF.kp {B : Nat} {w w' : World} {F : Nat → Value} {pa n i : Nat} {z : Nat → FR} {src : ByteArray} {ld : Int} {fp : Nat} (h : SF B w F pa n i z src ld fp) (k : Kp B w w') : SF B w' F pa n i z src ld fp :=
  ⟨h.f0, h.f1, h.f2, h.f3, h.f9, h.fn.kp k⟩
theorem SK.below {B : Nat} {w0 w w' : World} {pa pcs n k : Nat} {z : Nat → FR} {src : ByteArray} {ld : Int} (h : SK B w0 w pa pcs n k z src ld) (hb : Below w.heap.size w w') : SK B w0 w' pa pcs n k z src ld := by
  obtain ⟨F, hr, hf⟩ := h.arr
  refine ⟨⟨F, Below.row hb hr hr.lt, fun i hi => ?_⟩, Below.row hb h.cs h.cs.lt, h.bel.trans (hb.mono h.bel.size), h.ne, h.la, h.lc, h.ba, h.bc, Nat.le_trans h.bw hb.size⟩
  obtain ⟨fp, hs⟩ := hf i hi
  exact ⟨fp, hs.kp (Kp.of_below hb)⟩
theorem SK.step {B : Nat} {w0 w w1 : World} {pa pcs n k fp : Nat} {F : Nat → Value} {z : Nat → FR} {src : ByteArray} {ld : Int} (h : SK B w0 w pa pcs n k z src ld) (hfn : FnAt B w fp (z k) (nextOf n z k) src ld) (hk : k < n)
    (hF : w.rowIs pa 87 (n * 10) F) (hp : PS w w1 pa pcs n k F (.pointer (some ⟨fp, 0, none⟩)) (.pointer (parA pa k)) (zt (z k))) : SK B w0 w1 pa pcs n (k + 1) z src ld := by
  obtain ⟨⟨F', r', e0, e1, e2, e3, e9, eo⟩, cs', fr'⟩ := hp
  obtain ⟨F2, hr2, hf2⟩ := h.arr
  have kp : Kp B w w1 := Kp.of_fr fr' (fun x hx => by rcases hx with rfl | rfl; exact h.ba; exact h.bc)
  have hFF : ∀ i, i < n * 10 → F2 i = F i := fun i hi => by
    have a := hr2.cell hi
    have b := hF.cell hi
    rw [a] at b
    exact Option.some.inj b
  refine ⟨⟨F', r', fun i hi => ?_⟩, cs', h.bel.trans (fr'.below h.bel.size (fun x hx => by rcases hx with rfl | rfl; exact h.la; exact h.lc)), h.ne, h.la, h.lc, h.ba, h.bc, Nat.le_trans h.bw fr'.size⟩
  by_cases hik : i = k
  · subst hik
    exact ⟨fp, e0, e1, e2, e3, e9, hfn.kp kp⟩
  · obtain ⟨fp', hs⟩ := hf2 i (by omega)
    refine ⟨fp', ?_, ?_, ?_, ?_, ?_, hs.fn.kp kp⟩
    · rw [eo _ (by omega), ← hFF _ (by omega)]; exact hs.f0
    · rw [eo _ (by omega), ← hFF _ (by omega)]; exact hs.f1
    · rw [eo _ (by omega), ← hFF _ (by omega)]; exact hs.f2
    · rw [eo _ (by omega), ← hFF _ (by omega)]; exact hs.f3
    · rw [eo _ (by omega), ← hFF _ (by omega)]; exact hs.f9
theorem push18 {w : World} {pa pcs n k : Nat} {F : Nat → Value} (fo po : Option Addr) (tail : Int) (hr : w.rowIs pa 87 (n * 10) F) (hc : w.rowIs pcs 68 2 (csF pa n k)) (hne : pa ≠ pcs) (hn : n ≤ 4096) (hk : k < n) :
    Calls Tryf.prog 18 #[.pointer (some ⟨pcs, 0, none⟩), .pointer fo, .pointer po, .int .i64 1, .int .i64 tail] w fun e w' => e = .returned (.tuple #[]) ∧ PS w w' pa pcs n k F (.pointer fo) (.pointer po) tail := by
  have c26 := push26 fo po tail hr hc hne hn hk
  clear hr hc
  go_enter Tryf.func18, Tryf.ntmps18
  go_wp2_with fail
  refine c26.mono ?_
  clear c26
  rintro e w1 ⟨rfl, h⟩
  have H := Lib.hid h
  clear h
  go_wp2
  go_end0
  exact ⟨rfl, H.out⟩
theorem at27 {w : World} {pa pcs n k : Nat} (i : Nat) (hc : w.rowIs pcs 68 2 (csF pa n k)) (hi : i < n) (hn : n ≤ 4096) :
    Calls Tryf.prog 27 #[.pointer (some ⟨pcs, 0, none⟩), .int .i64 i] w fun e w' => e = .returned (.pointer (some ⟨pa, i * 10, none⟩)) ∧ w = w' := by
  have c0 := hc.cell (i := 0) (by omega)
  simp only [csF] at c0
  clear hc
  go_enter Tryf.func27, Tryf.ntmps27
  go_wp2
  go_ret
  exact ⟨rfl, rfl⟩
theorem at20 {w : World} {pa pcs n k : Nat} (i : Nat) (hc : w.rowIs pcs 68 2 (csF pa n k)) (hi : i < n) (hn : n ≤ 4096) :
    Calls Tryf.prog 20 #[.pointer (some ⟨pcs, 0, none⟩), .int .i64 i] w fun e w' => e = .returned (.pointer (some ⟨pa, i * 10, none⟩)) ∧ w = w' := by
  have c27 := at27 i hc hi hn
  clear hc
  go_enter Tryf.func20, Tryf.ntmps20
  go_wp2_with fail
  refine c27.mono ?_
  rintro e w1 ⟨rfl, rfl⟩
  clear c27
  go_wp2
  go_ret
  exact ⟨rfl, rfl⟩
theorem info87 : (Tryf.prog.info? 87).map (fun i => (i.zero, i.size, i.bytes)) = some (some (.agg #[.int .i64 0, .pointer none, .pointer none, .int .i64 0, .int .i64 0, .int .i64 0, .int .i64 0, .int .i64 0, .int .i64 0, .int .i64 0]), 10, 80) := by kernel_rfl
theorem make66 (n : Nat) (hn : n ≤ 4096) : ∃ C : Array Value, C.size = n * 10 ∧ ∀ W : World, (Instr.makeSlice 66 (.int .i64 (n : Int)) (.int .i64 (n : Int))).run Tryf.prog W = .ok (.slice (some ⟨W.heap.size, 0, none⟩) n n) (W.alloc (.cells C 87)) := by
  obtain ⟨i, hi, hzz⟩ := Option.map_eq_some_iff.1 info87
  simp only [Prod.mk.injEq] at hzz
  obtain ⟨hz, hs, hb⟩ := hzz
  refine ⟨madeCells (Value.agg #[.int .i64 0, .pointer none, .pointer none, .int .i64 0, .int .i64 0, .int .i64 0, .int .i64 0, .int .i64 0, .int .i64 0, .int .i64 0]).cells (n * i.size), by rw [size_madeCells, hs], fun W => ?_⟩
  have h := run_make (P := Tryf.prog) W 66 87 i _ Tryf.underlying66 hi hz .i64 .i64 n n (by omega) (by omega) (by rw [hb]; omega) (by omega)
  simp only [Int.toNat_natCast] at h
  exact h
def NewSt (w : World) (n : Nat) (z : Nat → FR) (src : ByteArray) (ld : Int) (e : Ending) (w' : World) : Prop := ∃ B pa pcs, e = .returned (.pointer (some ⟨pcs, 0, none⟩)) ∧ SK B w w' pa pcs n 0 z src ld
theorem stack16 (n : Nat) (hn : n ≤ 4096) (z : Nat → FR) (src : ByteArray) (ld : Int) (w : World) : Calls Tryf.prog 16 #[.int .i64 n] w (NewSt w n z src ld) := by
  obtain ⟨C, hC, hmk⟩ := make66 n hn
  have HS : Hid (SK (w.heap.size + 1 + 1) w ((w.alloc (.cells C 87)).alloc (.cells #[.slice (some ⟨w.heap.size, 0, none⟩) n n, .int .i64 0] 68)) w.heap.size (w.heap.size + 1) n 0 z src ld) := Lib.hid (by
    have r1 : (w.alloc (.cells C 87)).rowIs w.heap.size 87 (n * 10) (fun i => C.getD i default) := by
      rw [← hC]
      exact World.rowIs_alloc w C 87 _ (fun i hi => by simp [Array.getD, hi])
    have r2 := World.rowIs_alloc (w.alloc (.cells C 87)) #[.slice (some ⟨w.heap.size, 0, none⟩) n n, .int .i64 0] 68 (csF w.heap.size n 0) (fun i hi => by simp at hi; match i, hi with | 0, _ | 1, _ => rfl)
    simp only [World.size_alloc] at r2
    exact ⟨⟨_, r1.alloc _, fun i hi => by omega⟩, r2, ((Below.refl _ _).alloc (Nat.le_refl _) _).alloc (by simp) _, by omega, Nat.le_refl _, by omega, by omega, by omega, by simp⟩)
  clear hC
  go_enter Tryf.func16, Tryf.ntmps16
  go_wp2
  go_ret
  exact ⟨_, _, _, rfl, HS.out⟩
end Go.Proofs.YtlpnagpdjkgbcaaFmt
