/- A fresh context: what its makers leave. -/
import Derived.Test.YtpffohonpblfkaaProg
import Derived.Test.YtpffohonpblfkaaHp
import Derived.Test.YtpffohonpblfkaaOr
import Derived.Test.YtpffohonpblfkaaRegion
import Derived.WalkKit
import Derived.WalkSpells
import Derived.WalkLawsBesides
import Derived.Lib.Hide
import Derived.OpenShut
import Derived.Handy
import Derived.Maps.OwnOps
import Derived.Deep.LoopGhost
namespace Go.Proofs.Ytpffohonpblfkaa
open Go.RowKit Go.ChangeShapes Go.Deep Go.Maps
def V16 (i : Nat) (v : Value) (_ : World) : Prop := match i with
  | 0 => ∃ s, v = .string s
  | 9 => ∃ cs, v = .agg cs
  | 10 => ∃ g, v = .pointer (some ⟨g, 0, none⟩)
  | 11 => ∃ g, v = .pointer (some ⟨g, 0, none⟩)
  | _ => ∃ A n c, v = .slice A n c
theorem proto_new (s : ByteArray) (w : World) : Calls Try.prog 16 #[.string s] w fun e w' => ∃ g, e = .returned (.pointer (some ⟨g, 0, none⟩)) ∧ Below w.heap.size w w' := by
  go_enter Try.func16, Try.ntmps16
  go_wp2
  refine wp_region_steps (by kernel_rfl) (by kernel_rfl) V16 (fun i v w w' h _ => h) ?_ ?_
  · refine ⟨?_, ?_, ?_, ?_, ?_, ?_, ?_, ?_, ?_, ?_, ?_, ?_, trivial⟩
    · intro a w1 hm hd
      have f0 : a.tmps[0]?.getD undef = .string s := hm.free' 0 (by decide)
      clear hm hd
      refine step_value (v := .string s) (w' := w1) (by go_simp) ?_
      exact ⟨_, rfl, ⟨_, rfl⟩, Below.refl _ _⟩
    · exact fun a w1 _ _ => step_make 38 _ 128 rfl Try.underlying38 (by kernel_rfl)
    · exact fun a w1 _ _ => step_make 50 _ 32 rfl Try.underlying50 (by kernel_rfl)
    · exact fun a w1 _ _ => step_make 51 _ 16 rfl Try.underlying51 (by kernel_rfl)
    · exact fun a w1 _ _ => step_make 22 _ 128 rfl Try.underlying22 (by kernel_rfl)
    · exact fun a w1 _ _ => step_make 52 _ 16 rfl Try.underlying52 (by kernel_rfl)
    · exact fun a w1 _ _ => step_make 53 _ 128 rfl Try.underlying53 (by kernel_rfl)
    · exact fun a w1 _ _ => step_make 54 _ 16 rfl Try.underlying54 (by kernel_rfl)
    · exact fun a w1 _ _ => step_make 54 _ 32 rfl Try.underlying54 (by kernel_rfl)
    · intro a w1 hm hd
      obtain ⟨s0, h0⟩ : V16 0 (a.tmps[3]?.getD undef) w1 := hd 0 (by decide)
      obtain ⟨A1, n1, c1, h1⟩ : V16 1 (a.tmps[4]?.getD undef) w1 := hd 1 (by decide)
      obtain ⟨A2, n2, c2, h2⟩ : V16 2 (a.tmps[5]?.getD undef) w1 := hd 2 (by decide)
      obtain ⟨A3, n3, c3, h3⟩ : V16 3 (a.tmps[6]?.getD undef) w1 := hd 3 (by decide)
      obtain ⟨A4, n4, c4, h4⟩ : V16 4 (a.tmps[7]?.getD undef) w1 := hd 4 (by decide)
      obtain ⟨A5, n5, c5, h5⟩ : V16 5 (a.tmps[8]?.getD undef) w1 := hd 5 (by decide)
      obtain ⟨A6, n6, c6, h6⟩ : V16 6 (a.tmps[9]?.getD undef) w1 := hd 6 (by decide)
      obtain ⟨A7, n7, c7, h7⟩ : V16 7 (a.tmps[10]?.getD undef) w1 := hd 7 (by decide)
      obtain ⟨A8, n8, c8, h8⟩ : V16 8 (a.tmps[11]?.getD undef) w1 := hd 8 (by decide)
      clear hm hd
      go_simp
      exact ⟨_, rfl, ⟨_, rfl⟩, Below.refl _ _⟩
    · intro a w1 hm hd
      obtain ⟨s0, h0⟩ : V16 9 (a.tmps[12]?.getD undef) w1 := hd 9 (by decide)
      clear hm hd
      go_simp
      exact ⟨_, rfl, ⟨_, rfl⟩, by go_grown⟩
    · intro a w1 hm hd
      obtain ⟨s0, h0⟩ : V16 10 (a.tmps[13]?.getD undef) w1 := hd 10 (by decide)
      clear hm hd
      go_simp
      exact ⟨_, rfl, ⟨_, rfl⟩, Below.refl _ _⟩
  · intro a w1 hm hv
    obtain ⟨g, hg⟩ : V16 11 (a.tmps[2]?.getD undef) w1 := hv 11 (by decide)
    have hd : a.defers = [] := hm.defers
    have hb := Lib.hid hm.bel
    clear hv hm
    go_wp2
    exact bodyPost_ret (v := .pointer (some ⟨g, 0, none⟩)) (by simp [results, Try.results16, hg, go_sem]) hd ⟨g, rfl, hb.out⟩
theorem info9 : (Try.prog.info? 9).map (fun i => (i.zero, i.size, i.bytes)) = some (some (.string ByteArray.empty), 1, 16) := by kernel_rfl
theorem pool_new (k : Int) (w : World) : Calls Try.prog 17 #[.int .i64 k] w fun e w' => ∃ g, e = .returned (.pointer (some ⟨g, 0, none⟩)) ∧ Below w.heap.size w w' := by
  obtain ⟨C, hC, hmk⟩ := or_make (P := Try.prog) 54 9 (.string ByteArray.empty) 16 Try.underlying54 info9 rfl 16 (by omega) (by omega)
  have hmk1 : ∀ W : World, (Instr.makeSlice 54 (.int .i64 0) (.int .i64 16)).run Try.prog W = .ok (.slice (some ⟨W.heap.size, 0, none⟩) 0 16) (W.alloc (.cells C 9)) := hmk
  clear hmk hC
  go_enter Try.func17, Try.ntmps17
  go_wp2
  clear hmk1
  exact bodyPost_ret (v := .pointer (some ⟨w.heap.size + 1, 0, none⟩)) (by simp [results, Try.results17, go_sem]) rfl ⟨_, rfl, by go_grown⟩
theorem block_new (p : Nat) (w : World) : Calls Try.prog 18 #[.pointer (some ⟨p, 0, none⟩), .int .i64 0, .pointer none, .nilIface, .int .i64 0] w fun e w' => ∃ g, e = .returned (.pointer (some ⟨g, 0, none⟩)) ∧ Below w.heap.size w w' := by
  have hmm := @run_makeMap Try.prog
  go_enter Try.func18, Try.ntmps18
  go_wp2
  clear hmm
  exact bodyPost_ret (v := .pointer (some ⟨w.heap.size + 1, 0, none⟩)) (by simp [results, Try.results18, go_sem]) rfl ⟨_, rfl, by go_grown⟩
abbrev MapOf (w : World) (b n : Nat) (D : DataW Unit) : Prop := w.ownsMap Try.prog 3 (plainElem Try.prog 3) b n D
theorem MapOf.below {w w' : World} {b n : Nat} {D : DataW Unit} (h : MapOf w b n D) (hb : Below w.heap.size w w') : MapOf w' b n D :=
  World.ownsMap.kept h (row := none) ⟨hb.os, hb.tape, hb.output, hb.size, fun k hk _ => hb.block k hk⟩ (by simp)
theorem MapOf.ne {w : World} {b n : Nat} {D : DataW Unit} (h : MapOf w b n D) {f m : Nat} {e : TypeId} {F : Nat → Value} (hr : w.rowIs f e m F) : b ≠ f := by
  rintro rfl
  obtain ⟨c, hc, _⟩ := hr
  obtain ⟨es, cl, hb, _⟩ := h
  rw [hc] at hb
  simp at hb
theorem MapOf.setCell {w : World} {b n : Nat} {D : DataW Unit} (h : MapOf w b n D) {p : Addr} (hp : b ≠ p.block) (v : Value) : MapOf (w.setCell p v) b n D :=
  World.ownsMap.kept h (row := some p.block) ⟨rfl, rfl, rfl, by simp, fun k _ hk => Below.heap_setCell w p v k (fun e => hk (by rw [e]))⟩ (fun e => hp (by injection e))
def Ctx0 (w0 : World) (f : Nat) (w : World) : Prop := ∃ F b q, w0.heap.size ≤ f ∧ w.rowIs f 49 11 F ∧ F 4 = .pointer q ∧ F 7 = .int .i64 1 ∧ F 8 = .map (some b) ∧ w0.heap.size ≤ b ∧ MapOf w b 0 (.map [])
theorem Ctx0.below {w0 w w' : World} {f : Nat} (h : Ctx0 w0 f w) (hb : Below w.heap.size w w') : Ctx0 w0 f w' := by
  obtain ⟨F, b, q, h1, h2, h3, h4, h5, h6, h7⟩ := h
  exact ⟨F, b, q, h1, Below.row hb h2 h2.lt, h3, h4, h5, h6, h7.below hb⟩
def V12 (w0 : World) (i : Nat) (v : Value) (w : World) : Prop := match i with
  | 0 => ∃ s, v = .string s
  | 2 => ∃ A n c, v = .slice A n c
  | 3 => ∃ A n c, v = .slice A n c
  | 4 => ∃ cs, v = .agg cs
  | 6 => v = .pointer none
  | 10 => ∃ b, v = .map (some b) ∧ w0.heap.size ≤ b ∧ MapOf w b 0 (.map [])
  | 11 => ∃ b, v = .map (some b)
  | 12 => ∃ C b q, v = .agg C ∧ C.size = 11 ∧ C.getD 4 undef = .pointer q ∧ C.getD 7 undef = .int .i64 1 ∧ C.getD 8 undef = .map (some b) ∧ w0.heap.size ≤ b ∧ MapOf w b 0 (.map [])
  | 13 => ∃ f, v = .pointer (some ⟨f, 0, none⟩) ∧ Ctx0 w0 f w
  | 14 => ∃ f, v = .pointer (some ⟨f, 0, none⟩) ∧ Ctx0 w0 f w
  | _ => ∃ g, v = .pointer (some ⟨g, 0, none⟩)
theorem V12.below (w0 : World) : ∀ i v w w', V12 w0 i v w → Below w.heap.size w w' → V12 w0 i v w' := by
  intro i v w w' h hb
  match i, h with
  | 0, h => exact h
  | 1, h => exact h
  | 2, h => exact h
  | 3, h => exact h
  | 4, h => exact h
  | 5, h => exact h
  | 6, h => exact h
  | 7, h => exact h
  | 8, h => exact h
  | 9, h => exact h
  | 10, ⟨b, h1, h2, h3⟩ => exact ⟨b, h1, h2, h3.below hb⟩
  | 11, h => exact h
  | 12, ⟨C, b, q, h1, h2, h3, h4, h5, h6, h7⟩ => exact ⟨C, b, q, h1, h2, h3, h4, h5, h6, h7.below hb⟩
  | 13, ⟨f, h1, h2⟩ => exact ⟨f, h1, h2.below hb⟩
  | 14, ⟨f, h1, h2⟩ => exact ⟨f, h1, h2.below hb⟩
  | n + 15, h => exact h
set_option maxHeartbeats 1000000 in
theorem ctx_new (s : ByteArray) (w : World) : Calls Try.prog 12 #[.string s, .pointer none] w fun e w' => ∃ f, e = .returned (.pointer (some ⟨f, 0, none⟩)) ∧ Ctx0 w f w' ∧ Below w.heap.size w w' := by
  have hmm := @run_makeMap Try.prog
  go_enter Try.func12, Try.ntmps12
  go_wp2
  refine wp_region_steps (by kernel_rfl) (by kernel_rfl) (V12 w) (V12.below w) ?_ ?_
  · refine ⟨?_, ?_, ?_, ?_, ?_, ?_, ?_, ?_, ?_, ?_, ?_, ?_, ?_, ?_, ?_, trivial⟩
    · intro a w1 hm hd
      have f0 : a.tmps[0]?.getD undef = .string s := hm.free' 0 (by decide)
      clear hm hd hmm
      go_simp
      exact ⟨_, rfl, ⟨_, rfl⟩, Below.refl _ _⟩
    · intro a w1 hm hd
      obtain ⟨s0, h0⟩ : V12 w 0 (a.tmps[6]?.getD undef) w1 := hd 0 (by decide)
      clear hm hd hmm
      refine step_call (f := 16) (args := #[.string s0]) (by go_simp) ((proto_new s0 w1).mono ?_)
      rintro e w2 ⟨g, rfl, hb⟩
      exact ⟨_, rfl, _, rfl, ⟨g, rfl⟩, hb⟩
    · exact fun a w1 _ _ => step_make 38 _ 1024 rfl Try.underlying38 (by kernel_rfl)
    · exact fun a w1 _ _ => step_make 22 _ 1024 rfl Try.underlying22 (by kernel_rfl)
    · intro a w1 hm hd
      obtain ⟨A1, n1, c1, h1⟩ : V12 w 2 (a.tmps[8]?.getD undef) w1 := hd 2 (by decide)
      obtain ⟨A2, n2, c2, h2⟩ : V12 w 3 (a.tmps[9]?.getD undef) w1 := hd 3 (by decide)
      clear hm hd hmm
      go_simp
      exact ⟨_, rfl, ⟨_, rfl⟩, Below.refl _ _⟩
    · intro a w1 hm hd
      obtain ⟨s0, h0⟩ : V12 w 4 (a.tmps[10]?.getD undef) w1 := hd 4 (by decide)
      clear hm hd hmm
      go_simp
      exact ⟨_, rfl, ⟨_, rfl⟩, by go_grown⟩
    · intro a w1 hm hd
      have f0 : a.tmps[1]?.getD undef = .pointer none := hm.free' 1 (by decide)
      clear hm hd hmm
      go_simp
      exact ⟨_, rfl, rfl, Below.refl _ _⟩
    · intro a w1 hm hd
      clear hm hd hmm
      refine step_call (f := 17) (args := #[.int .i64 0]) (by go_simp) ((pool_new 0 w1).mono ?_)
      rintro e w2 ⟨g, rfl, hb⟩
      exact ⟨_, rfl, _, rfl, ⟨g, rfl⟩, hb⟩
    · intro a w1 hm hd
      clear hm hd hmm
      refine step_call (f := 17) (args := #[.int .i64 0]) (by go_simp) ((pool_new 0 w1).mono ?_)
      rintro e w2 ⟨g, rfl, hb⟩
      exact ⟨_, rfl, _, rfl, ⟨g, rfl⟩, hb⟩
    · intro a w1 hm hd
      obtain ⟨p, h0⟩ : V12 w 8 (a.tmps[14]?.getD undef) w1 := hd 8 (by decide)
      clear hm hd hmm
      refine step_call (f := 18) (args := #[.pointer (some ⟨p, 0, none⟩), .int .i64 0, .pointer none, .nilIface, .int .i64 0]) (by go_simp) ((block_new p w1).mono ?_)
      rintro e w2 ⟨g, rfl, hb⟩
      exact ⟨_, rfl, _, rfl, ⟨g, rfl⟩, hb⟩
    · intro a w1 hm hd
      have hb := hm.bel.size
      clear hm hd
      go_simp
      exact ⟨_, rfl, ⟨_, rfl, hb, World.ownsMap_made _ _ _ _⟩, (Below.refl _ _).alloc (Nat.le_refl _) _⟩
    · intro a w1 hm hd
      clear hm hd
      go_simp
      exact ⟨_, rfl, ⟨_, rfl⟩, (Below.refl _ _).alloc (Nat.le_refl _) _⟩
    · intro a w1 hm hd
      obtain ⟨g0, h0⟩ : V12 w 1 (a.tmps[7]?.getD undef) w1 := hd 1 (by decide)
      obtain ⟨g1, h1⟩ : V12 w 5 (a.tmps[11]?.getD undef) w1 := hd 5 (by decide)
      have h2 : V12 w 6 (a.tmps[12]?.getD undef) w1 := hd 6 (by decide)
      replace h2 : a.tmps[12]?.getD undef = .pointer none := h2
      obtain ⟨g3, h3⟩ : V12 w 7 (a.tmps[13]?.getD undef) w1 := hd 7 (by decide)
      obtain ⟨g4, h4⟩ : V12 w 9 (a.tmps[15]?.getD undef) w1 := hd 9 (by decide)
      obtain ⟨b, h5, h6, h7⟩ : V12 w 10 (a.tmps[16]?.getD undef) w1 := hd 10 (by decide)
      obtain ⟨b', h8⟩ : V12 w 11 (a.tmps[17]?.getD undef) w1 := hd 11 (by decide)
      have H7 := Lib.hid h7
      clear hm hd hmm h7
      go_simp
      exact ⟨_, rfl, ⟨_, b, _, rfl, rfl, rfl, rfl, rfl, h6, H7.out⟩, Below.refl _ _⟩
    · intro a w1 hm hd
      obtain ⟨C, b, q, h0, h1, h2, h3, h4, h5, h6⟩ : V12 w 12 (a.tmps[18]?.getD undef) w1 := hd 12 (by decide)
      have hb := hm.bel.size
      have HH := Lib.hid (And.intro h1 (And.intro h2 (And.intro h3 (And.intro h4 h6))))
      clear hm hd hmm h1 h2 h3 h4 h6
      go_simp
      refine ⟨_, rfl, ⟨_, rfl, ?_⟩, by go_grown⟩
      obtain ⟨h1, h2, h3, h4, h6⟩ := HH.out
      have hr := World.rowIs_alloc w1 C 49 _ (array_at C)
      rw [h1] at hr
      exact ⟨_, b, q, hb, hr, h2, h3, h4, h5, World.ownsMap.alloc h6 _⟩
    · intro a w1 hm hd
      obtain ⟨f, h0, h1⟩ : V12 w 13 (a.tmps[19]?.getD undef) w1 := hd 13 (by decide)
      have H1 := Lib.hid h1
      clear hm hd hmm h1
      go_simp
      exact ⟨_, rfl, ⟨f, rfl, H1.out⟩, Below.refl _ _⟩
  · intro a w1 hm hv
    obtain ⟨f, hf, hc⟩ : V12 w 14 (a.tmps[5]?.getD undef) w1 := hv 14 (by decide)
    have hs : a.tmps.size = 29 := hm.size
    have hd : a.defers = [] := hm.defers
    have hb := Lib.hid hm.bel
    clear hv hm hmm
    obtain ⟨F, b, q, h1, h2, h3, h4, h5, h6, h7⟩ := hc
    have c4 := h2.cell (i := 4) (by omega)
    have c5 := h2.cell (i := 5) (by omega)
    have f5 := h2.frozen 5
    have lf := h2.lt
    rw [h3] at c4
    have H2 := Lib.hid (And.intro h2 (And.intro h3 (And.intro h4 (And.intro h5 h7))))
    clear h2 h3 h4 h5 h7
    obtain ⟨⟨tl⟩, df⟩ := a
    simp only at hd
    subst hd
    match tl, hs, hf with
    | [x0, x1, x2, x3, x4, x5, x6, x7, x8, x9, x10, x11, x12, x13, x14, x15, x16, x17, x18, x19, x20, x21, x22, x23, x24, x25, x26, x27, x28], _, hf =>
      simp at hf
      subst hf
      go_wp2
      have hctx : Ctx0 w f ((w1.setCell ⟨f, 5, none⟩ (.slice (some ⟨w1.heap.size, 0, none⟩) 1 1)).alloc (.cells #[.pointer q] 43)) := by
        obtain ⟨h2, h3, h4, h5, h7⟩ := H2.out
        exact ⟨_, b, q, h1, (h2.set 5 _).alloc _, by simpa using h3, by simpa using h4, by simpa using h5, h6, World.ownsMap.alloc (h7.setCell (p := ⟨f, 5, none⟩) (h7.ne h2) _) _⟩
      exact bodyPost_ret (v := .pointer (some ⟨f, 0, none⟩)) (by simp [results, Try.results12, go_sem]) rfl ⟨f, rfl, hctx, (hb.out.setCell (p := ⟨f, 5, none⟩) h1 _).alloc (by simpa using hb.out.size) _⟩
end Go.Proofs.Ytpffohonpblfkaa
