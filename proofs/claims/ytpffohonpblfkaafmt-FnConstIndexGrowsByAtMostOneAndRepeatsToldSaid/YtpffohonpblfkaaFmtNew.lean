/- A fresh context: what its maker leaves. -/
import Derived.Test.YtpffohonpblfkaaFmtEnt
namespace Go.Proofs.YtpffohonpblfkaaFmt
open Go.RowKit Go.ChangeShapes Go.Deep
theorem info77 : (Tryf.prog.info? 77).map (fun i => (i.zero, i.size, i.bytes)) = some (some (.nilIface), 1, 16) := by kernel_rfl
def NewProto (w0 w : World) (pr : Nat) : Prop := ∃ gd gc FP, w0.heap.size ≤ pr ∧ w0.heap.size ≤ gd ∧ w0.heap.size ≤ gc ∧ w.rowIs pr 50 15 FP ∧ FP 8 = .slice (some ⟨gc, 0, none⟩) 0 32 ∧ FP 11 = .slice (some ⟨gd, 0, none⟩) 0 16 ∧ OR w 77 gc 0 32 [] ∧ OR w 70 gd 0 16 []
theorem NewProto.below {w0 w w' : World} {pr : Nat} (h : NewProto w0 w pr) (hb : Below w.heap.size w w') : NewProto w0 w' pr := by
  obtain ⟨gd, gc, FP, h1, h2, h3, h4, h5, h6, h7, h8⟩ := h
  exact ⟨gd, gc, FP, h1, h2, h3, Below.row hb h4 h4.lt, h5, h6, OR.below h7 hb h7.lt', OR.below h8 hb h8.lt'⟩
def V39 (w0 : World) (i : Nat) (v : Value) (w : World) : Prop := match i with
  | 0 => ∃ s, v = .string s
  | 2 => ∃ g, v = .slice (some ⟨g, 0, none⟩) 0 32 ∧ w0.heap.size ≤ g ∧ OR w 77 g 0 32 []
  | 5 => ∃ g, v = .slice (some ⟨g, 0, none⟩) 0 16 ∧ w0.heap.size ≤ g ∧ OR w 70 g 0 16 []
  | 9 => ∃ C gc gd, v = .agg C ∧ C.size = 15 ∧ C.getD 8 undef = .slice (some ⟨gc, 0, none⟩) 0 32 ∧ C.getD 11 undef = .slice (some ⟨gd, 0, none⟩) 0 16 ∧ w0.heap.size ≤ gc ∧ w0.heap.size ≤ gd ∧ OR w 77 gc 0 32 [] ∧ OR w 70 gd 0 16 []
  | 10 => ∃ g, v = .pointer (some ⟨g, 0, none⟩) ∧ NewProto w0 w g
  | 11 => ∃ g, v = .pointer (some ⟨g, 0, none⟩) ∧ NewProto w0 w g
  | _ => ∃ A n c, v = .slice A n c
theorem V39.stable (w0 : World) : ∀ i v w w', V39 w0 i v w → Below w.heap.size w w' → V39 w0 i v w' := by
  intro i v w w' h hb
  match i, h with
  | 0, h => exact h
  | 1, h => exact h
  | 2, h => exact by obtain ⟨g, h1, h2, h3⟩ := h; exact ⟨g, h1, h2, OR.below h3 hb h3.lt'⟩
  | 3, h => exact h
  | 4, h => exact h
  | 5, h => exact by obtain ⟨g, h1, h2, h3⟩ := h; exact ⟨g, h1, h2, OR.below h3 hb h3.lt'⟩
  | 6, h => exact h
  | 7, h => exact h
  | 8, h => exact h
  | 9, h => exact by obtain ⟨C, gc, gd, h1, h2, h3, h4, h5, h6, h7, h8⟩ := h; exact ⟨C, gc, gd, h1, h2, h3, h4, h5, h6, OR.below h7 hb h7.lt', OR.below h8 hb h8.lt'⟩
  | 10, h => exact by obtain ⟨g, h1, h2⟩ := h; exact ⟨g, h1, h2.below hb⟩
  | 11, h => exact by obtain ⟨g, h1, h2⟩ := h; exact ⟨g, h1, h2.below hb⟩
  | n + 12, h => exact h
set_option maxHeartbeats 2000000 in
set_option maxRecDepth 100000 in
theorem proto_new (s : ByteArray) (w : World) : Calls Tryf.prog 39 #[.string s] w fun e w' => ∃ g, e = .returned (.pointer (some ⟨g, 0, none⟩)) ∧ NewProto w w' g ∧ Below w.heap.size w w' := by
  go_enter Tryf.func39, Tryf.ntmps39
  go_wp2
  refine wp_region_steps (by kernel_rfl) (by kernel_rfl) (V39 w) (V39.stable w) ?_ ?_
  · refine ⟨?_, ?_, ?_, ?_, ?_, ?_, ?_, ?_, ?_, ?_, ?_, ?_, trivial⟩
    · intro a w1 hm hd
      have f0 : a.tmps[0]?.getD undef = .string s := hm.free' 0 (by decide)
      clear hm hd
      refine step_value (v := .string s) (w' := w1) (by go_simp) ?_
      exact ⟨_, rfl, ⟨_, rfl⟩, Below.refl _ _⟩
    · exact fun a w1 _ _ => step_make 43 _ 128 rfl Tryf.underlying43 (by kernel_rfl)
    · intro a w1 hm _
      have hs := hm.bel.size
      refine Oper.wp_mono ?_ (step_make_own 44 77 .nilIface 16 32 rfl Tryf.underlying44 info77 rfl (by omega) (by unfold maxLen; omega))
      rintro a' w' ⟨v, h1, ⟨g, h2, h3, h4⟩, h5⟩
      exact ⟨v, h1, ⟨g, h2, by omega, h4⟩, h5⟩
    · exact fun a w1 _ _ => step_make 45 _ 16 rfl Tryf.underlying45 (by kernel_rfl)
    · exact fun a w1 _ _ => step_make 46 _ 128 rfl Tryf.underlying46 (by kernel_rfl)
    · intro a w1 hm _
      have hs := hm.bel.size
      refine Oper.wp_mono ?_ (step_make_own 47 70 (.pointer none) 8 16 rfl Tryf.underlying47 info70 rfl (by omega) (by unfold maxLen; omega))
      rintro a' w' ⟨v, h1, ⟨g, h2, h3, h4⟩, h5⟩
      exact ⟨v, h1, ⟨g, h2, by omega, h4⟩, h5⟩
    · exact fun a w1 _ _ => step_make 48 _ 128 rfl Tryf.underlying48 (by kernel_rfl)
    · exact fun a w1 _ _ => step_make 24 _ 16 rfl Tryf.underlying24 (by kernel_rfl)
    · exact fun a w1 _ _ => step_make 24 _ 32 rfl Tryf.underlying24 (by kernel_rfl)
    · intro a w1 hm hd
      obtain ⟨s0, h0⟩ : V39 w 0 (a.tmps[3]?.getD undef) w1 := hd 0 (by decide)
      obtain ⟨A1, n1, c1, h1⟩ : V39 w 1 (a.tmps[4]?.getD undef) w1 := hd 1 (by decide)
      obtain ⟨gc, h2, k2, l2⟩ : V39 w 2 (a.tmps[5]?.getD undef) w1 := hd 2 (by decide)
      obtain ⟨A3, n3, c3, h3⟩ : V39 w 3 (a.tmps[6]?.getD undef) w1 := hd 3 (by decide)
      obtain ⟨A4, n4, c4, h4⟩ : V39 w 4 (a.tmps[7]?.getD undef) w1 := hd 4 (by decide)
      obtain ⟨gd, h5, k5, l5⟩ : V39 w 5 (a.tmps[8]?.getD undef) w1 := hd 5 (by decide)
      obtain ⟨A6, n6, c6, h6⟩ : V39 w 6 (a.tmps[9]?.getD undef) w1 := hd 6 (by decide)
      obtain ⟨A7, n7, c7, h7⟩ : V39 w 7 (a.tmps[10]?.getD undef) w1 := hd 7 (by decide)
      obtain ⟨A8, n8, c8, h8⟩ : V39 w 8 (a.tmps[11]?.getD undef) w1 := hd 8 (by decide)
      have L2 := Lib.hid l2
      have L5 := Lib.hid l5
      clear hm hd l2 l5
      go_simp
      exact ⟨_, rfl, ⟨_, gc, gd, rfl, rfl, rfl, rfl, k2, k5, L2.out, L5.out⟩, Below.refl _ _⟩
    · intro a w1 hm hd
      obtain ⟨C, gc, gd, h0, h1, h2, h3, h4, h5, h6, h7⟩ : V39 w 9 (a.tmps[12]?.getD undef) w1 := hd 9 (by decide)
      have hb := hm.bel.size
      have HH := Lib.hid (And.intro h1 (And.intro h2 (And.intro h3 (And.intro h6 h7))))
      clear hm hd h1 h2 h3 h6 h7
      go_simp
      have hbel : Below w1.heap.size w1 (w1.alloc (.cells C 50)) := by go_grown
      refine ⟨_, rfl, ⟨_, rfl, ?_⟩, hbel⟩
      obtain ⟨h1, h2, h3, h6, h7⟩ := HH.out
      have hr := World.rowIs_alloc w1 C 50 _ (array_at C)
      rw [h1] at hr
      exact ⟨gd, gc, _, hb, h5, h4, hr, h2, h3, OR.below h6 hbel h6.lt', OR.below h7 hbel h7.lt'⟩
    · intro a w1 hm hd
      obtain ⟨s0, h0, h1⟩ : V39 w 10 (a.tmps[13]?.getD undef) w1 := hd 10 (by decide)
      have H1 := Lib.hid h1
      clear hm hd h1
      go_simp
      exact ⟨_, rfl, ⟨_, rfl, H1.out⟩, Below.refl _ _⟩
  · intro a w1 hm hv
    obtain ⟨g, hg, h1⟩ : V39 w 11 (a.tmps[2]?.getD undef) w1 := hv 11 (by decide)
    have hd : a.defers = [] := hm.defers
    have hb := Lib.hid hm.bel
    have H1 := Lib.hid h1
    clear hv hm h1
    go_wp2
    exact bodyPost_ret (v := .pointer (some ⟨g, 0, none⟩)) (by simp [results, Tryf.results39, hg, go_sem]) hd ⟨g, rfl, H1.out, hb.out⟩
def NewCode (w0 w : World) (co : Nat) : Prop := ∃ FC, w0.heap.size ≤ co ∧ w.rowIs co 73 3 FC ∧ FC 2 = .int .i64 0
theorem NewCode.below {w0 w w' : World} {pr : Nat} (h : NewCode w0 w pr) (hb : Below w.heap.size w w') : NewCode w0 w' pr := by
  obtain ⟨FP, h1, h2, h3⟩ := h
  exact ⟨FP, h1, Below.row hb h2 h2.lt, h3⟩
def FirstBlock (w0 w : World) (b p : Nat) : Prop := ∃ own FB, NewPool w0 w p 0 own ∧ w0.heap.size ≤ b ∧ w.rowIs b 85 8 FB ∧ FB 0 = .pointer (some ⟨p, 0, none⟩) ∧ FB 2 = .pointer none
theorem FirstBlock.below {w0 w w' : World} {b p : Nat} (h : FirstBlock w0 w b p) (hb : Below w.heap.size w w') : FirstBlock w0 w' b p := by
  obtain ⟨own, FB, h1, h2, h3, h4⟩ := h
  exact ⟨own, FB, h1.below hb, h2, Below.row hb h3 h3.lt, h4⟩
def Parts (w0 w : World) (F : Nat → Value) : Prop := ∃ pr co b p, F 0 = .pointer (some ⟨pr, 0, none⟩) ∧ F 1 = .pointer (some ⟨co, 0, none⟩) ∧ F 4 = .pointer (some ⟨b, 0, none⟩) ∧ F 6 = .int .i64 0 ∧ F 9 = .int .i64 0 ∧ NewProto w0 w pr ∧ NewCode w0 w co ∧ FirstBlock w0 w b p
theorem Parts.below {w0 w w' : World} {F : Nat → Value} (h : Parts w0 w F) (hb : Below w.heap.size w w') : Parts w0 w' F := by
  obtain ⟨pr, co, b, p, h1, h2, h3, h4, h5, h6, h7, h8⟩ := h
  exact ⟨pr, co, b, p, h1, h2, h3, h4, h5, h6.below hb, h7.below hb, h8.below hb⟩
def Ctx0 (w0 : World) (f : Nat) (w : World) : Prop := ∃ F, w0.heap.size ≤ f ∧ w.rowIs f 59 11 F ∧ Parts w0 w F
theorem Ctx0.below {w0 w w' : World} {f : Nat} (h : Ctx0 w0 f w) (hb : Below w.heap.size w w') : Ctx0 w0 f w' := by
  obtain ⟨F, h1, h2, h3⟩ := h
  exact ⟨F, h1, Below.row hb h2 h2.lt, h3.below hb⟩
def V31 (w0 : World) (i : Nat) (v : Value) (w : World) : Prop := match i with
  | 0 => ∃ s, v = .string s
  | 1 => ∃ g, v = .pointer (some ⟨g, 0, none⟩) ∧ NewProto w0 w g
  | 2 => ∃ A n c, v = .slice A n c
  | 3 => ∃ A n c, v = .slice A n c
  | 4 => ∃ x y, v = .agg #[x, y, .int .i64 0]
  | 5 => ∃ g, v = .pointer (some ⟨g, 0, none⟩) ∧ NewCode w0 w g
  | 6 => v = .pointer none
  | 7 => ∃ g, v = .pointer (some ⟨g, 0, none⟩)
  | 8 => ∃ p own, v = .pointer (some ⟨p, 0, none⟩) ∧ NewPool w0 w p 0 own
  | 9 => ∃ b p, v = .pointer (some ⟨b, 0, none⟩) ∧ FirstBlock w0 w b p
  | 10 => ∃ b, v = .map (some b)
  | 11 => ∃ b, v = .map (some b)
  | 12 => ∃ C, v = .agg C ∧ C.size = 11 ∧ Parts w0 w (fun i => C.getD i undef)
  | 13 => ∃ f, v = .pointer (some ⟨f, 0, none⟩) ∧ Ctx0 w0 f w
  | 14 => ∃ f, v = .pointer (some ⟨f, 0, none⟩) ∧ Ctx0 w0 f w
  | _ => True
theorem V31.stable (w0 : World) : ∀ i v w w', V31 w0 i v w → Below w.heap.size w w' → V31 w0 i v w' := by
  intro i v w w' h hb
  match i, h with
  | 0, h => exact h
  | 1, h => exact by obtain ⟨g, h1, h2⟩ := h; exact ⟨g, h1, h2.below hb⟩
  | 2, h => exact h
  | 3, h => exact h
  | 4, h => exact h
  | 5, h => exact by obtain ⟨g, h1, h2⟩ := h; exact ⟨g, h1, h2.below hb⟩
  | 6, h => exact h
  | 7, h => exact h
  | 8, h => exact by obtain ⟨g, o, h1, h2⟩ := h; exact ⟨g, o, h1, h2.below hb⟩
  | 9, h => exact by obtain ⟨g, o, h1, h2⟩ := h; exact ⟨g, o, h1, h2.below hb⟩
  | 10, h => exact h
  | 11, h => exact h
  | 12, h => exact by obtain ⟨g, h1, h2, h3⟩ := h; exact ⟨g, h1, h2, h3.below hb⟩
  | 13, h => exact by obtain ⟨g, h1, h2⟩ := h; exact ⟨g, h1, h2.below hb⟩
  | 14, h => exact by obtain ⟨g, h1, h2⟩ := h; exact ⟨g, h1, h2.below hb⟩
  | n + 15, h => exact h
def CtxPost (w : World) (e : Ending) (w' : World) : Prop := ∃ f w1 q, e = .returned (.pointer (some ⟨f, 0, none⟩)) ∧ Ctx0 w f w1 ∧ Below w.heap.size w w1 ∧ (∃ F, w1.rowIs f 59 11 F ∧ F 4 = .pointer q) ∧ w' = (w1.setCell ⟨f, 5, none⟩ (.slice (some ⟨w1.heap.size, 0, none⟩) 1 1)).alloc (.cells #[.pointer q] 54)
set_option maxHeartbeats 4000000 in
set_option maxRecDepth 100000 in
theorem ctx_new (s : ByteArray) (w : World) : Calls Tryf.prog 31 #[.string s, .pointer none] w (CtxPost w) := by
  have hmm := @run_makeMap Tryf.prog
  go_enter Tryf.func31, Tryf.ntmps31
  go_wp2
  refine wp_region_steps (by kernel_rfl) (by kernel_rfl) (V31 w) (V31.stable w) ?_ ?_
  · refine ⟨?_, ?_, ?_, ?_, ?_, ?_, ?_, ?_, ?_, ?_, ?_, ?_, ?_, ?_, ?_, trivial⟩
    · intro a w1 hm hd
      have f0 : a.tmps[0]?.getD undef = .string s := hm.free' 0 (by decide)
      clear hm hd hmm
      go_simp
      exact ⟨_, rfl, ⟨_, rfl⟩, Below.refl _ _⟩
    · intro a w1 hm hd
      obtain ⟨s0, h0⟩ : V31 w 0 (a.tmps[6]?.getD undef) w1 := hd 0 (by decide)
      have hs := hm.bel.size
      clear hm hd hmm
      refine step_call (f := 39) (args := #[.string s0]) (by go_simp) ((proto_new s0 w1).mono ?_)
      rintro e w2 ⟨g, rfl, ⟨gd, gc, FP, h1, h2, h3, h4⟩, hb⟩
      exact ⟨_, rfl, _, rfl, ⟨g, rfl, gd, gc, FP, by omega, by omega, by omega, h4⟩, hb⟩
    · exact fun a w1 _ _ => step_make 43 _ 1024 rfl Tryf.underlying43 (by kernel_rfl)
    · exact fun a w1 _ _ => step_make 46 _ 1024 rfl Tryf.underlying46 (by kernel_rfl)
    · intro a w1 hm hd
      obtain ⟨A1, n1, c1, h1⟩ : V31 w 2 (a.tmps[8]?.getD undef) w1 := hd 2 (by decide)
      obtain ⟨A2, n2, c2, h2⟩ : V31 w 3 (a.tmps[9]?.getD undef) w1 := hd 3 (by decide)
      clear hm hd hmm
      go_simp
      exact ⟨_, rfl, ⟨_, _, rfl⟩, Below.refl _ _⟩
    · intro a w1 hm hd
      obtain ⟨x, y, h0⟩ : V31 w 4 (a.tmps[10]?.getD undef) w1 := hd 4 (by decide)
      have hs := hm.bel.size
      clear hm hd hmm
      go_simp
      exact ⟨_, rfl, ⟨_, rfl, _, hs, World.rowIs_alloc w1 _ 73 _ (array_at _), rfl⟩, by go_grown⟩
    · intro a w1 hm hd
      have f0 : a.tmps[1]?.getD undef = .pointer none := hm.free' 1 (by decide)
      clear hm hd hmm
      go_simp
      exact ⟨_, rfl, rfl, Below.refl _ _⟩
    · intro a w1 hm hd
      clear hm hd hmm
      refine step_call (f := 40) (args := #[.int .i64 0]) (by go_simp) ((pool_new 0 w1).mono ?_)
      rintro e w2 ⟨rfl, hv, hb, _⟩
      exact ⟨_, rfl, _, rfl, ⟨_, rfl⟩, hb⟩
    · intro a w1 hm hd
      have hs := hm.bel.size
      clear hm hd hmm
      refine step_call (f := 40) (args := #[.int .i64 0]) (by go_simp) ((pool_new 0 w1).mono ?_)
      rintro e w2 ⟨rfl, hv, hb, _⟩
      exact ⟨_, rfl, _, rfl, ⟨_, _, rfl, hv, fun x hx => ⟨by omega, hx.2⟩⟩, hb⟩
    · intro a w1 hm hd
      obtain ⟨p, own, h0, h1⟩ : V31 w 8 (a.tmps[14]?.getD undef) w1 := hd 8 (by decide)
      have hs := hm.bel.size
      clear hm hd hmm
      refine step_call (f := 41) (args := #[.pointer (some ⟨p, 0, none⟩), .int .i64 0, .pointer none, .nilIface, .int .i64 0]) (by go_simp) ((block_new p none w1).mono ?_)
      rintro e w2 ⟨b, FB, rfl, k1, k2, k3, k4, hb⟩
      exact ⟨_, rfl, _, rfl, ⟨b, p, rfl, own, FB, h1.below hb, by omega, k2, k3, k4⟩, hb⟩
    · intro a w1 hm hd
      clear hm hd
      go_simp
      exact ⟨_, rfl, ⟨_, rfl⟩, (Below.refl _ _).alloc (Nat.le_refl _) _⟩
    · intro a w1 hm hd
      clear hm hd
      go_simp
      exact ⟨_, rfl, ⟨_, rfl⟩, (Below.refl _ _).alloc (Nat.le_refl _) _⟩
    · intro a w1 hm hd
      obtain ⟨g0, h0, k0⟩ : V31 w 1 (a.tmps[7]?.getD undef) w1 := hd 1 (by decide)
      obtain ⟨g1, h1, k1⟩ : V31 w 5 (a.tmps[11]?.getD undef) w1 := hd 5 (by decide)
      have h2 : V31 w 6 (a.tmps[12]?.getD undef) w1 := hd 6 (by decide)
      replace h2 : a.tmps[12]?.getD undef = .pointer none := h2
      obtain ⟨g3, h3⟩ : V31 w 7 (a.tmps[13]?.getD undef) w1 := hd 7 (by decide)
      obtain ⟨g4, p, h4, k4⟩ : V31 w 9 (a.tmps[15]?.getD undef) w1 := hd 9 (by decide)
      obtain ⟨b, h5⟩ : V31 w 10 (a.tmps[16]?.getD undef) w1 := hd 10 (by decide)
      obtain ⟨b', h8⟩ : V31 w 11 (a.tmps[17]?.getD undef) w1 := hd 11 (by decide)
      have H7 := Lib.hid (And.intro k0 (And.intro k1 k4))
      clear hm hd hmm k0 k1 k4
      go_simp
      exact ⟨_, rfl, ⟨_, rfl, rfl, g0, g1, g4, p, rfl, rfl, rfl, rfl, rfl, H7.out⟩, Below.refl _ _⟩
    · intro a w1 hm hd
      obtain ⟨C, h0, h1, h2⟩ : V31 w 12 (a.tmps[18]?.getD undef) w1 := hd 12 (by decide)
      have hb := hm.bel.size
      have HH := Lib.hid (And.intro h1 h2)
      clear hm hd hmm h1 h2
      go_simp
      have hbel : Below w1.heap.size w1 (w1.alloc (.cells C 59)) := by go_grown
      refine ⟨_, rfl, ⟨_, rfl, ?_⟩, hbel⟩
      obtain ⟨h1, h2⟩ := HH.out
      have hr := World.rowIs_alloc w1 C 59 _ (array_at C)
      rw [h1] at hr
      exact ⟨_, hb, hr, h2.below hbel⟩
    · intro a w1 hm hd
      obtain ⟨f, h0, h1⟩ : V31 w 13 (a.tmps[19]?.getD undef) w1 := hd 13 (by decide)
      have H1 := Lib.hid h1
      clear hm hd hmm h1
      go_simp
      exact ⟨_, rfl, ⟨f, rfl, H1.out⟩, Below.refl _ _⟩
  · intro a w1 hm hv
    obtain ⟨f, hf, hc⟩ : V31 w 14 (a.tmps[5]?.getD undef) w1 := hv 14 (by decide)
    have hsz : a.tmps.size = 29 := hm.size
    have hd : a.defers = [] := hm.defers
    have hb := Lib.hid hm.bel
    have HC := Lib.hid hc
    clear hv hm hmm
    obtain ⟨F, h1, h2, h3⟩ := hc
    obtain ⟨pr, co, b, p, _, _, h4, _⟩ := h3
    have c4 := h2.cell (i := 4) (by omega)
    have c5 := h2.cell (i := 5) (by omega)
    have f5 := h2.frozen 5
    have lf := h2.lt
    rw [h4] at c4
    have H2 := Lib.hid (And.intro h2 h4)
    clear h2 h4
    obtain ⟨⟨tl⟩, df⟩ := a
    simp only at hd
    subst hd
    match tl, hsz, hf with
    | [x0, x1, x2, x3, x4, x5, x6, x7, x8, x9, x10, x11, x12, x13, x14, x15, x16, x17, x18, x19, x20, x21, x22, x23, x24, x25, x26, x27, x28], _, hf =>
      simp at hf
      subst hf
      go_wp2
      exact bodyPost_ret (v := .pointer (some ⟨f, 0, none⟩)) (by simp [results, Tryf.results31, go_sem]) rfl ⟨f, w1, some ⟨b, 0, none⟩, rfl, HC.out, hb.out, ⟨F, H2.out.1, H2.out.2⟩, rfl⟩
end Go.Proofs.YtpffohonpblfkaaFmt
