/- Registering a local: what it answers and leaves. -/
import Derived.Test.YtpffohonpblfkaaFmtCx
import Derived.Test.YtpffohonpblfkaaFmtTail
import Derived.Deep.AppendLies
namespace Go.Proofs.YtpffohonpblfkaaFmt
open Go.RowKit Go.ChangeShapes Go.Deep
theorem info70 : (Tryf.prog.info? 70).map (fun i => (i.zero, i.size, i.bytes)) = some (some (.pointer none), 1, 8) := by kernel_rfl
section
variable {w0 w w' : World} {f pr co gB cB gd cd : Nat} {bk : List BK} {es : List Nat} {own : Nat → Nat → Prop} {oth : Nat → Prop}
theorem settop45 {F : Nat → Value} (h : w.rowIs f 59 11 F) (k : Int) (hk : k ≤ 200) : Calls Tryf.prog 45 #[.pointer (some ⟨f, 0, none⟩), .int .i64 k] w fun e w' => e = .returned (.tuple #[]) ∧ w' = w.setCell ⟨f, 6, none⟩ (.int .i64 k) := by
  have c6 := h.cell (i := 6) (by omega)
  have f6 := h.frozen 6
  clear h
  go_enter Tryf.func45, Tryf.ntmps45
  go_wp2
  go_end0
  exact ⟨rfl, rfl⟩
theorem pc_cell (hc : w.cell? ⟨co, 2, none⟩ = some (.int .i64 0)) : Calls Tryf.prog 44 #[.pointer (some ⟨co, 0, none⟩)] w fun e w' => e = .returned (.int .i64 (-1)) ∧ w = w' := by
  go_enter Tryf.func44, Tryf.ntmps44
  go_wp2
  go_ret
  exact ⟨rfl, rfl⟩
end
/-- A new entry of the debug list. -/
def Ent (w0 w : World) (e : Nat) (name : ByteArray) : Prop := w0.heap.size ≤ e ∧ ∃ F, w.rowIs e 69 3 F ∧ F 0 = .string name
theorem Ent.fr {w0 w w' : World} {e : Nat} {name : ByteArray} {O : Nat → Prop} (h : Ent w0 w e name) (hf : Fr O w w') (hn : ¬ O e) : Ent w0 w' e name := by
  obtain ⟨h1, F, h2, h3⟩ := h
  exact ⟨h1, F, hf.row h2 hn, h3⟩
theorem Ent.below {w0 w w' : World} {e : Nat} {name : ByteArray} (h : Ent w0 w e name) (hf : Below w.heap.size w w') : Ent w0 w' e name := by
  obtain ⟨h1, F, h2, h3⟩ := h
  exact ⟨h1, F, Below.row hf h2 h2.lt, h3⟩
def V34 (f pr co gd cd : Nat) (name : ByteArray) (es : List Nat) (w0 : World) (i : Nat) (v : Value) (w : World) : Prop := match i with
  | 0 => v = .pointer (some ⟨f, 0, none⟩)
  | 1 => v = .pointer (some ⟨f, 0, none⟩)
  | 2 => v = .pointer (some ⟨f, 0, none⟩)
  | 3 => v = .pointer (some ⟨pr, 0, none⟩)
  | 4 => v = .pointer (some ⟨f, 0, none⟩)
  | 5 => v = .pointer (some ⟨f, 0, none⟩)
  | 6 => v = .pointer (some ⟨f, 0, none⟩)
  | 7 => v = .pointer (some ⟨pr, 0, none⟩)
  | 8 => v = .pointer (some ⟨pr, 0, none⟩)
  | 9 => v = .pointer (some ⟨pr, 11, none⟩)
  | 10 => v = .slice (some ⟨gd, 0, none⟩) es.length cd
  | 11 => v = .string name
  | 12 => v = .pointer (some ⟨f, 0, none⟩)
  | 13 => v = .pointer (some ⟨f, 0, none⟩)
  | 14 => v = .pointer (some ⟨f, 1, none⟩)
  | 15 => v = .pointer (some ⟨co, 0, none⟩)
  | 16 => v = .int .i64 (-1)
  | 17 => v = .int .i64 0
  | 18 => v = .agg #[.string name, .int .i64 0, .int .i64 0]
  | 19 => ∃ e, v = .pointer (some ⟨e, 0, none⟩) ∧ Ent w0 w e name
  | 20 => ∃ g e, v = .slice (some ⟨g, 0, none⟩) 1 1 ∧ Ent w0 w e name ∧ w0.heap.size ≤ g ∧ w.cell? ⟨g, 0, none⟩ = some (.pointer (some ⟨e, 0, none⟩))
  | 21 => ∃ g cap e, v = .slice (some ⟨g, 0, none⟩) (es.length + 1) cap ∧ OR w 70 g (es.length + 1) cap (ptrs (es ++ [e])) ∧ (g = gd ∨ w0.heap.size ≤ g) ∧ Ent w0 w e name
  | 22 => v = .pointer (some ⟨pr, 0, none⟩)
  | 23 => v = .pointer (some ⟨pr, 11, none⟩)
  | _ => True
theorem V34.stable {f pr co gd cd : Nat} {name : ByteArray} {es : List Nat} {w0 : World} (hgd : gd < w0.heap.size) : ∀ i j v w w', i ≠ j → V34 f pr co gd cd name es w0 i v w → FrA 21 (fun x => x = gd) j w w' → V34 f pr co gd cd name es w0 i v w' := by
  intro i j v w w' hij h hfr
  match i, h with
  | 0, h => exact h
  | 1, h => exact h
  | 2, h => exact h
  | 3, h => exact h
  | 4, h => exact h
  | 5, h => exact h
  | 6, h => exact h
  | 7, h => exact h
  | 8, h => exact h
  | 9, h => exact h
  | 10, h => exact h
  | 11, h => exact h
  | 12, h => exact h
  | 13, h => exact h
  | 14, h => exact h
  | 15, h => exact h
  | 16, h => exact h
  | 17, h => exact h
  | 18, h => exact h
  | 19, h => exact by obtain ⟨e, h1, h2⟩ := h; exact ⟨e, h1, h2.fr hfr.fr (by have := h2.1; omega)⟩
  | 20, h => exact by obtain ⟨g, e, h1, h2, h3, h4⟩ := h; exact ⟨g, e, h1, h2.fr hfr.fr (by have := h2.1; omega), h3, (hfr.fr.cell (p := ⟨g, 0, none⟩) (World.block_lt_of_cell? w _ h4) (show ¬ g = gd by omega)).trans h4⟩
  | 21, h => exact by obtain ⟨g, cap, e, h1, h2, h3, h4⟩ := h; have hb : Below w.heap.size w w' := (by unfold FrA at hfr; rwa [if_neg (fun e => hij e.symm)] at hfr); exact ⟨g, cap, e, h1, OR.below h2 hb h2.lt', h3, h4.below hb⟩
  | 22, h => exact h
  | 23, h => exact h
  | n + 24, h => exact h
theorem cons_of {α : Type} {l : List α} {n : Nat} (h : l.length = n + 1) : ∃ x t, l = x :: t ∧ t.length = n := by
  cases l with
  | nil => simp at h
  | cons x t => exact ⟨x, t, rfl, by simpa using h⟩
theorem top_cell {w : World} {f : Nat} {k : Int} (hc : w.cell? ⟨f, 6, none⟩ = some (.int .i64 k)) : Calls Tryf.prog 37 #[.pointer (some ⟨f, 0, none⟩)] w fun e w' => e = .returned (.int .i64 k) ∧ w = w' := by
  go_enter Tryf.func37, Tryf.ntmps37
  go_wp2
  go_ret
  exact ⟨rfl, rfl⟩
/-- What RegisterLocalVar leaves. -/
def RegPost (wa : World) (f pr gd n p : Nat) (o : Nat → Prop) (off : Int) (names : List ByteArray) (es : List Nat) (F FP : Nat → Value) (T : Nat) (name : ByteArray) (W : World) : Prop :=
  ∃ (g cap e m : Nat) (own1 : Nat → Prop), wa.heap.size ≤ m ∧ m ≤ W.heap.size ∧ VPool W own1 p off (names ++ [name]) ∧ (∀ x, own1 x → o x ∨ (wa.heap.size ≤ x ∧ x < m)) ∧ Fr (fun x => o x ∨ x = pr ∨ x = gd ∨ x = f) wa W ∧
    W.rowIs f 59 11 (fun i => if i = 6 then .int .i64 (T + 1 : Nat) else F i) ∧ W.rowIs pr 50 15 (fun i => if i = 11 then .slice (some ⟨g, 0, none⟩) (n + 1) cap else FP i) ∧ OR W 70 g (n + 1) cap (ptrs (es ++ [e])) ∧ (g = gd ∨ (m ≤ g ∧ g < W.heap.size)) ∧ m ≤ e ∧ e < W.heap.size ∧ ∃ G, W.rowIs e 69 3 G ∧ G 0 = .string name
theorem reg_post {wa w w1 : World} {f pr gd n p g cap e T : Nat} {o : Nat → Prop} {off : Int} {names : List ByteArray} {es : List Nat} {F FP : Nat → Value} {name : ByteArray} (_hn : n = es.length)
    (hv1 : VPool w (fun k => o k ∨ wa.heap.size ≤ k ∧ k < w.heap.size) p off (names ++ [name])) (fr1 : Fr o wa w) (hof : ¬ o f) (hop : ¬ o pr) (hod : ¬ o gd) (lf : f < wa.heap.size) (lp : pr < wa.heap.size) (ld : gd < wa.heap.size)
    (n1 : ¬ f = gd) (n2 : ¬ pr = gd) (n4 : f ≠ pr) (ho : OR w1 70 g (n + 1) cap (ptrs (es ++ [e]))) (hg : g = gd ∨ w.heap.size ≤ g) (he : Ent w w1 e name) (p2 : w1.rowIs pr 50 15 FP) (f2 : w1.rowIs f 59 11 F) (hfr2 : Fr (fun x => x = gd) w w1) :
    RegPost wa f pr gd n p o off names es F FP T name ((w1.setCell ⟨pr, 11, none⟩ (.slice (some ⟨g, 0, none⟩) (n + 1) cap)).setCell ⟨f, 6, none⟩ (.int .i64 ((T : Int) + 1))) := by
  have s1 := fr1.size
  have s2 := hfr2.size
  have A : Fr (fun x => x = gd ∨ x = pr ∨ x = f) w ((w1.setCell ⟨pr, 11, none⟩ (.slice (some ⟨g, 0, none⟩) (n + 1) cap)).setCell ⟨f, 6, none⟩ (.int .i64 ((T : Int) + 1))) :=
    Fr.setCell (p := ⟨f, 6, none⟩) (Fr.setCell (p := ⟨pr, 11, none⟩) (hfr2.mono (o' := fun x => x = gd ∨ x = pr ∨ x = f) (fun x hx => .inl (.inl hx))) (.inl (.inr (.inl rfl))) _) (.inl (.inr (.inr rfl))) _
  have hgp : g ≠ pr := OR.ne ho p2 (by decide)
  have hgf : g ≠ f := OR.ne ho f2 (by decide)
  obtain ⟨he1, G, he2, he3⟩ := he
  refine ⟨g, cap, e, w.heap.size, _, s1, by simpa using s2, hv1.fr A (fun x hx hy => ?_), fun x hx => hx, fr1.mono (o' := fun x => o x ∨ x = pr ∨ x = gd ∨ x = f) (fun x hx => .inl (.inl hx)) |>.trans A (fun x hx => .inl (by rcases hx with h | h | h <;> simp [h])), ?_, ?_, ?_, ?_, he1, ?_, G, ?_, he3⟩
  · rcases hx with hx | hx
    · rcases hy with rfl | rfl | rfl
      · exact hod hx
      · exact hop hx
      · exact hof hx
    · rcases hy with rfl | rfl | rfl <;> omega
  · exact (World.rowIs.set (f2.setOther (a := ⟨pr, 11, none⟩) n4 _) 6 _).congr (fun i hi => by by_cases h : i = 6 <;> simp [h])
  · exact World.rowIs.setOther (p2.set 11 _) (a := ⟨f, 6, none⟩) (fun e => n4 e.symm) _
  · exact OR.setCell (OR.setCell ho (p := ⟨pr, 11, none⟩) (fun e => hgp e.symm) _) (p := ⟨f, 6, none⟩) (fun e => hgf e.symm) _
  · rcases hg with h | h
    · exact .inl h
    · exact .inr ⟨h, by simpa using ho.lt'⟩
  · simpa using he2.lt
  · refine World.rowIs.setOther (World.rowIs.setOther he2 (a := ⟨pr, 11, none⟩) ?_ _) (a := ⟨f, 6, none⟩) ?_ _
    · exact row_ne he2 p2 (by decide)
    · exact row_ne he2 f2 (by decide)
set_option maxHeartbeats 8000000 in
set_option maxRecDepth 100000 in
theorem reg_walk {wa : World} {f pr co gd cd p b T : Nat} {es : List Nat} (name : ByteArray) {F FP FC FB : Nat → Value} {o : Nat → Prop} {off : Nat} {names : List ByteArray}
    (hf : wa.rowIs f 59 11 F) (h0 : F 0 = .pointer (some ⟨pr, 0, none⟩)) (h1 : F 1 = .pointer (some ⟨co, 0, none⟩)) (h4 : F 4 = .pointer (some ⟨b, 0, none⟩)) (h6 : F 6 = .int .i64 (T : Nat))
    (hp : wa.rowIs pr 50 15 FP) (h11 : FP 11 = .slice (some ⟨gd, 0, none⟩) es.length cd) (hc : wa.rowIs co 73 3 FC) (hc2 : FC 2 = .int .i64 0) (hb : wa.rowIs b 85 8 FB) (hb0 : FB 0 = .pointer (some ⟨p, 0, none⟩))
    (hd : OR wa 70 gd es.length cd (ptrs es)) (hv : VPool wa o p off names) (hof : ¬ o f) (hop : ¬ o pr) (hoc : ¬ o co) (hod : ¬ o gd) (_hol : ∀ x, o x → x < wa.heap.size) (hT : T = off + names.length) (ht : T + 1 ≤ 200) (hes : es.length ≤ 1000) :
    Calls Tryf.prog 34 #[.pointer (some ⟨f, 0, none⟩), .string name] wa fun e W => e = .returned (.int .i64 (T : Nat)) ∧ RegPost wa f pr gd es.length p o off names es F FP T name W := by
  have creg := pool_register hv (by omega) name
  rw [show wrap64 ((names.length : Int) + (off : Int)) = ((T : Nat) : Int) by rw [IntWalk.wrap64_in _ (by omega)]; omega] at creg
  have a4 := hf.cell (i := 4) (by omega)
  have b0 := hb.cell (i := 0) (by omega)
  rw [h4] at a4
  rw [hb0] at b0
  have HF := Lib.hid (And.intro hf (And.intro h0 (And.intro h1 h6)))
  have HP := Lib.hid (And.intro hp h11)
  have HC := Lib.hid (And.intro hc hc2)
  have HD := Lib.hid hd
  have HT := Lib.hid hT
  clear hf h0 h1 h4 h6 hp h11 hc hc2 hb hb0 hd hv hT
  go_enter Tryf.func34, Tryf.ntmps34
  go_wp2_with fail
  refine creg.mono ?_
  rintro e w ⟨rfl, hv1, fr1⟩
  clear creg
  obtain ⟨hf, h0, h1, h6⟩ := HF.out
  obtain ⟨hp, h11⟩ := HP.out
  obtain ⟨hc, hc2⟩ := HC.out
  have f1 := fr1.row hf hof
  have p1 := fr1.row hp hop
  have c1 := fr1.row hc hoc
  have d1 := HD.out.fr fr1 hod
  have k0 := f1.cell (i := 0) (by omega)
  have k1 := f1.cell (i := 1) (by omega)
  have k11 := p1.cell (i := 11) (by omega)
  have kc := c1.cell (i := 2) (by omega)
  have ld := d1.lt'
  rw [h0] at k0
  rw [h1] at k1
  rw [h11] at k11
  rw [hc2] at kc
  have n1 : ¬ f = gd := fun e => OR.ne d1 f1 (by decide) e.symm
  have n2 : ¬ pr = gd := fun e => OR.ne d1 p1 (by decide) e.symm
  have n3 : ¬ co = gd := fun e => OR.ne d1 c1 (by decide) e.symm
  have n4 : f ≠ pr := row_ne f1 p1 (by decide)
  have HV1 := Lib.hid (And.intro hv1 (And.intro fr1 (And.intro f1 (And.intro p1 h6))))
  obtain ⟨i0, hi0, hz0, hz1, hz2⟩ := or_parts info70
  clear hf h0 h1 hp h11 hc hc2 hv1 fr1 f1 p1 c1 a4 b0 h6
  go_wp2
  refine wp_region_tail (o := _) 24 (fun x => x = gd) 21 (V34 f pr co gd cd name es w) (by kernel_rfl) rfl rfl (by kernel_rfl) (by kernel_rfl) rfl (by kernel_rfl) (V34.stable ld) ?_ ?_
  · refine ⟨?_, ?_, ?_, ?_, ?_, ?_, ?_, ?_, ?_, ?_, ?_, ?_, ?_, ?_, ?_, ?_, ?_, ?_, ?_, ?_, ?_, ?_, ?_, ?_, trivial⟩
    · intro a w1 hm _ hd
      have h0 : a.tmps[0]?.getD undef = .pointer (some ⟨f, 0, none⟩) := hm.free' 0 (by decide)
      clear hm hd
      go_simp
      exact ⟨_, rfl, rfl, FrA.same _⟩
    · intro a w1 hm _ hd
      have h0 : a.tmps[15]?.getD undef = .pointer (some ⟨f, 0, none⟩) := hd 0 (by decide)
      clear hm hd
      go_simp
      exact ⟨_, rfl, rfl, FrA.same _⟩
    · intro a w1 hm _ hd
      have h0 : a.tmps[16]?.getD undef = .pointer (some ⟨f, 0, none⟩) := hd 1 (by decide)
      clear hm hd
      go_simp
      exact ⟨_, rfl, rfl, FrA.same _⟩
    · intro a w1 hm _ hd
      have h0 : a.tmps[17]?.getD undef = .pointer (some ⟨f, 0, none⟩) := hd 2 (by decide)
      have c0 : w1.cell? ⟨f, 0, none⟩ = some (.pointer (some ⟨pr, 0, none⟩)) := hm.cell k0 n1
      clear hm hd
      go_simp
      exact ⟨_, rfl, rfl, FrA.same _⟩
    · intro a w1 hm _ hd
      have h0 : a.tmps[0]?.getD undef = .pointer (some ⟨f, 0, none⟩) := hm.free' 0 (by decide)
      clear hm hd
      go_simp
      exact ⟨_, rfl, rfl, FrA.same _⟩
    · intro a w1 hm _ hd
      have h0 : a.tmps[19]?.getD undef = .pointer (some ⟨f, 0, none⟩) := hd 4 (by decide)
      clear hm hd
      go_simp
      exact ⟨_, rfl, rfl, FrA.same _⟩
    · intro a w1 hm _ hd
      have h0 : a.tmps[20]?.getD undef = .pointer (some ⟨f, 0, none⟩) := hd 5 (by decide)
      clear hm hd
      go_simp
      exact ⟨_, rfl, rfl, FrA.same _⟩
    · intro a w1 hm _ hd
      have h0 : a.tmps[21]?.getD undef = .pointer (some ⟨f, 0, none⟩) := hd 6 (by decide)
      have c0 : w1.cell? ⟨f, 0, none⟩ = some (.pointer (some ⟨pr, 0, none⟩)) := hm.cell k0 n1
      clear hm hd
      go_simp
      exact ⟨_, rfl, rfl, FrA.same _⟩
    · intro a w1 hm _ hd
      have h0 : a.tmps[22]?.getD undef = .pointer (some ⟨pr, 0, none⟩) := hd 7 (by decide)
      clear hm hd
      go_simp
      exact ⟨_, rfl, rfl, FrA.same _⟩
    · intro a w1 hm _ hd
      have h0 : a.tmps[23]?.getD undef = .pointer (some ⟨pr, 0, none⟩) := hd 8 (by decide)
      clear hm hd
      go_simp
      exact ⟨_, rfl, rfl, FrA.same _⟩
    · intro a w1 hm _ hd
      have h0 : a.tmps[24]?.getD undef = .pointer (some ⟨pr, 11, none⟩) := hd 9 (by decide)
      have c0 : w1.cell? ⟨pr, 11, none⟩ = some (.slice (some ⟨gd, 0, none⟩) es.length cd) := hm.cell k11 n2
      clear hm hd
      go_simp
      exact ⟨_, rfl, rfl, FrA.same _⟩
    · intro a w1 hm _ hd
      have h0 : a.tmps[1]?.getD undef = .string name := hm.free' 1 (by decide)
      clear hm hd
      go_simp
      exact ⟨_, rfl, rfl, FrA.same _⟩
    · intro a w1 hm _ hd
      have h0 : a.tmps[0]?.getD undef = .pointer (some ⟨f, 0, none⟩) := hm.free' 0 (by decide)
      clear hm hd
      go_simp
      exact ⟨_, rfl, rfl, FrA.same _⟩
    · intro a w1 hm _ hd
      have h0 : a.tmps[27]?.getD undef = .pointer (some ⟨f, 0, none⟩) := hd 12 (by decide)
      clear hm hd
      go_simp
      exact ⟨_, rfl, rfl, FrA.same _⟩
    · intro a w1 hm _ hd
      have h0 : a.tmps[28]?.getD undef = .pointer (some ⟨f, 0, none⟩) := hd 13 (by decide)
      clear hm hd
      go_simp
      exact ⟨_, rfl, rfl, FrA.same _⟩
    · intro a w1 hm _ hd
      have h0 : a.tmps[29]?.getD undef = .pointer (some ⟨f, 1, none⟩) := hd 14 (by decide)
      have c0 : w1.cell? ⟨f, 1, none⟩ = some (.pointer (some ⟨co, 0, none⟩)) := hm.cell k1 n1
      clear hm hd
      go_simp
      exact ⟨_, rfl, rfl, FrA.same _⟩
    · intro a w1 hm _ hd
      have h0 : a.tmps[30]?.getD undef = .pointer (some ⟨co, 0, none⟩) := hd 15 (by decide)
      have c0 : w1.cell? ⟨co, 2, none⟩ = some (.int .i64 0) := hm.cell kc n3
      clear hm hd
      refine step_call (f := 44) (args := #[.pointer (some ⟨co, 0, none⟩)]) (by go_simp) ((pc_cell c0).mono ?_)
      rintro e w2 ⟨rfl, rfl⟩
      exact ⟨_, rfl, _, rfl, rfl, FrA.same _⟩
    · intro a w1 hm _ hd
      have h0 : a.tmps[31]?.getD undef = .int .i64 (-1) := hd 16 (by decide)
      clear hm hd
      go_simp
      exact ⟨_, rfl, by first | rfl | decide, FrA.same _⟩
    · intro a w1 hm _ hd
      have h0 : a.tmps[26]?.getD undef = .string name := hd 11 (by decide)
      have h1 : a.tmps[32]?.getD undef = .int .i64 0 := hd 17 (by decide)
      clear hm hd
      go_simp
      exact ⟨_, rfl, rfl, FrA.same _⟩
    · intro a w1 hm _ hd
      have h0 : a.tmps[33]?.getD undef = .agg #[.string name, .int .i64 0, .int .i64 0] := hd 18 (by decide)
      have hs := hm.fr.size
      clear hm hd
      go_simp
      exact ⟨_, rfl, ⟨_, rfl, hs, _, World.rowIs_alloc w1 _ 69 _ (array_at _), rfl⟩, FrA.new (by go_grown)⟩
    · intro a w1 hm _ hd
      obtain ⟨e, h0, he⟩ : V34 f pr co gd cd name es w 19 (a.tmps[34]?.getD undef) w1 := hd 19 (by decide)
      have hs := hm.fr.size
      have HE := Lib.hid he
      clear hm hd he
      go_simp
      have hbel : Below w1.heap.size w1 (w1.alloc (.cells #[.pointer (some ⟨e, 0, none⟩)] 70)) := by go_grown
      refine ⟨_, rfl, ⟨_, e, rfl, HE.out.below hbel, hs, ?_⟩, FrA.new hbel⟩
      simp
    · intro a w1 hm hb hd
      have hb := hb rfl
      have h1 : a.tmps[25]?.getD undef = .slice (some ⟨gd, 0, none⟩) es.length cd := hd 10 (by decide)
      obtain ⟨g, e, h2, he, hg, hc⟩ : V34 f pr co gd cd name es w 20 (a.tmps[35]?.getD undef) w1 := hd 20 (by decide)
      have hs := hb.size
      refine wp_append_lies w1 (.tmp 25) (.tmp 35) 47 rfl 0 70 i0 (.pointer none) 1 8 Tryf.underlying47 hi0 hz0 hz1 hz2 rfl (by decide) (.slice (some ⟨gd, 0, none⟩) es.length cd) es.length (ptrs es) (by simpa [Act.eval] using h1) (OR.below d1 hb ld) ⟨g, 0, none⟩ 1 1 [.pointer (some ⟨e, 0, none⟩)] (by simpa [Act.eval] using h2) rfl (fun j u hj => ?_) (by intro u hu; simp at hu; subst hu; rfl) (by omega) (by unfold maxLen; omega) (by omega) (Nat.zero_le _) _ rfl ?_
      · cases j with
        | zero => simp at hj; subst hj; simpa [Addr.add] using hc
        | succ j => simp at hj
      · intro g1 cap1 w2 own1 gr1 at1 lt1
        have hfr : Fr (fun x => x = gd) w1 w2 := Fr.grown (Fr.refl _ _) gr1 (fun k hk => by simp [Value.ownBlock] at hk; exact .inl hk.symm)
        refine ⟨_, rfl, ⟨g1, cap1, e, rfl, by simpa [ptrs] using own1, ?_, he.fr hfr (by have := he.1; omega)⟩, by unfold FrA; rw [if_pos rfl]; exact hfr⟩
        rcases at1 with h | h
        · simp [Value.ownBlock] at h; exact .inl h.symm
        · right; omega
    · intro a w1 hm _ hd
      have h0 : a.tmps[18]?.getD undef = .pointer (some ⟨pr, 0, none⟩) := hd 3 (by decide)
      clear hm hd
      go_simp
      exact ⟨_, rfl, rfl, FrA.same _⟩
    · intro a w1 hm _ hd
      have h0 : a.tmps[37]?.getD undef = .pointer (some ⟨pr, 0, none⟩) := hd 22 (by decide)
      clear hm hd
      go_simp
      exact ⟨_, rfl, rfl, FrA.same _⟩

  · intro a w1 hm hv
    have h38 : a.tmps[38]?.getD undef = .pointer (some ⟨pr, 11, none⟩) := hv 23 (by decide)
    obtain ⟨g, cap, e, h36, ho, hg, he⟩ : V34 f pr co gd cd name es w 21 (a.tmps[36]?.getD undef) w1 := hv 21 (by decide)
    have s0 : a.tmps[0]?.getD undef = .pointer (some ⟨f, 0, none⟩) := hm.free' 0 (by decide)
    have s5 : a.tmps[5]?.getD undef = .int .i64 (T : Nat) := hm.free' 5 (by decide)
    have hsz : a.tmps.size = 45 := hm.size
    have hdf : a.defers = [] := hm.defers
    obtain ⟨hv1, fr1, f1, p1, h6⟩ := HV1.out
    have p2 := hm.fr.row p1 n2
    have f2 := hm.fr.row f1 n1
    have q11 := p2.cell (i := 11) (by omega)
    have z11 := p2.frozen 11
    have lp := p2.lt
    have hfr2 := hm.fr
    have HX := Lib.hid (And.intro ho (And.intro hg (And.intro he (And.intro p2 (And.intro f2 hfr2)))))
    have f3 := f2.setOther (a := ⟨pr, 11, none⟩) n4 (.slice (some ⟨g, 0, none⟩) (es.length + 1) cap)
    have cT := f3.cell (i := 6) (by omega)
    rw [h6] at cT
    have F3 := Lib.hid f3
    clear hm hv ho hg he p2 f2 hv1 fr1 f1 p1 h6 hfr2 f3
    obtain ⟨⟨tl⟩, df⟩ := a
    simp only at hdf
    subst hdf
    have hl : tl.length = 45 := by simpa using hsz
    obtain ⟨x0, t0, rfl, e0⟩ := cons_of hl
    obtain ⟨x1, t1, rfl, e1⟩ := cons_of e0
    obtain ⟨x2, t2, rfl, e2⟩ := cons_of e1
    obtain ⟨x3, t3, rfl, e3⟩ := cons_of e2
    obtain ⟨x4, t4, rfl, e4⟩ := cons_of e3
    obtain ⟨x5, t5, rfl, e5⟩ := cons_of e4
    obtain ⟨x6, t6, rfl, e6⟩ := cons_of e5
    obtain ⟨x7, t7, rfl, e7⟩ := cons_of e6
    obtain ⟨x8, t8, rfl, e8⟩ := cons_of e7
    obtain ⟨x9, t9, rfl, e9⟩ := cons_of e8
    obtain ⟨x10, t10, rfl, e10⟩ := cons_of e9
    obtain ⟨x11, t11, rfl, e11⟩ := cons_of e10
    obtain ⟨x12, t12, rfl, e12⟩ := cons_of e11
    obtain ⟨x13, t13, rfl, e13⟩ := cons_of e12
    obtain ⟨x14, t14, rfl, e14⟩ := cons_of e13
    obtain ⟨x15, t15, rfl, e15⟩ := cons_of e14
    obtain ⟨x16, t16, rfl, e16⟩ := cons_of e15
    obtain ⟨x17, t17, rfl, e17⟩ := cons_of e16
    obtain ⟨x18, t18, rfl, e18⟩ := cons_of e17
    obtain ⟨x19, t19, rfl, e19⟩ := cons_of e18
    obtain ⟨x20, t20, rfl, e20⟩ := cons_of e19
    obtain ⟨x21, t21, rfl, e21⟩ := cons_of e20
    obtain ⟨x22, t22, rfl, e22⟩ := cons_of e21
    obtain ⟨x23, t23, rfl, e23⟩ := cons_of e22
    obtain ⟨x24, t24, rfl, e24⟩ := cons_of e23
    obtain ⟨x25, t25, rfl, e25⟩ := cons_of e24
    obtain ⟨x26, t26, rfl, e26⟩ := cons_of e25
    obtain ⟨x27, t27, rfl, e27⟩ := cons_of e26
    obtain ⟨x28, t28, rfl, e28⟩ := cons_of e27
    obtain ⟨x29, t29, rfl, e29⟩ := cons_of e28
    obtain ⟨x30, t30, rfl, e30⟩ := cons_of e29
    obtain ⟨x31, t31, rfl, e31⟩ := cons_of e30
    obtain ⟨x32, t32, rfl, e32⟩ := cons_of e31
    obtain ⟨x33, t33, rfl, e33⟩ := cons_of e32
    obtain ⟨x34, t34, rfl, e34⟩ := cons_of e33
    obtain ⟨x35, t35, rfl, e35⟩ := cons_of e34
    obtain ⟨x36, t36, rfl, e36⟩ := cons_of e35
    obtain ⟨x37, t37, rfl, e37⟩ := cons_of e36
    obtain ⟨x38, t38, rfl, e38⟩ := cons_of e37
    obtain ⟨x39, t39, rfl, e39⟩ := cons_of e38
    obtain ⟨x40, t40, rfl, e40⟩ := cons_of e39
    obtain ⟨x41, t41, rfl, e41⟩ := cons_of e40
    obtain ⟨x42, t42, rfl, e42⟩ := cons_of e41
    obtain ⟨x43, t43, rfl, e43⟩ := cons_of e42
    obtain ⟨x44, t44, rfl, e44⟩ := cons_of e43
    obtain rfl := List.eq_nil_of_length_eq_zero e44
    clear e0 e1 e2 e3 e4 e5 e6 e7 e8 e9 e10 e11 e12 e13 e14 e15 e16 e17 e18 e19 e20 e21 e22 e23 e24 e25 e26 e27 e28 e29 e30 e31 e32 e33 e34 e35 e36 e37 e38 e39 e40 e41 e42 e43 e44 hsz
    simp at h38 h36 s0 s5
    subst h38 h36 s0 s5
    go_simp
    obtain ⟨w3, hw3⟩ : ∃ w3, w1.setCell ⟨pr, 11, none⟩ (.slice (some ⟨g, 0, none⟩) (es.length + 1) cap) = w3 := ⟨_, rfl⟩
    rw [hw3] at F3 cT ⊢
    have HW3 := Lib.hid hw3
    clear hw3
    go_wp2_with fail
    refine (top_cell cT).mono ?_
    rintro e' w4 ⟨rfl, rfl⟩
    go_wp2_with fail
    refine (settop45 F3.out ((T : Int) + 1) (by omega)).mono ?_
    rintro e' w4 ⟨rfl, rfl⟩
    go_wp2
    go_ret
    obtain ⟨hv1, fr1, _, _, _⟩ := HV1.out
    obtain ⟨ho, hg, he, p2, f2, hfr2⟩ := HX.out
    rw [← HW3.out]
    exact ⟨rfl, reg_post rfl hv1 fr1 hof hop hod HF.out.1.lt HP.out.1.lt HD.out.lt' n1 n2 n4 ho hg he p2 f2 hfr2⟩
end Go.Proofs.YtpffohonpblfkaaFmt
