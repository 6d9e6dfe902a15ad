/- Entering a block: what it leaves. -/
import Derived.Test.YtpffohonpblfkaaFmtReg
namespace Go.Proofs.YtpffohonpblfkaaFmt
open Go.RowKit Go.ChangeShapes Go.Deep
theorem info54 : (Tryf.prog.info? 54).map (fun i => (i.zero, i.size, i.bytes)) = some (some (.pointer none), 1, 8) := by kernel_rfl
theorem block_new (p : Nat) (q : Option Addr) (w : World) : Calls Tryf.prog 41 #[.pointer (some ⟨p, 0, none⟩), .int .i64 0, .pointer q, .nilIface, .int .i64 0] w fun e w' => ∃ b F, e = .returned (.pointer (some ⟨b, 0, none⟩)) ∧ w.heap.size ≤ b ∧ w'.rowIs b 85 8 F ∧ F 0 = .pointer (some ⟨p, 0, none⟩) ∧ F 2 = .pointer q ∧ Below w.heap.size w w' := by
  have hmm := @run_makeMap Tryf.prog
  go_enter Tryf.func41, Tryf.ntmps41
  go_wp2
  clear hmm
  have hr := World.rowIs_alloc (w.alloc (.map #[] 0)) #[.pointer (some ⟨p, 0, none⟩), .int .i64 0, .pointer q, .bool false, .int .i64 0, .int .i64 0, .map (some w.heap.size), .int .i64 0] 85 _ (array_at _)
  have hs : (w.alloc (.map #[] 0)).heap.size = w.heap.size + 1 := by simp
  rw [hs] at hr
  exact bodyPost_ret (v := .pointer (some ⟨w.heap.size + 1, 0, none⟩)) (by simp [results, Tryf.results41, go_sem]) rfl ⟨_, _, rfl, by omega, hr, rfl, rfl, ((Below.refl _ _).alloc (Nat.le_refl _) _).alloc (by simp) _⟩
/-- A new pool, and what is its own. -/
def NewPool (w0 w : World) (p T : Nat) (own : Nat → Prop) : Prop := VPool w own p (T : Nat) [] ∧ ∀ x, own x → w0.heap.size ≤ x ∧ x < w.heap.size
theorem NewPool.below {w0 w w' : World} {p T : Nat} {own : Nat → Prop} (h : NewPool w0 w p T own) (hb : Below w.heap.size w w') : NewPool w0 w' p T own :=
  ⟨h.1.fr (Fr.of_below hb (fun _ => False)) (fun _ _ h => h), fun x hx => ⟨(h.2 x hx).1, Nat.lt_of_lt_of_le (h.2 x hx).2 hb.size⟩⟩
def NewBlock (w0 w : World) (b p bl : Nat) (own : Nat → Prop) : Prop := w0.heap.size ≤ b ∧ (∀ x, own x → x ≠ b) ∧ ∃ F, w.rowIs b 85 8 F ∧ F 0 = .pointer (some ⟨p, 0, none⟩) ∧ F 2 = .pointer (some ⟨bl, 0, none⟩)
theorem NewBlock.below {w0 w w' : World} {b p bl : Nat} {own : Nat → Prop} (h : NewBlock w0 w b p bl own) (hb : Below w.heap.size w w') : NewBlock w0 w' b p bl own := by
  obtain ⟨h1, h2, F, h3, h4⟩ := h
  exact ⟨h1, h2, F, Below.row hb h3 h3.lt, h4⟩
theorem nob {j : Nat} {w w' : World} (h : FrA 99 (fun _ => False) j w w') : Below w.heap.size w w' := h.fr.below (Nat.le_refl _) (fun _ h => h.elim)
def V33a (f bl T : Nat) (w0 : World) (i : Nat) (v : Value) (w : World) : Prop := match i with
  | 0 => v = .pointer (some ⟨f, 0, none⟩)
  | 1 => v = .pointer (some ⟨f, 0, none⟩)
  | 2 => v = .int .i64 (T : Nat)
  | 3 => ∃ p own, v = .pointer (some ⟨p, 0, none⟩) ∧ NewPool w0 w p T own
  | 4 => v = .int .i64 0
  | 5 => v = .pointer (some ⟨f, 0, none⟩)
  | 6 => v = .pointer (some ⟨f, 0, none⟩)
  | 7 => v = .pointer (some ⟨f, 4, none⟩)
  | 8 => v = .pointer (some ⟨bl, 0, none⟩)
  | 9 => v = .nilIface
  | 10 => v = .pointer (some ⟨f, 0, none⟩)
  | 11 => v = .pointer (some ⟨f, 0, none⟩)
  | 12 => v = .pointer (some ⟨f, 9, none⟩)
  | 13 => v = .int .i64 0
  | 14 => ∃ b p own, v = .pointer (some ⟨b, 0, none⟩) ∧ NewPool w0 w p T own ∧ NewBlock w0 w b p bl own
  | 15 => v = .pointer (some ⟨f, 0, none⟩)
  | 16 => v = .pointer (some ⟨f, 4, none⟩)
  | _ => True
theorem V33a.stable {f bl T : Nat} {w0 : World} : ∀ i j v w w', i ≠ j → V33a f bl T w0 i v w → FrA 99 (fun _ => False) j w w' → V33a f bl T w0 i v w' := by
  intro i j v w w' _ h hfr
  match i, h with
  | 0, h => exact h
  | 1, h => exact h
  | 2, h => exact h
  | 3, h => exact by obtain ⟨p, own, h1, h2⟩ := h; exact ⟨p, own, h1, h2.below (nob hfr)⟩
  | 4, h => exact h
  | 5, h => exact h
  | 6, h => exact h
  | 7, h => exact h
  | 8, h => exact h
  | 9, h => exact h
  | 10, h => exact h
  | 11, h => exact h
  | 12, h => exact h
  | 13, h => exact h
  | 14, h => exact by obtain ⟨b, p, own, h1, h2, h3⟩ := h; exact ⟨b, p, own, h1, h2.below (nob hfr), h3.below (nob hfr)⟩
  | 15, h => exact h
  | 16, h => exact h
  | n + 17, h => exact h
def V33b (f b gB n cB : Nat) (bs : List Nat) (w0 : World) (i : Nat) (v : Value) (w : World) : Prop := match i with
  | 0 => v = .pointer (some ⟨f, 0, none⟩)
  | 1 => v = .pointer (some ⟨f, 0, none⟩)
  | 2 => v = .pointer (some ⟨f, 0, none⟩)
  | 3 => v = .pointer (some ⟨f, 5, none⟩)
  | 4 => v = .slice (some ⟨gB, 0, none⟩) n cB
  | 5 => v = .pointer (some ⟨f, 0, none⟩)
  | 6 => v = .pointer (some ⟨f, 0, none⟩)
  | 7 => v = .pointer (some ⟨f, 4, none⟩)
  | 8 => v = .pointer (some ⟨b, 0, none⟩)
  | 9 => ∃ g, v = .slice (some ⟨g, 0, none⟩) 1 1 ∧ w0.heap.size ≤ g ∧ w.cell? ⟨g, 0, none⟩ = some (.pointer (some ⟨b, 0, none⟩))
  | 10 => ∃ g cap, v = .slice (some ⟨g, 0, none⟩) (n + 1) cap ∧ OR w 54 g (n + 1) cap (ptrs (bs ++ [b])) ∧ (g = gB ∨ w0.heap.size ≤ g)
  | 11 => v = .pointer (some ⟨f, 0, none⟩)
  | 12 => v = .pointer (some ⟨f, 5, none⟩)
  | _ => True
theorem V33b.stable {f b gB n cB : Nat} {bs : List Nat} {w0 : World} (hgB : gB < w0.heap.size) : ∀ i j v w w', i ≠ j → V33b f b gB n cB bs w0 i v w → FrA 10 (fun x => x = gB) j w w' → V33b f b gB n cB bs w0 i v w' := by
  intro i j v w w' hij h hfr
  match i, h with
  | 0, h => exact h
  | 1, h => exact h
  | 2, h => exact h
  | 3, h => exact h
  | 4, h => exact h
  | 5, h => exact h
  | 6, h => exact h
  | 7, h => exact h
  | 8, h => exact h
  | 9, h => exact by obtain ⟨g, h1, h3, h4⟩ := h; exact ⟨g, h1, h3, (hfr.fr.cell (p := ⟨g, 0, none⟩) (World.block_lt_of_cell? w _ h4) (show ¬ g = gB by omega)).trans h4⟩
  | 10, h => exact by obtain ⟨g, cap, h1, h2, h3⟩ := h; have hb : Below w.heap.size w w' := (by unfold FrA at hfr; rwa [if_neg (fun e => hij e.symm)] at hfr); exact ⟨g, cap, h1, OR.below h2 hb h2.lt', h3⟩
  | 11, h => exact h
  | 12, h => exact h
  | n + 13, h => exact h
/-- What EnterBlock leaves. -/
def EntPost (wa : World) (f bl gB n T : Nat) (bs : List Nat) (F : Nat → Value) (W : World) : Prop :=
  ∃ (g cap b p : Nat) (own1 : Nat → Prop), NewPool wa W p T own1 ∧ NewBlock wa W b p bl own1 ∧ Fr (fun x => x = gB ∨ x = f) wa W ∧
    W.rowIs f 59 11 (fun i => if i = 5 then .slice (some ⟨g, 0, none⟩) (n + 1) cap else if i = 4 then .pointer (some ⟨b, 0, none⟩) else F i) ∧ OR W 54 g (n + 1) cap (ptrs (bs ++ [b])) ∧ (g = gB ∨ (wa.heap.size ≤ g ∧ g < W.heap.size ∧ ∀ x, own1 x → x ≠ g))
theorem ent_post {w w1 w3 : World} {f bl gB n T b p g cap : Nat} {bs : List Nat} {F : Nat → Value} {own : Nat → Prop} (hnp : NewPool w w1 p T own) (hnb : NewBlock w w1 b p bl own) (hbel : Below w.heap.size w w1) (f1 : w1.rowIs f 59 11 F) (lf : f < w.heap.size) (lB : gB < w.heap.size)
    (n1 : ¬ f = gB) (hfr : Fr (fun x => x = gB) (w1.setCell ⟨f, 4, none⟩ (.pointer (some ⟨b, 0, none⟩))) w3) (ho : OR w3 54 g (n + 1) cap (ptrs (bs ++ [b]))) (hg : g = gB ∨ w1.heap.size ≤ g) (f3 : w3.rowIs f 59 11 (fun i => if i = 4 then .pointer (some ⟨b, 0, none⟩) else F i)) :
    EntPost w f bl gB n T bs F (w3.setCell ⟨f, 5, none⟩ (.slice (some ⟨g, 0, none⟩) (n + 1) cap)) := by
  have A : Fr (fun x => x = gB ∨ x = f) w1 (w3.setCell ⟨f, 5, none⟩ (.slice (some ⟨g, 0, none⟩) (n + 1) cap)) :=
    Fr.setCell (p := ⟨f, 5, none⟩) ((Fr.setCell (o := fun x => x = gB ∨ x = f) (Fr.refl _ w1) (p := ⟨f, 4, none⟩) (.inl (.inr rfl)) _).trans hfr (fun x hx => .inl (.inl hx))) (.inl (.inr rfl)) _
  have s1 := hbel.size
  have s2 := A.size
  obtain ⟨v1, v2⟩ := hnp
  obtain ⟨b1, b2, FB, b3, b4⟩ := hnb
  have lb := b3.lt
  have hgf : g ≠ f := OR.ne ho f3 (by decide)
  refine ⟨g, cap, b, p, own, ⟨v1.fr A (fun x hx hy => ?_), fun x hx => ?_⟩, ⟨b1, b2, FB, A.row b3 (fun hy => ?_), b4⟩, (Fr.of_below hbel (fun x => x = gB ∨ x = f)).trans A (fun x hx => .inl hx), ?_, ?_, ?_⟩
  · have := (v2 x hx).1
    rcases hy with rfl | rfl <;> omega
  · have := v2 x hx; omega
  · rcases hy with rfl | rfl <;> omega
  · refine (f3.set 5 _).congr (fun i hi => ?_)
    by_cases h5 : i = 5
    · simp [h5]
    · simp [h5]
  · exact OR.setCell ho (p := ⟨f, 5, none⟩) (fun e => hgf e.symm) _
  · rcases hg with h | h
    · exact .inl h
    · refine .inr ⟨by omega, by simpa using ho.lt', fun x hx e => ?_⟩
      have := (v2 x hx).2
      omega
set_option maxHeartbeats 8000000 in
set_option maxRecDepth 100000 in
theorem ent_walk {w : World} {f bl gB cB n T : Nat} {bs : List Nat} {F : Nat → Value}
    (hf : w.rowIs f 59 11 F) (h4 : F 4 = .pointer (some ⟨bl, 0, none⟩)) (h5 : F 5 = .slice (some ⟨gB, 0, none⟩) n cB) (h6 : F 6 = .int .i64 (T : Nat)) (h9 : F 9 = .int .i64 0) (hd : OR w 54 gB n cB (ptrs bs)) (hn : n ≤ 10000) :
    Calls Tryf.prog 33 #[.pointer (some ⟨f, 0, none⟩), .int .i64 0, .nilIface] w fun e W => e = .returned (.tuple #[]) ∧ EntPost w f bl gB n T bs F W := by
  have k4 := hf.cell (i := 4) (by omega)
  have k6 := hf.cell (i := 6) (by omega)
  have k9 := hf.cell (i := 9) (by omega)
  rw [h4] at k4
  rw [h6] at k6
  rw [h9] at k9
  have HF := Lib.hid (And.intro hf (And.intro h5 hd))
  clear hf h4 h5 h6 h9 hd
  go_enter Tryf.func33, Tryf.ntmps33
  go_wp2
  refine wp_region_tail (o := _) 17 (fun _ => False) 99 (V33a f bl T w) (by kernel_rfl) rfl rfl (by kernel_rfl) (by kernel_rfl) rfl (by kernel_rfl) V33a.stable ?_ ?_
  · refine ⟨?_, ?_, ?_, ?_, ?_, ?_, ?_, ?_, ?_, ?_, ?_, ?_, ?_, ?_, ?_, ?_, ?_, trivial⟩
    · intro a w1 hm _ hd
      have h0 : a.tmps[0]?.getD undef = .pointer (some ⟨f, 0, none⟩) := hm.free' 0 (by decide)
      clear hm hd
      go_simp
      exact ⟨_, rfl, rfl, FrA.same _⟩
    · intro a w1 hm _ hd
      have h0 : a.tmps[0]?.getD undef = .pointer (some ⟨f, 0, none⟩) := hm.free' 0 (by decide)
      clear hm hd
      go_simp
      exact ⟨_, rfl, rfl, FrA.same _⟩
    · intro a w1 hm _ hd
      have h0 : a.tmps[7]?.getD undef = .pointer (some ⟨f, 0, none⟩) := hd 1 (by decide)
      have c0 : w1.cell? ⟨f, 6, none⟩ = some (.int .i64 (T : Nat)) := hm.cell k6 id
      clear hm hd
      refine step_call (f := 37) (args := #[.pointer (some ⟨f, 0, none⟩)]) (by go_simp) ((top_cell c0).mono ?_)
      rintro e w2 ⟨rfl, rfl⟩
      exact ⟨_, rfl, _, rfl, rfl, FrA.same _⟩
    · intro a w1 hm _ hd
      have h0 : a.tmps[8]?.getD undef = .int .i64 (T : Nat) := hd 2 (by decide)
      have hs := hm.fr.size
      clear hm hd
      refine step_call (f := 40) (args := #[.int .i64 (T : Nat)]) (by go_simp) ((pool_new (T : Nat) w1).mono ?_)
      rintro e w2 ⟨rfl, hv, hb, _⟩
      exact ⟨_, rfl, _, rfl, ⟨_, _, rfl, hv, fun x hx => ⟨by omega, hx.2⟩⟩, FrA.new hb⟩
    · intro a w1 hm _ hd
      have h0 : a.tmps[1]?.getD undef = .int .i64 0 := hm.free' 1 (by decide)
      clear hm hd
      go_simp
      exact ⟨_, rfl, rfl, FrA.same _⟩
    · intro a w1 hm _ hd
      have h0 : a.tmps[0]?.getD undef = .pointer (some ⟨f, 0, none⟩) := hm.free' 0 (by decide)
      clear hm hd
      go_simp
      exact ⟨_, rfl, rfl, FrA.same _⟩
    · intro a w1 hm _ hd
      have h0 : a.tmps[11]?.getD undef = .pointer (some ⟨f, 0, none⟩) := hd 5 (by decide)
      clear hm hd
      go_simp
      exact ⟨_, rfl, rfl, FrA.same _⟩
    · intro a w1 hm _ hd
      have h0 : a.tmps[12]?.getD undef = .pointer (some ⟨f, 0, none⟩) := hd 6 (by decide)
      clear hm hd
      go_simp
      exact ⟨_, rfl, rfl, FrA.same _⟩
    · intro a w1 hm _ hd
      have h0 : a.tmps[13]?.getD undef = .pointer (some ⟨f, 4, none⟩) := hd 7 (by decide)
      have c0 : w1.cell? ⟨f, 4, none⟩ = some (.pointer (some ⟨bl, 0, none⟩)) := hm.cell k4 id
      clear hm hd
      go_simp
      exact ⟨_, rfl, rfl, FrA.same _⟩
    · intro a w1 hm _ hd
      have h0 : a.tmps[2]?.getD undef = .nilIface := hm.free' 2 (by decide)
      clear hm hd
      go_simp
      exact ⟨_, rfl, rfl, FrA.same _⟩
    · intro a w1 hm _ hd
      have h0 : a.tmps[0]?.getD undef = .pointer (some ⟨f, 0, none⟩) := hm.free' 0 (by decide)
      clear hm hd
      go_simp
      exact ⟨_, rfl, rfl, FrA.same _⟩
    · intro a w1 hm _ hd
      have h0 : a.tmps[16]?.getD undef = .pointer (some ⟨f, 0, none⟩) := hd 10 (by decide)
      clear hm hd
      go_simp
      exact ⟨_, rfl, rfl, FrA.same _⟩
    · intro a w1 hm _ hd
      have h0 : a.tmps[17]?.getD undef = .pointer (some ⟨f, 0, none⟩) := hd 11 (by decide)
      clear hm hd
      go_simp
      exact ⟨_, rfl, rfl, FrA.same _⟩
    · intro a w1 hm _ hd
      have h0 : a.tmps[18]?.getD undef = .pointer (some ⟨f, 9, none⟩) := hd 12 (by decide)
      have c0 : w1.cell? ⟨f, 9, none⟩ = some (.int .i64 0) := hm.cell k9 id
      clear hm hd
      go_simp
      exact ⟨_, rfl, rfl, FrA.same _⟩
    · intro a w1 hm _ hd
      obtain ⟨p, own, h0, hp⟩ : V33a f bl T w 3 (a.tmps[9]?.getD undef) w1 := hd 3 (by decide)
      have h1 : a.tmps[10]?.getD undef = .int .i64 0 := hd 4 (by decide)
      have h2 : a.tmps[14]?.getD undef = .pointer (some ⟨bl, 0, none⟩) := hd 8 (by decide)
      have h3 : a.tmps[15]?.getD undef = .nilIface := hd 9 (by decide)
      have h4 : a.tmps[19]?.getD undef = .int .i64 0 := hd 13 (by decide)
      have hs := hm.fr.size
      clear hm hd
      refine step_call (f := 41) (args := #[.pointer (some ⟨p, 0, none⟩), .int .i64 0, .pointer (some ⟨bl, 0, none⟩), .nilIface, .int .i64 0]) (by go_simp) ((block_new p (some ⟨bl, 0, none⟩) w1).mono ?_)
      rintro e w2 ⟨b, F, rfl, h5, h6, h7, h8, hb⟩
      exact ⟨_, rfl, _, rfl, ⟨b, p, own, rfl, hp.below hb, by omega, fun x hx e => by have := (hp.2 x hx).2; omega, F, h6, h7, h8⟩, FrA.new hb⟩
    · intro a w1 hm _ hd
      have h0 : a.tmps[6]?.getD undef = .pointer (some ⟨f, 0, none⟩) := hd 0 (by decide)
      clear hm hd
      go_simp
      exact ⟨_, rfl, rfl, FrA.same _⟩
    · intro a w1 hm _ hd
      have h0 : a.tmps[21]?.getD undef = .pointer (some ⟨f, 0, none⟩) := hd 15 (by decide)
      clear hm hd
      go_simp
      exact ⟨_, rfl, rfl, FrA.same _⟩

  · intro a w1 hm hv
    have h22 : a.tmps[22]?.getD undef = .pointer (some ⟨f, 4, none⟩) := hv 16 (by decide)
    obtain ⟨b, p, own, h20, hnp, hnb⟩ : V33a f bl T w 14 (a.tmps[20]?.getD undef) w1 := hv 14 (by decide)
    have s0 : a.tmps[0]?.getD undef = .pointer (some ⟨f, 0, none⟩) := hm.free' 0 (by decide)
    have hsz : a.tmps.size = 36 := hm.size
    have hdf : a.defers = [] := hm.defers
    have hbel : Below w.heap.size w w1 := hm.fr.below (Nat.le_refl _) (fun _ h => h.elim)
    have lf := HF.out.1.lt
    have f1 := Below.row hbel HF.out.1 lf
    have c4 := f1.cell (i := 4) (by omega)
    have z4 := f1.frozen 4
    have f2 := f1.set 4 (.pointer (some ⟨b, 0, none⟩))
    have d2 := OR.setCell (OR.below HF.out.2.2 hbel HF.out.2.2.lt') (p := ⟨f, 4, none⟩) (fun e => OR.ne (OR.below HF.out.2.2 hbel HF.out.2.2.lt') f1 (by decide) e.symm) (.pointer (some ⟨b, 0, none⟩))
    have HX := Lib.hid (And.intro hnp (And.intro hnb (And.intro hbel f1)))
    obtain ⟨w2, hw2⟩ : ∃ w2, w1.setCell ⟨f, 4, none⟩ (.pointer (some ⟨b, 0, none⟩)) = w2 := ⟨_, rfl⟩
    rw [hw2] at f2 d2
    have HW2 := Lib.hid hw2
    have q4 := f2.cell (i := 4) (by omega)
    have q5 := f2.cell (i := 5) (by omega)
    simp only [if_true, show (5 : Nat) ≠ 4 by decide, if_false, HF.out.2.1] at q4 q5
    have ld := d2.lt'
    have n1 : ¬ f = gB := fun e => OR.ne d2 f2 (by decide) e.symm
    have F2 := Lib.hid f2
    obtain ⟨i0, hi0, hz0, hz1, hz2⟩ := or_parts info54
    clear hm hv hnp hnb hbel f1 f2
    obtain ⟨⟨tl⟩, df⟩ := a
    simp only at hdf
    subst hdf
    have hl : tl.length = 36 := by simpa using hsz
    obtain ⟨x0, t0, rfl, e0⟩ := cons_of hl
    obtain ⟨x1, t1, rfl, e1⟩ := cons_of e0
    obtain ⟨x2, t2, rfl, e2⟩ := cons_of e1
    obtain ⟨x3, t3, rfl, e3⟩ := cons_of e2
    obtain ⟨x4, t4, rfl, e4⟩ := cons_of e3
    obtain ⟨x5, t5, rfl, e5⟩ := cons_of e4
    obtain ⟨x6, t6, rfl, e6⟩ := cons_of e5
    obtain ⟨x7, t7, rfl, e7⟩ := cons_of e6
    obtain ⟨x8, t8, rfl, e8⟩ := cons_of e7
    obtain ⟨x9, t9, rfl, e9⟩ := cons_of e8
    obtain ⟨x10, t10, rfl, e10⟩ := cons_of e9
    obtain ⟨x11, t11, rfl, e11⟩ := cons_of e10
    obtain ⟨x12, t12, rfl, e12⟩ := cons_of e11
    obtain ⟨x13, t13, rfl, e13⟩ := cons_of e12
    obtain ⟨x14, t14, rfl, e14⟩ := cons_of e13
    obtain ⟨x15, t15, rfl, e15⟩ := cons_of e14
    obtain ⟨x16, t16, rfl, e16⟩ := cons_of e15
    obtain ⟨x17, t17, rfl, e17⟩ := cons_of e16
    obtain ⟨x18, t18, rfl, e18⟩ := cons_of e17
    obtain ⟨x19, t19, rfl, e19⟩ := cons_of e18
    obtain ⟨x20, t20, rfl, e20⟩ := cons_of e19
    obtain ⟨x21, t21, rfl, e21⟩ := cons_of e20
    obtain ⟨x22, t22, rfl, e22⟩ := cons_of e21
    obtain ⟨x23, t23, rfl, e23⟩ := cons_of e22
    obtain ⟨x24, t24, rfl, e24⟩ := cons_of e23
    obtain ⟨x25, t25, rfl, e25⟩ := cons_of e24
    obtain ⟨x26, t26, rfl, e26⟩ := cons_of e25
    obtain ⟨x27, t27, rfl, e27⟩ := cons_of e26
    obtain ⟨x28, t28, rfl, e28⟩ := cons_of e27
    obtain ⟨x29, t29, rfl, e29⟩ := cons_of e28
    obtain ⟨x30, t30, rfl, e30⟩ := cons_of e29
    obtain ⟨x31, t31, rfl, e31⟩ := cons_of e30
    obtain ⟨x32, t32, rfl, e32⟩ := cons_of e31
    obtain ⟨x33, t33, rfl, e33⟩ := cons_of e32
    obtain ⟨x34, t34, rfl, e34⟩ := cons_of e33
    obtain ⟨x35, t35, rfl, e35⟩ := cons_of e34
    obtain rfl := List.eq_nil_of_length_eq_zero e35
    clear e0 e1 e2 e3 e4 e5 e6 e7 e8 e9 e10 e11 e12 e13 e14 e15 e16 e17 e18 e19 e20 e21 e22 e23 e24 e25 e26 e27 e28 e29 e30 e31 e32 e33 e34 e35 hsz
    simp at h22 h20 s0
    subst h22 h20 s0
    clear hl
    go_simp
    clear hw2 c4 z4
    go_wp2
    refine wp_region_tail (o := _) 13 (fun x => x = gB) 10 (V33b f b gB n cB bs w2) (by kernel_rfl) rfl rfl (by kernel_rfl) (by kernel_rfl) rfl (by kernel_rfl) (V33b.stable ld) ?_ ?_
    · refine ⟨?_, ?_, ?_, ?_, ?_, ?_, ?_, ?_, ?_, ?_, ?_, ?_, ?_, trivial⟩
      · intro a w1 hm _ hd
        have h0 : a.tmps[0]?.getD undef = .pointer (some ⟨f, 0, none⟩) := hm.free' 0 (by decide)
        clear hm hd
        go_simp
        exact ⟨_, rfl, rfl, FrA.same _⟩
      · intro a w1 hm _ hd
        have h0 : a.tmps[0]?.getD undef = .pointer (some ⟨f, 0, none⟩) := hm.free' 0 (by decide)
        clear hm hd
        go_simp
        exact ⟨_, rfl, rfl, FrA.same _⟩
      · intro a w1 hm _ hd
        have h0 : a.tmps[24]?.getD undef = .pointer (some ⟨f, 0, none⟩) := hd 1 (by decide)
        clear hm hd
        go_simp
        exact ⟨_, rfl, rfl, FrA.same _⟩
      · intro a w1 hm _ hd
        have h0 : a.tmps[25]?.getD undef = .pointer (some ⟨f, 0, none⟩) := hd 2 (by decide)
        clear hm hd
        go_simp
        exact ⟨_, rfl, rfl, FrA.same _⟩
      · intro a w1 hm _ hd
        have h0 : a.tmps[26]?.getD undef = .pointer (some ⟨f, 5, none⟩) := hd 3 (by decide)
        have c0 : w1.cell? ⟨f, 5, none⟩ = some (.slice (some ⟨gB, 0, none⟩) n cB) := hm.cell q5 n1
        clear hm hd
        go_simp
        exact ⟨_, rfl, rfl, FrA.same _⟩
      · intro a w1 hm _ hd
        have h0 : a.tmps[0]?.getD undef = .pointer (some ⟨f, 0, none⟩) := hm.free' 0 (by decide)
        clear hm hd
        go_simp
        exact ⟨_, rfl, rfl, FrA.same _⟩
      · intro a w1 hm _ hd
        have h0 : a.tmps[28]?.getD undef = .pointer (some ⟨f, 0, none⟩) := hd 5 (by decide)
        clear hm hd
        go_simp
        exact ⟨_, rfl, rfl, FrA.same _⟩
      · intro a w1 hm _ hd
        have h0 : a.tmps[29]?.getD undef = .pointer (some ⟨f, 0, none⟩) := hd 6 (by decide)
        clear hm hd
        go_simp
        exact ⟨_, rfl, rfl, FrA.same _⟩
      · intro a w1 hm _ hd
        have h0 : a.tmps[30]?.getD undef = .pointer (some ⟨f, 4, none⟩) := hd 7 (by decide)
        have c0 : w1.cell? ⟨f, 4, none⟩ = some (.pointer (some ⟨b, 0, none⟩)) := hm.cell q4 n1
        clear hm hd
        go_simp
        exact ⟨_, rfl, rfl, FrA.same _⟩
      · intro a w1 hm _ hd
        have h0 : a.tmps[31]?.getD undef = .pointer (some ⟨b, 0, none⟩) := hd 8 (by decide)
        have hs := hm.fr.size
        clear hm hd
        go_simp
        have hbel : Below w1.heap.size w1 (w1.alloc (.cells #[.pointer (some ⟨b, 0, none⟩)] 54)) := by go_grown
        refine ⟨_, rfl, ⟨_, rfl, hs, ?_⟩, FrA.new hbel⟩
        simp
      · intro a w1 hm hb hd
        have hb := hb rfl
        have h1 : a.tmps[27]?.getD undef = .slice (some ⟨gB, 0, none⟩) n cB := hd 4 (by decide)
        obtain ⟨g, h2, hg, hc⟩ : V33b f b gB n cB bs w2 9 (a.tmps[32]?.getD undef) w1 := hd 9 (by decide)
        have hs := hb.size
        refine wp_append_lies w1 (.tmp 27) (.tmp 32) 55 rfl 0 54 i0 (.pointer none) 1 8 Tryf.underlying55 hi0 hz0 hz1 hz2 rfl (by decide) (.slice (some ⟨gB, 0, none⟩) n cB) n (ptrs bs) (by simpa [Act.eval] using h1) (OR.below d2 hb ld) ⟨g, 0, none⟩ 1 1 [.pointer (some ⟨b, 0, none⟩)] (by simpa [Act.eval] using h2) rfl (fun j u hj => ?_) (by intro u hu; simp at hu; subst hu; rfl) (by omega) (by unfold maxLen; omega) (by omega) (Nat.zero_le _) _ rfl ?_
        · cases j with
          | zero => simp at hj; subst hj; simpa [Addr.add] using hc
          | succ j => simp at hj
        · intro g1 cap1 w3 own1 gr1 at1 lt1
          have hfr : Fr (fun x => x = gB) w1 w3 := Fr.grown (Fr.refl _ _) gr1 (fun k hk => by simp [Value.ownBlock] at hk; exact .inl hk.symm)
          refine ⟨_, rfl, ⟨g1, cap1, rfl, by simpa [ptrs] using own1, ?_⟩, by unfold FrA; rw [if_pos rfl]; exact hfr⟩
          rcases at1 with h | h
          · simp [Value.ownBlock] at h; exact .inl h.symm
          · right; omega
      · intro a w1 hm _ hd
        have h0 : a.tmps[23]?.getD undef = .pointer (some ⟨f, 0, none⟩) := hd 0 (by decide)
        clear hm hd
        go_simp
        exact ⟨_, rfl, rfl, FrA.same _⟩
      · intro a w1 hm _ hd
        have h0 : a.tmps[34]?.getD undef = .pointer (some ⟨f, 0, none⟩) := hd 11 (by decide)
        clear hm hd
        go_simp
        exact ⟨_, rfl, rfl, FrA.same _⟩

    · intro a w3 hm hv
      have h35 : a.tmps[35]?.getD undef = .pointer (some ⟨f, 5, none⟩) := hv 12 (by decide)
      obtain ⟨g, cap, h33, ho, hg⟩ : V33b f b gB n cB bs w2 10 (a.tmps[33]?.getD undef) w3 := hv 10 (by decide)
      have hdf : a.defers = [] := hm.defers
      have f3 := hm.fr.row F2.out n1
      have c5 := f3.cell (i := 5) (by omega)
      have z5 := f3.frozen 5
      have HY := Lib.hid (And.intro ho (And.intro hg (And.intro f3 hm.fr)))
      clear hm hv ho hg f3
      go_simp
      go_wp2
      obtain ⟨ho, hg, f3, hfr⟩ := HY.out
      obtain ⟨hnp, hnb, hbel, f1⟩ := HX.out
      refine bodyPost_end (by simp [results, Tryf.results33, go_sem]) hdf ⟨rfl, ?_⟩
      rw [← HW2.out] at hfr
      exact ent_post hnp hnb hbel f1 HF.out.1.lt HF.out.2.2.lt' n1 hfr ho (by rw [← HW2.out] at hg; simpa using hg) f3
end Go.Proofs.YtpffohonpblfkaaFmt
