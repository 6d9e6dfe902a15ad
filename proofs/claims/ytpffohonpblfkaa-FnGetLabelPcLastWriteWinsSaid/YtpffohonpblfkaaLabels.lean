/- The labels of a context: what NewLabel, SetLabelPc and GetLabelPc answer and leave. -/
import Derived.Test.YtpffohonpblfkaaNew
import Derived.Deep.QuietTactic
import Derived.BigQuiet
import Derived.StillTailTactics
import Derived.RegionTactic
namespace Go.Proofs.Ytpffohonpblfkaa
open Go.RowKit Go.ChangeShapes Go.Deep Go.Maps
def updI (m : Int → Int) (l p : Int) : Int → Int := fun x => if x = l then p else m x
structure FC (w0 w : World) (f b n : Nat) (id : Int) (m : Int → Int) : Prop where
  row : ∃ F, w.rowIs f 49 11 F ∧ F 7 = .int .i64 id ∧ F 8 = .map (some b)
  own : ∃ D, MapOf w b n D ∧ IsMap D ∧ ∀ k, D.atKey (.int .i64 k) (.lit (.int .i64 0)) = .lit (.int .i64 (m k))
  bel : Below w0.heap.size w0 w
  lf : w0.heap.size ≤ f
  lb : w0.heap.size ≤ b
def Wr (f b x : Nat) : Prop := x = f ∨ x = b
section
variable {w0 w w' : World} {f b n : Nat} {id : Int} {m : Int → Int}
theorem FC.drewN (h : FC w0 w f b n id m) (k : Nat) : FC w0 (w.drewN k) f b n id m := ⟨h.row, h.own, below_drewN h.bel k, h.lf, h.lb⟩
theorem FC.below (h : FC w0 w f b n id m) (hb : Below w.heap.size w w') : FC w0 w' f b n id m := by
  obtain ⟨F, h1, h2, h3⟩ := h.row
  obtain ⟨D, d1, d2, d3⟩ := h.own
  exact ⟨⟨F, Below.row hb h1 h1.lt, h2, h3⟩, ⟨D, d1.below hb, d2, d3⟩, h.bel.trans (hb.mono h.bel.size), h.lf, h.lb⟩
theorem FC.ne (h : FC w0 w f b n id m) : b ≠ f := by
  obtain ⟨F, h1, _⟩ := h.row
  obtain ⟨D, d1, _⟩ := h.own
  exact d1.ne h1
theorem FC.other (h : FC w0 w f b n id m) {g k : Nat} {e : TypeId} {F : Nat → Value} (hr : w.rowIs g e k F) (he : e ≠ 49) : ¬ Wr f b g := by
  rintro (rfl | rfl)
  · obtain ⟨F', h1, _⟩ := h.row
    obtain ⟨c, hc, _⟩ := hr
    obtain ⟨c', hc', _⟩ := h1
    rw [hc] at hc'
    simp at hc'
    exact he hc'.2
  · obtain ⟨D, d1, _⟩ := h.own
    exact d1.ne hr rfl
/-- A row beside is written. -/
theorem FC.setRow (h : FC w0 w f b n id m) {g k : Nat} {e : TypeId} {F : Nat → Value} (hr : w.rowIs g e k F) (he : e ≠ 49) (hg : w0.heap.size ≤ g) (i : Nat) (v : Value) : FC w0 (w.setCell ⟨g, i, none⟩ v) f b n id m := by
  have ho := h.other hr he
  obtain ⟨F', h1, h2, h3⟩ := h.row
  obtain ⟨D, d1, d2, d3⟩ := h.own
  exact ⟨⟨F', h1.setOther (a := ⟨g, i, none⟩) (fun e => ho (.inl e.symm)) v, h2, h3⟩, ⟨D, d1.setCell (p := ⟨g, i, none⟩) (fun e => ho (.inr e.symm)) v, d2, d3⟩, h.bel.setCell (p := ⟨g, i, none⟩) hg v, h.lf, h.lb⟩
theorem law3key : Keyed Try.prog 3 := int_keyed Try.underlying3
theorem zero3 (w : World) : (zeroValue 3).run Try.prog w = .ok (.int .i64 0) w := by kernel_rfl
theorem set_pc (h : FC w0 w f b n id m) (hn : n < 1000000) (l p : Int) (hl : (Lit.int .i64 l).wf = true) (hp : (Lit.int .i64 p).wf = true) :
    Calls Try.prog 14 #[.pointer (some ⟨f, 0, none⟩), .int .i64 l, .int .i64 p] w fun e w' => e = .returned (.tuple #[]) ∧ FC w0 w' f b (n + 1) id (updI m l p) ∧ Fr (Wr f b) w w' := by
  have hne := h.ne
  have hkey := keyOf_int_mk Try.underlying3 hl
  obtain ⟨F, h1, h2, h3⟩ := h.row
  obtain ⟨D, d1, d2, d3⟩ := h.own
  have c8 := h1.cell (i := 8) (by omega)
  rw [h3] at c8
  have H1 := Lib.hid (And.intro h (And.intro h1 (And.intro h2 (And.intro h3 (And.intro d2 (And.intro d3 hne))))))
  clear h h1 h2 h3 d2 d3 hne
  go_enter Try.func14, Try.ntmps14
  go_wp2_with (first
    | (at_mapUpdate; refine wpList_mapUpdate_own _ rfl _ _ _ 45 rfl 3 3 law3key Try.underlying45 _ b n D rfl d1 (by unfold maxLen; omega) _ _ _ rfl rfl hkey _ [] (plainElem_int Try.underlying3 hp) ?_; intro w1 hown1 hgrow1)
    | go_in)
  go_end0
  obtain ⟨h, h1, h2, h3, d2, d3, hne⟩ := H1.out
  have hfr : Fr (Wr f b) w w1 := Fr.grown (o := Wr f b) (Fr.refl _ w) hgrow1 (fun k hk => by injection hk with hk; subst hk; exact .inl (.inr rfl))
  refine ⟨rfl, ⟨⟨F, grownBy_row hgrow1 h1 (fun e => hne (by injection e)), h2, h3⟩, ⟨_, hown1, ?_, fun k => ?_⟩, h.bel.trans (hfr.below h.bel.size (fun x hx => by rcases hx with rfl | rfl; exact h.lf; exact h.lb)), h.lf, h.lb⟩, hfr⟩
  · obtain ⟨es, rfl⟩ := d2; exact ⟨_, rfl⟩
  · unfold updI
    by_cases e : k = l
    · subst e
      rw [if_pos rfl, atKey_put_same d2 (by trivial)]
    · rw [if_neg e, atKey_put_other (fun e' => e (by injection e')), d3]
theorem get_pc (h : FC w0 w f b n id m) (l : Int) (hl : (Lit.int .i64 l).wf = true) :
    Calls Try.prog 15 #[.pointer (some ⟨f, 0, none⟩), .int .i64 l] w fun e w' => e = .returned (.int .i64 (m l)) ∧ w = w' := by
  have hkey := keyOf_int_mk Try.underlying3 hl
  obtain ⟨F, h1, h2, h3⟩ := h.row
  obtain ⟨D, d1, d2, d3⟩ := h.own
  have c8 := h1.cell (i := 8) (by omega)
  rw [h3] at c8
  have D3 := Lib.hid (d3 l)
  clear h h1 h2 h3 d2 d3
  go_enter Try.func15, Try.ntmps15
  go_wp2_with (first
    | (at_lookup; refine wpList_lookup_own_int _ rfl _ _ 45 rfl 3 3 .i64 law3key Try.underlying45 Try.underlying3 (zero3 _) b n D rfl d1 _ _ rfl hkey ?_; intro c hat hwc)
    | go_in)
  go_ret
  have e : c = m l := by
    have := D3.out
    rw [hat] at this
    injection this with this
    injection this
  exact ⟨by rw [← e]; rfl, rfl⟩
theorem new_label (h : FC w0 w f b n id m) (h0 : 0 ≤ id) (h1 : id < 1000000) :
    Calls Try.prog 13 #[.pointer (some ⟨f, 0, none⟩)] w fun e w' => e = .returned (.int .i64 id) ∧ FC w0 w' f b n (id + 1) m ∧ Fr (Wr f b) w w' := by
  have hne := h.ne
  obtain ⟨F, r1, r2, r3⟩ := h.row
  have c7 := r1.cell (i := 7) (by omega)
  have f7 := r1.frozen 7
  rw [r2] at c7
  have H1 := Lib.hid (And.intro h (And.intro r1 (And.intro r3 hne)))
  clear h r1 r2 r3 hne
  go_enter Try.func13, Try.ntmps13
  go_wp2
  go_ret
  obtain ⟨h, r1, r3, hne⟩ := H1.out
  obtain ⟨D, d1, d2, d3⟩ := h.own
  refine ⟨rfl, ⟨⟨_, r1.set 7 _, by simp, by simpa using r3⟩, ⟨D, d1.setCell (p := ⟨f, 7, none⟩) hne _, d2, d3⟩, h.bel.setCell (p := ⟨f, 7, none⟩) h.lf _, h.lf, h.lb⟩, Fr.setCell (o := Wr f b) (Fr.refl _ w) (p := ⟨f, 7, none⟩) (.inl (.inl rfl)) _⟩
theorem new_ctx (w : World) : Calls Try.prog 7 #[] w fun e w' => ∃ f b, e = .returned (.pointer (some ⟨f, 0, none⟩)) ∧ FC w w' f b 0 1 (fun _ => 0) := by
  have c12 := ctx_new ByteArray.empty w
  go_enter Try.func7, Try.ntmps7
  go_wp2_with fail
  refine c12.mono ?_
  rintro e w' ⟨f, rfl, hc, hb⟩
  have H := Lib.hid (And.intro hc hb)
  clear hc hb c12
  go_wp2
  go_ret
  obtain ⟨⟨F, b, q, h1, h2, h3, h4, h5, h6, h7⟩, hb⟩ := H.out
  exact ⟨f, b, rfl, ⟨F, h2, h4, h5⟩, ⟨_, h7, ⟨_, rfl⟩, fun k => rfl⟩, hb, h1, h6⟩
theorem set9 (h : FC w0 w f b n id m) (hn : n < 1000000) (l p : Int) (hl : (Lit.int .i64 l).wf = true) (hp : (Lit.int .i64 p).wf = true) :
    Calls Try.prog 9 #[.pointer (some ⟨f, 0, none⟩), .int .i64 l, .int .i64 p] w fun e w' => e = .returned (.tuple #[]) ∧ FC w0 w' f b (n + 1) id (updI m l p) ∧ Fr (Wr f b) w w' := by
  have c := set_pc h hn l p hl hp
  clear h hl hp
  go_enter Try.func9, Try.ntmps9
  go_wp2_with fail
  refine c.mono ?_
  rintro e w' ⟨rfl, h1, h2⟩
  have H := Lib.hid (And.intro h1 h2)
  clear h1 h2 c
  go_wp2
  go_end0
  exact ⟨rfl, H.out.1, H.out.2⟩
theorem get10 (h : FC w0 w f b n id m) (l : Int) (hl : (Lit.int .i64 l).wf = true) :
    Calls Try.prog 10 #[.pointer (some ⟨f, 0, none⟩), .int .i64 l] w fun e w' => e = .returned (.int .i64 (m l)) ∧ w = w' := by
  have c := get_pc h l hl
  clear h hl
  go_enter Try.func10, Try.ntmps10
  go_wp2_with fail
  refine c.mono ?_
  rintro e w' ⟨rfl, rfl⟩
  clear c
  go_wp2
  go_ret
  exact ⟨rfl, rfl⟩
theorem label8 (h : FC w0 w f b n id m) (h0 : 0 ≤ id) (h1 : id < 1000000) :
    Calls Try.prog 8 #[.pointer (some ⟨f, 0, none⟩)] w fun e w' => e = .returned (.int .i64 id) ∧ FC w0 w' f b n (id + 1) m ∧ Fr (Wr f b) w w' := by
  have c := new_label h h0 h1
  clear h
  go_enter Try.func8, Try.ntmps8
  go_wp2_with fail
  refine c.mono ?_
  rintro e w' ⟨rfl, h1, h2⟩
  have H := Lib.hid (And.intro h1 h2)
  clear h1 h2 c
  go_wp2
  go_ret
  exact ⟨rfl, H.out.1, H.out.2⟩
end
end Go.Proofs.Ytpffohonpblfkaa
