/- The context at its start, behind a registration, behind an entry. Plain theorems on worlds. -/
import Derived.Test.YtpffohonpblfkaaFmtNew
namespace Go.Proofs.YtpffohonpblfkaaFmt
open Go.RowKit Go.ChangeShapes Go.Deep
theorem VPool.tight {w : World} {own : Nat → Prop} {p : Nat} {off : Int} {nm : List ByteArray} (h : VPool w own p off nm) : ∃ gn cn F, own p ∧ own gn ∧ VPool w (fun x => x = p ∨ x = gn) p off nm ∧ w.rowIs p 91 2 F ∧ OR w 9 gn nm.length cn (strsV nm) := by
  obtain ⟨gn, cn, h⟩ := h
  exact ⟨gn, cn, _, h.op, h.on, ⟨gn, cn, h.row, h.nm, .inl rfl, .inr rfl⟩, h.row, h.nm⟩
theorem bp_app {ini : List BK} {r r' : List BK} {i : Nat} (h : i ≤ ini.length) : bp (ini ++ r) i = bp (ini ++ r') i := by
  unfold bp
  by_cases h0 : i = 0
  · simp [h0]
  · rw [if_neg h0, if_neg h0, List.getElem?_append_left (by omega), List.getElem?_append_left (by omega)]
theorem bp_mid {ini r : List BK} {i : Nat} (h : i ≤ ini.length) : bp (ini ++ r) i = bp ini i := by
  have := bp_app (ini := ini) (r := r) (r' := []) h
  simpa using this
theorem nth_lt {l r : List ByteArray} {i : Nat} (h : i < l.length) : nth (l ++ r) i = nth l i := by
  simp [nth, List.getD, List.getElem?_append_left h]
theorem nth_snoc {l : List ByteArray} {x : ByteArray} : nth (l ++ [x]) l.length = x := by simp [nth, List.getD]
theorem cx_init {w w1 : World} {f : Nat} {q : Option Addr} (hc : Ctx0 w f w1) (hb : Below w.heap.size w w1) (hq : ∃ F, w1.rowIs f 59 11 F ∧ F 4 = .pointer q) :
    ∃ pr co gB cB gd cd b p own oth, CX w ((w1.setCell ⟨f, 5, none⟩ (.slice (some ⟨w1.heap.size, 0, none⟩) 1 1)).alloc (.cells #[.pointer q] 54)) f pr co gB cB gd cd [⟨b, p, []⟩] [] own oth := by
  obtain ⟨F, lf, f1, pr, co, b, p, h0, h1, h4, h6, h9, ⟨gd, gc, FP, lp, lgd, lgc, p1, p8, p11, oc, od⟩, ⟨FC, lc, c1, c2⟩, ⟨own, FB, ⟨v1, v2⟩, lb, b1, b2, b3⟩⟩ := hc
  have hq' : q = some ⟨b, 0, none⟩ := by
    obtain ⟨F', f1', h4'⟩ := hq
    have a := f1.cell (i := 4) (by omega)
    have b := f1'.cell (i := 4) (by omega)
    rw [a, h4, h4'] at b
    simpa using b.symm
  subst hq'
  obtain ⟨gn, cn, FQ, o1, o2, v3, q1, q2⟩ := v1.tight
  have A : Fr (fun x => x = f) w1 ((w1.setCell ⟨f, 5, none⟩ (.slice (some ⟨w1.heap.size, 0, none⟩) 1 1)).alloc (.cells #[.pointer (some ⟨b, 0, none⟩)] 54)) := (Fr.setCell (o := fun x => x = f) (Fr.refl _ w1) (p := ⟨f, 5, none⟩) (.inl rfl) _).alloc _
  have sz : ((w1.setCell ⟨f, 5, none⟩ (.slice (some ⟨w1.heap.size, 0, none⟩) 1 1)).alloc (.cells #[.pointer (some ⟨b, 0, none⟩)] 54)).heap.size = w1.heap.size + 1 := by simp
  have hs := hb.size
  have np : ¬ pr = f := row_ne p1 f1 (by decide)
  have nc : ¬ co = f := row_ne c1 f1 (by decide)
  have nb : ¬ b = f := row_ne b1 f1 (by decide)
  have nd : ¬ gd = f := OR.ne od f1 (by decide)
  have nq : ¬ p = f := row_ne q1 f1 (by decide)
  have ng : ¬ gn = f := OR.ne q2 f1 (by decide)
  have lf1 := f1.lt
  have lp1 := p1.lt
  have lc1 := c1.lt
  have lb1 := b1.lt
  have ld1 := od.lt'
  have lq1 := q1.lt
  have lg1 := q2.lt'
  have r5 := (f1.set 5 (.slice (some ⟨w1.heap.size, 0, none⟩) 1 1)).alloc (.cells #[.pointer (some ⟨b, 0, none⟩)] 54)
  refine ⟨pr, co, w1.heap.size, 1, gd, 16, b, p, fun i x => i = 0 ∧ (x = p ∨ x = gn), fun x => x = f ∨ x = pr ∨ x = co ∨ x = w1.heap.size ∨ x = gd ∨ x = b, ⟨_, r5, by simpa using h0, by simpa using h1, ?_, by simp, ?_, by simpa using h9⟩, ⟨_, A.row p1 np, p11⟩, ⟨_, A.row c1 nc, c2⟩, ?_, OR.fr od A nd, ?_, ?_, ?_, ?_, ?_, ?_, ?_, by simp, by simp [tot], hb.trans (A.below hs (fun x hx => by subst hx; exact lf))⟩
  · simpa [bp] using h4
  · simpa [tot] using h6
  · refine ⟨rfl, .inr ⟨_, 1, #[.pointer (some ⟨b, 0, none⟩)], rfl, Nat.zero_le _, ?_, by simp, by unfold maxLen; omega, rfl, rfl⟩⟩
    have := blk_alloc_new (w1.setCell ⟨f, 5, none⟩ (.slice (some ⟨w1.heap.size, 0, none⟩) 1 1)) (.cells #[.pointer (some ⟨b, 0, none⟩)] 54)
    simpa using this
  · intro i x hi
    cases i with
    | zero =>
      simp at hi
      subst hi
      refine ⟨⟨FB, A.row b1 nb, b2, by simpa [bp] using b3⟩, ?_, by simp⟩
      obtain ⟨gn', cn', k⟩ := v3
      have k' : VPool w1 (fun x => (0 : Nat) = 0 ∧ (x = p ∨ x = gn)) p ((tot ([] : List BK) : Nat)) [] := ⟨gn', cn', by simpa [tot] using k.row, k.nm, ⟨rfl, k.op⟩, ⟨rfl, k.on⟩⟩
      exact k'.fr A (fun y hy hyf => by rcases hy.2 with rfl | rfl; exact nq hyf; exact ng hyf)
    | succ i => simp at hi
  · intro i e hi; simp at hi
  · rintro i j x ⟨rfl, _⟩ ⟨rfl, _⟩; rfl
  · rintro i x ⟨_, hx⟩ hy
    rcases hx with rfl | rfl
    · rcases hy with h | h | h | h | h | h
      · exact nq h
      · exact row_ne q1 p1 (by decide) h
      · exact row_ne q1 c1 (by decide) h
      · omega
      · exact OR.ne od q1 (by decide) h.symm
      · exact row_ne q1 b1 (by decide) h
    · rcases hy with h | h | h | h | h | h
      · exact ng h
      · exact OR.ne q2 p1 (by decide) h
      · exact OR.ne q2 c1 (by decide) h
      · omega
      · exact OR.ne2 q2 od (by decide) h
      · exact OR.ne q2 b1 (by decide) h
  · rintro i x ⟨_, hx⟩
    rw [sz]
    rcases hx with rfl | rfl
    · have := v2 _ o1; omega
    · have := v2 _ o2; omega
  · intro x hx
    rw [sz]
    rcases hx with rfl | rfl | rfl | rfl | rfl | rfl <;> omega
  · exact ⟨.inl rfl, .inr (.inl rfl), .inr (.inr (.inl rfl)), .inr (.inr (.inr (.inl rfl))), .inr (.inr (.inr (.inr (.inl rfl))))⟩
section
variable {w0 w W : World} {f pr co gB cB gd cd : Nat} {ini : List BK} {x : BK} {es : List Nat} {own : Nat → Nat → Prop} {oth : Nat → Prop}
theorem cx_reg {F FP : Nat → Value} {name : ByteArray} (h : CX w0 w f pr co gB cB gd cd (ini ++ [x]) es own oth) (hF : w.rowIs f 59 11 F) (hFP : w.rowIs pr 50 15 FP) (hp : RegPost w f pr gd es.length x.p (own ini.length) (tot ini : Nat) x.names es F FP (tot (ini ++ [x])) name W) :
    ∃ gd' cd' es' own' oth', CX w0 W f pr co gB cB gd' cd' (ini ++ [⟨x.b, x.p, x.names ++ [name]⟩]) es' own' oth' := by
  obtain ⟨g, cap, e, m, own1, m1, m2, v1, v2, fr, r1, r2, r3, r4, r5, r6, G, g1, g2⟩ := hp
  obtain ⟨F', rf, a0, a1, a4, a5, a6, a9⟩ := h.row
  have eF : ∀ i, i < 11 → F i = F' i := fun i hi => by
    have a := hF.cell hi
    have b := rf.cell hi
    rw [a] at b
    exact Option.some.inj b
  obtain ⟨FC, c1, c2⟩ := h.cow
  have hN : (ini ++ [x])[ini.length]? = some x := by simp
  have nO : ∀ y, oth y → ¬ y = pr → ¬ y = gd → ¬ y = f → ¬ (own ini.length y ∨ y = pr ∨ y = gd ∨ y = f) := fun y hy h1 h2 h3 hh => by
    rcases hh with hh | hh | hh | hh
    · exact h.sep _ _ hh hy
    · exact h1 hh
    · exact h2 hh
    · exact h3 hh
  have tx : tot (ini ++ [⟨x.b, x.p, x.names ++ [name]⟩]) = tot (ini ++ [x]) + 1 := by simp [tot]; omega
  have nx : allN (ini ++ [⟨x.b, x.p, x.names ++ [name]⟩]) = allN (ini ++ [x]) ++ [name] := by simp [allN]
  have W1 : w.heap.size ≤ W.heap.size := Nat.le_trans m1 m2
  refine ⟨g, cap, es ++ [e], fun i y => (i = ini.length ∧ own1 y) ∨ (i ≠ ini.length ∧ own i y), fun y => oth y ∨ y = e ∨ y = g, ⟨_, r1, ?_, ?_, ?_, ?_, ?_, ?_⟩, ⟨_, r2, by simp⟩, ⟨FC, fr.row c1 (nO _ h.inO.2.2.1 (row_ne c1 hFP (by decide)) (fun e => OR.ne h.dbg c1 (by decide) e.symm) (row_ne c1 hF (by decide))), c2⟩, ?_, by simpa using r3, ?_, ?_, ?_, ?_, ?_, ?_, ?_, by simp, ?_, ?_⟩
  · simp; rw [eF 0 (by omega)]; exact a0
  · simp; rw [eF 1 (by omega)]; exact a1
  · simp only [show (4 : Nat) ≠ 6 by decide, if_false]; rw [eF 4 (by omega), a4]
    simp [bp]
  · simp only [show (5 : Nat) ≠ 6 by decide, if_false]; rw [eF 5 (by omega), a5]
    simp
  · simp only [if_true]; rw [tx]
  · simp only [show (9 : Nat) ≠ 6 by decide, if_false]; rw [eF 9 (by omega), a9]
  · have hb := h.bls
    have := OR.fr hb fr (nO _ h.inO.2.2.2.1 (OR.ne hb hFP (by decide)) (OR.ne2 hb h.dbg (by decide)) (OR.ne hb hF (by decide)))
    simpa using this
  · intro i y hi
    by_cases hin : i < ini.length
    · rw [List.getElem?_append_left hin] at hi
      obtain ⟨⟨FB, b1, b2, b3⟩, b4, b5⟩ := h.blk i y (by rw [List.getElem?_append_left hin]; exact hi)
      refine ⟨⟨FB, fr.row b1 (nO _ b5 (row_ne b1 hFP (by decide)) (fun e => OR.ne h.dbg b1 (by decide) e.symm) (row_ne b1 hF (by decide))), b2, by rw [b3, bp_app (by omega)]⟩, ?_, .inl b5⟩
      rw [List.take_append_of_le_length (by omega)] at b4 ⊢
      obtain ⟨gn, cn, k⟩ := b4
      have k' : VPool w (fun z => (i = ini.length ∧ own1 z) ∨ (i ≠ ini.length ∧ own i z)) y.p (tot (ini.take i) : Nat) y.names := ⟨gn, cn, k.row, k.nm, .inr ⟨by omega, k.op⟩, .inr ⟨by omega, k.on⟩⟩
      refine k'.fr fr (fun z hz hO => ?_)
      rcases hz with ⟨hz, _⟩ | ⟨_, hz⟩
      · omega
      · rcases hO with hO | hO | hO | hO
        · have := h.dis _ _ _ hz hO; omega
        · subst hO; exact h.sep _ _ hz h.inO.2.1
        · subst hO; exact h.sep _ _ hz h.inO.2.2.2.2
        · subst hO; exact h.sep _ _ hz h.inO.1
    · rw [List.getElem?_append_right (by omega)] at hi
      have hi0 : i - ini.length = 0 := by
        rcases Nat.eq_zero_or_pos (i - ini.length) with h0 | h0
        · exact h0
        · rw [List.getElem?_eq_none (by simp; omega)] at hi; cases hi
      rw [hi0] at hi
      simp at hi
      subst hi
      have : i = ini.length := by omega
      subst this
      obtain ⟨⟨FB, b1, b2, b3⟩, b4, b5⟩ := h.blk ini.length x hN
      refine ⟨⟨FB, fr.row b1 (nO _ b5 (row_ne b1 hFP (by decide)) (fun e => OR.ne h.dbg b1 (by decide) e.symm) (row_ne b1 hF (by decide))), b2, by rw [b3, bp_app (Nat.le_refl _)]⟩, ?_, .inl b5⟩
      obtain ⟨gn, cn, k⟩ := v1
      refine ⟨gn, cn, ?_, k.nm, .inl ⟨rfl, k.op⟩, .inl ⟨rfl, k.on⟩⟩
      simpa using k.row
  · intro i y hi
    by_cases hin : i < es.length
    · rw [List.getElem?_append_left hin] at hi
      obtain ⟨⟨FE, e1, e2⟩, e3⟩ := h.ent i y hi
      refine ⟨⟨FE, fr.row e1 (nO _ e3 (row_ne e1 hFP (by decide)) (fun e => OR.ne h.dbg e1 (by decide) e.symm) (row_ne e1 hF (by decide))), ?_⟩, .inl e3⟩
      rw [e2, nx, nth_lt (by rw [allN_len, ← h.len]; exact hin)]
    · rw [List.getElem?_append_right (by omega)] at hi
      have hi0 : i - es.length = 0 := by
        rcases Nat.eq_zero_or_pos (i - es.length) with h0 | h0
        · exact h0
        · rw [List.getElem?_eq_none (by simp; omega)] at hi; cases hi
      rw [hi0] at hi
      simp at hi
      subst hi
      refine ⟨⟨G, g1, ?_⟩, .inr (.inl rfl)⟩
      have : i = (allN (ini ++ [x])).length := by rw [allN_len, ← h.len]; omega
      rw [g2, nx, this, nth_snoc]
  · intro i j y hi hj
    rcases hi with ⟨h1, hi⟩ | ⟨h1, hi⟩ <;> rcases hj with ⟨h2, hj⟩ | ⟨h2, hj⟩
    · omega
    · rcases v2 y hi with k | k
      · have := h.dis _ _ _ k hj; omega
      · have := (h.rng j y hj).2; omega
    · rcases v2 y hj with k | k
      · have := h.dis _ _ _ k hi; omega
      · have := (h.rng i y hi).2; omega
    · exact h.dis _ _ _ hi hj
  · intro i y hi hy
    have key : (own1 y → False) ∨ (own i y → False) → True := fun _ => trivial
    rcases hi with ⟨h1, hi⟩ | ⟨h1, hi⟩
    · rcases v2 y hi with k | k
      · rcases hy with hy | hy | hy
        · exact h.sep _ _ k hy
        · have := (h.rng _ y k).2; omega
        · rcases r4 with r4 | r4
          · rw [hy, r4] at k; exact h.sep _ _ k h.inO.2.2.2.2
          · have := (h.rng _ y k).2; omega
      · rcases hy with hy | hy | hy
        · have := (h.org y hy).2; omega
        · omega
        · rcases r4 with r4 | r4
          · have := (h.org gd h.inO.2.2.2.2).2; omega
          · omega
    · rcases hy with hy | hy | hy
      · exact h.sep _ _ hi hy
      · have := (h.rng _ y hi).2; omega
      · rcases r4 with r4 | r4
        · rw [hy, r4] at hi; exact h.sep _ _ hi h.inO.2.2.2.2
        · have := (h.rng _ y hi).2; omega
  · intro i y hi
    rcases hi with ⟨h1, hi⟩ | ⟨h1, hi⟩
    · rcases v2 y hi with k | k
      · have := h.rng _ y k; omega
      · have := h.bel.size; omega
    · have := h.rng _ y hi; omega
  · intro y hy
    rcases hy with hy | hy | hy
    · have := h.org y hy; omega
    · have := h.bel.size; omega
    · rcases r4 with r4 | r4
      · have := h.org gd h.inO.2.2.2.2; omega
      · have := h.bel.size; omega
  · exact ⟨.inl h.inO.1, .inl h.inO.2.1, .inl h.inO.2.2.1, .inl h.inO.2.2.2.1, .inr (.inr rfl)⟩
  · rw [List.length_append, h.len, tx]; rfl
  · refine h.bel.trans (fr.below h.bel.size (fun y hy => ?_))
    rcases hy with hy | hy | hy | hy
    · exact (h.rng _ y hy).1
    · subst hy; exact (h.org _ h.inO.2.1).1
    · subst hy; exact (h.org _ h.inO.2.2.2.2).1
    · subst hy; exact (h.org _ h.inO.1).1
end
end Go.Proofs.YtpffohonpblfkaaFmt
