/- The context behind an entry; and what FindLocalVar and LocalVars answer. -/
import Derived.Test.YtpffohonpblfkaaFmtStep
namespace Go.Proofs.YtpffohonpblfkaaFmt
open Go.RowKit Go.ChangeShapes Go.Deep
section
variable {w0 w W : World} {f pr co gB cB gd cd : Nat} {bk : List BK} {es : List Nat} {own : Nat → Nat → Prop} {oth : Nat → Prop}
theorem cx_ent {F : Nat → Value} {bl : Nat} (h : CX w0 w f pr co gB cB gd cd bk es own oth) (hF : w.rowIs f 59 11 F) (hbl : bp bk bk.length = some ⟨bl, 0, none⟩) (hp : EntPost w f bl gB bk.length (tot bk) (bk.map BK.b) F W) :
    ∃ gB' cB' own' oth' b p, CX w0 W f pr co gB' cB' gd cd (bk ++ [⟨b, p, []⟩]) es own' oth' := by
  obtain ⟨g, cap, b, p, own1, ⟨v1, v2⟩, ⟨lb, ob, FB, b1, b2, b3⟩, fr, r1, r2, r3⟩ := hp
  obtain ⟨F', rf, a0, a1, a4, a5, a6, a9⟩ := h.row
  have eF : ∀ i, i < 11 → F i = F' i := fun i hi => by
    have a := hF.cell hi
    have b := rf.cell hi
    rw [a] at b
    exact Option.some.inj b
  obtain ⟨FP, p1, p2⟩ := h.prw
  obtain ⟨FC, c1, c2⟩ := h.cow
  have nO : ∀ y, ¬ y = gB → ¬ y = f → ¬ (y = gB ∨ y = f) := fun y h1 h2 hh => by rcases hh with hh | hh; exact h1 hh; exact h2 hh
  have tx : tot (bk ++ [⟨b, p, []⟩]) = tot bk := by simp [tot]
  have nx : allN (bk ++ [⟨b, p, []⟩]) = allN bk := by simp [allN]
  have W1 := fr.size
  have W2 := h.bel.size
  have lb1 := b1.lt
  refine ⟨g, cap, fun i y => (i = bk.length ∧ own1 y) ∨ (i ≠ bk.length ∧ own i y), fun y => oth y ∨ y = b ∨ y = g, b, p, ⟨_, r1, ?_, ?_, ?_, ?_, ?_, ?_⟩, ⟨FP, fr.row p1 (nO _ (fun e => OR.ne h.bls p1 (by decide) e.symm) (row_ne p1 hF (by decide))), p2⟩, ⟨FC, fr.row c1 (nO _ (fun e => OR.ne h.bls c1 (by decide) e.symm) (row_ne c1 hF (by decide))), c2⟩, ?_, OR.fr h.dbg fr (nO _ (OR.ne2 h.dbg h.bls (by decide)) (OR.ne h.dbg hF (by decide))), ?_, ?_, ?_, ?_, ?_, ?_, ?_, by simp, by rw [h.len, tx], ?_⟩
  · simp; rw [eF 0 (by omega)]; exact a0
  · simp; rw [eF 1 (by omega)]; exact a1
  · simp [bp]
  · simp
  · simp; rw [eF 6 (by omega), a6, tx]
  · simp; rw [eF 9 (by omega)]; exact a9
  · simpa using r2
  · intro i y hi
    by_cases hin : i < bk.length
    · rw [List.getElem?_append_left hin] at hi
      obtain ⟨⟨FB', d1, d2, d3⟩, d4, d5⟩ := h.blk i y hi
      refine ⟨⟨FB', fr.row d1 (nO _ (fun e => OR.ne h.bls d1 (by decide) e.symm) (row_ne d1 hF (by decide))), d2, by rw [d3, bp_mid (by omega)]⟩, ?_, .inl d5⟩
      rw [List.take_append_of_le_length (by omega)]
      obtain ⟨gn, cn, k⟩ := d4
      have k' : VPool w (fun z => (i = bk.length ∧ own1 z) ∨ (i ≠ bk.length ∧ own i z)) y.p (tot (bk.take i) : Nat) y.names := ⟨gn, cn, k.row, k.nm, .inr ⟨by omega, k.op⟩, .inr ⟨by omega, k.on⟩⟩
      refine k'.fr fr (fun z hz hO => ?_)
      rcases hz with ⟨hz, _⟩ | ⟨_, hz⟩
      · omega
      · rcases hO with hO | hO
        · subst hO; exact h.sep _ _ hz h.inO.2.2.2.1
        · subst hO; exact h.sep _ _ hz h.inO.1
    · rw [List.getElem?_append_right (by omega)] at hi
      have hi0 : i - bk.length = 0 := by
        rcases Nat.eq_zero_or_pos (i - bk.length) with h0 | h0
        · exact h0
        · rw [List.getElem?_eq_none (by simp; omega)] at hi; cases hi
      rw [hi0] at hi
      simp at hi
      subst hi
      have : i = bk.length := by omega
      subst this
      refine ⟨⟨FB, b1, b2, by rw [b3, bp_mid (Nat.le_refl _), hbl]⟩, ?_, .inr (.inl rfl)⟩
      obtain ⟨gn, cn, k⟩ := v1
      refine ⟨gn, cn, ?_, k.nm, .inl ⟨rfl, k.op⟩, .inl ⟨rfl, k.on⟩⟩
      simpa using k.row
  · intro i y hi
    obtain ⟨⟨FE, e1, e2⟩, e3⟩ := h.ent i y hi
    exact ⟨⟨FE, fr.row e1 (nO _ (fun e => OR.ne h.bls e1 (by decide) e.symm) (row_ne e1 hF (by decide))), by rw [e2, nx]⟩, .inl e3⟩
  · intro i j y hi hj
    rcases hi with ⟨h1, hi⟩ | ⟨h1, hi⟩ <;> rcases hj with ⟨h2, hj⟩ | ⟨h2, hj⟩
    · omega
    · have := (v2 y hi).1; have := (h.rng j y hj).2; omega
    · have := (v2 y hj).1; have := (h.rng i y hi).2; omega
    · exact h.dis _ _ _ hi hj
  · intro i y hi hy
    rcases hi with ⟨h1, hi⟩ | ⟨h1, hi⟩
    · have k := v2 y hi
      rcases hy with hy | hy | hy
      · have := (h.org y hy).2; omega
      · exact ob y hi hy
      · rcases r3 with r4 | r4
        · have := (h.org gB h.inO.2.2.2.1).2; omega
        · exact r4.2.2 y hi hy
    · have k := h.rng _ y hi
      rcases hy with hy | hy | hy
      · exact h.sep _ _ hi hy
      · omega
      · rcases r3 with r4 | r4
        · rw [hy, r4] at hi; exact h.sep _ _ hi h.inO.2.2.2.1
        · omega
  · intro i y hi
    rcases hi with ⟨h1, hi⟩ | ⟨h1, hi⟩
    · have := v2 y hi; omega
    · have := h.rng _ y hi; omega
  · intro y hy
    rcases hy with hy | hy | hy
    · have := h.org y hy; omega
    · omega
    · rcases r3 with r4 | r4
      · have := h.org gB h.inO.2.2.2.1; omega
      · omega
  · exact ⟨.inl h.inO.1, .inl h.inO.2.1, .inl h.inO.2.2.1, .inr (.inr rfl), .inl h.inO.2.2.2.2⟩
  · refine h.bel.trans (fr.below h.bel.size (fun y hy => ?_))
    rcases hy with hy | hy
    · subst hy; exact (h.org _ h.inO.2.2.2.1).1
    · subst hy; exact (h.org _ h.inO.1).1
/-! ### The last of its name -/
theorem last_nat (P : Nat → Prop) : ∀ n, (∀ i, i < n → ¬ P i) ∨ ∃ j, j < n ∧ P j ∧ ∀ i, j < i → i < n → ¬ P i := by
  intro n
  induction n with
  | zero => exact .inl (fun i hi => by omega)
  | succ n ih =>
    by_cases hp : P n
    · exact .inr ⟨n, by omega, hp, fun i h1 h2 => by omega⟩
    · rcases ih with h | ⟨j, h1, h2, h3⟩
      · exact .inl (fun i hi => by
          by_cases e : i = n
          · subst e; exact hp
          · exact h i (by omega))
      · exact .inr ⟨j, by omega, h2, fun i h4 h5 => by
          by_cases e : i = n
          · subst e; exact hp
          · exact h3 i h4 (by omega)⟩
/-- r is the place of the last q in l, or -1. -/
def Last (l : List ByteArray) (q : ByteArray) (r : Int) : Prop := (r = -1 ∧ ∀ i, i < l.length → (nth l i).toList ≠ q.toList) ∨ (∃ j : Nat, j < l.length ∧ r = j ∧ (nth l j).toList = q.toList ∧ ∀ i, j < i → i < l.length → (nth l i).toList ≠ q.toList)
theorem Last.uniq {l : List ByteArray} {q : ByteArray} {r r' : Int} (h : Last l q r) (h' : Last l q r') : r = r' := by
  rcases h with ⟨h1, h2⟩ | ⟨j, h1, h2, h3, h4⟩ <;> rcases h' with ⟨k1, k2⟩ | ⟨j', k1, k2, k3, k4⟩
  · omega
  · exact absurd k3 (h2 j' k1)
  · exact absurd h3 (k2 j h1)
  · rcases Nat.lt_trichotomy j j' with e | e | e
    · exact absurd k3 (h4 j' e k1)
    · omega
    · exact absurd h3 (k4 j e h1)
theorem nth_block {bk : List BK} {i : Nat} {x : BK} (hx : bk[i]? = some x) {j : Nat} (hj : j < x.names.length) : nth (allN bk) (tot (bk.take i) + j) = nth x.names j := by
  have hl := (List.getElem?_eq_some_iff.1 hx).1
  have e : bk = bk.take i ++ x :: bk.drop (i + 1) := by
    have h1 := List.take_append_drop i bk
    rw [List.drop_eq_getElem_cons hl] at h1
    rw [(List.getElem?_eq_some_iff.1 hx).2] at h1
    exact h1.symm
  have e2 : allN bk = allN (bk.take i) ++ (x.names ++ allN (bk.drop (i + 1))) := by
    conv => lhs; rw [e]
    simp [allN]
  rw [e2]
  unfold nth
  rw [List.getD, List.getD, List.getElem?_append_right (by rw [allN_len]; omega), allN_len, show tot (bk.take i) + j - tot (bk.take i) = j by omega, List.getElem?_append_left hj]
def FindPost (bk : List BK) (q : ByteArray) (w : World) (e : Ending) (w' : World) : Prop := ∃ (r : Int) (a : Option Addr), e = .returned (.tuple #[.int .i64 r, .pointer a]) ∧ Last (allN bk) q r ∧ w = w'
set_option maxHeartbeats 2000000 in
theorem find48 (h : CX w0 w f pr co gB cB gd cd bk es own oth) (ht : tot bk ≤ 100000) (q : ByteArray) : Calls Tryf.prog 48 #[.pointer (some ⟨f, 0, none⟩), .string q] w (FindPost bk q w) := by
  obtain ⟨F, r1, _, _, r4, _, _, _⟩ := h.row
  have c4 := r1.cell (i := 4) (by omega)
  rw [r4] at c4
  have H := Lib.hid h
  clear h r1 r4
  go_enter Tryf.func48, Tryf.ntmps48
  go_wp2
  go_loopg [6] bk.length (fun gk v6 wr => gk ≤ bk.length ∧ wr = w ∧ v6 = .pointer (bp bk gk) ∧ Hid (∀ k, tot (bk.take gk) ≤ k → k < tot bk → (nth (allN bk) k).toList ≠ q.toList))
  case atStart => exact ⟨Nat.le_refl _, rfl, rfl, Lib.hid (fun k h1 h2 => by rw [List.take_length] at h1; omega)⟩
  case round =>
    obtain ⟨hk, rfl, rfl, hh⟩ := hrel
    have HH := Lib.hid hh.out
    clear hh
    rcases Nat.eq_zero_or_pos gk with h0 | h0
    · subst h0
      rw [bp_zero]
      go_wp2
      go_ret2
      refine ⟨-1, none, rfl, .inl ⟨rfl, fun i hi => HH.out i (by simp [tot]) (by rwa [allN_len] at hi)⟩, rfl⟩
    · obtain ⟨i, rfl⟩ : ∃ i, gk = i + 1 := ⟨gk - 1, by omega⟩
      obtain ⟨x, hx⟩ : ∃ x, bk[i]? = some x := ⟨_, List.getElem?_eq_getElem (by omega)⟩
      obtain ⟨⟨FB, a1, a2, a3⟩, a4, _⟩ := H.out.blk i x hx
      have d0 := a1.cell (i := 0) (by omega)
      have d2 := a1.cell (i := 2) (by omega)
      rw [a2] at d0
      rw [a3] at d2
      have ts := tot_take_succ hx
      have tl := tot_take_le bk (i + 1)
      have HX := Lib.hid hx
      rw [bp_succ hx]
      rcases last_nat (fun j => (nth x.names j).toList = q.toList) x.names.length with hno | ⟨j, hj, hj1, hj2⟩
      · have cf := pool_find_no a4 (by omega) q hno
        have H2 : Hid (∀ k, tot (bk.take i) ≤ k → k < tot bk → (nth (allN bk) k).toList ≠ q.toList) := Lib.hid (fun k h1 h2 => by
          by_cases h3 : tot (bk.take (i + 1)) ≤ k
          · exact HH.out k h3 h2
          · have := nth_block HX.out (j := k - tot (bk.take i)) (by omega)
            rw [show tot (bk.take i) + (k - tot (bk.take i)) = k by omega] at this
            rw [this]
            exact hno _ (by omega))
        clear hx a1 a2 a3 a4 hno ts
        go_wp2_with fail
        refine cf.mono ?_
        rintro e w' ⟨rfl, rfl⟩
        clear cf
        go_wp2
        go_roundg i
        case measure => omega
        case rel => exact ⟨by omega, rfl, rfl, H2⟩
      · have cf := pool_find_yes a4 (by omega) q j hj hj1 hj2
        rw [show wrap64 ((j : Int) + (tot (bk.take i) : Nat)) = ((tot (bk.take i) + j : Nat) : Int) by rw [IntWalk.wrap64_in _ (by omega)]; omega] at cf
        obtain ⟨r, hr⟩ : ∃ r : Nat, tot (bk.take i) + j = r := ⟨_, rfl⟩
        rw [hr] at cf
        have hL : Last (allN bk) q r := .inr ⟨r, by rw [allN_len]; omega, rfl, by rw [← hr, nth_block hx hj]; exact hj1, fun k h1 h2 => by
          rw [allN_len] at h2
          by_cases h3 : tot (bk.take (i + 1)) ≤ k
          · exact HH.out k h3 h2
          · have := nth_block hx (j := k - tot (bk.take i)) (by omega)
            rw [show tot (bk.take i) + (k - tot (bk.take i)) = k by omega] at this
            rw [this]
            exact hj2 _ (by omega) (by omega)⟩
        have HL := Lib.hid hL
        clear hx a1 a2 a3 a4 hj hj1 hj2 hr hL ts
        have hr0 : (-1 : Int) < (r : Int) := by omega
        go_wp2_with fail
        refine cf.mono ?_
        rintro e w' ⟨rfl, rfl⟩
        clear cf
        go_wp2
        go_ret2
        exact ⟨r, _, rfl, HL.out, rfl⟩
end
end Go.Proofs.YtpffohonpblfkaaFmt
