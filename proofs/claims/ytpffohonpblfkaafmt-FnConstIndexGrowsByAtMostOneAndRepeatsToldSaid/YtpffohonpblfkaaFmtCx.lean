/- A context with its blocks and their pools of names: what memory holds, and what the reading functions answer. -/
import Derived.Test.YtpffohonpblfkaaFmtPool
import Derived.Test.YtpffohonpblfkaaFmtOr
import Derived.WalkLawsBesides
import Derived.Laws.EntriesVeiled
import Derived.Deep.LoopGhost
import Derived.IntWalk
namespace Go.Proofs.YtpffohonpblfkaaFmt
open Go.RowKit Go.ChangeShapes Go.Deep
structure BK where
  b : Nat
  p : Nat
  names : List ByteArray
def tot (bk : List BK) : Nat := (bk.map fun x => x.names.length).sum
def allN (bk : List BK) : List ByteArray := (bk.map fun x => x.names).flatten
theorem tot_append (a b : List BK) : tot (a ++ b) = tot a + tot b := by simp [tot]
theorem allN_len (bk : List BK) : (allN bk).length = tot bk := by simp [allN, tot, List.length_flatten, Function.comp_def]
theorem allN_append (a b : List BK) : allN (a ++ b) = allN a ++ allN b := by simp [allN]
theorem tot_take_succ {bk : List BK} {i : Nat} {x : BK} (h : bk[i]? = some x) : tot (bk.take (i + 1)) = tot (bk.take i) + x.names.length := by
  rw [List.take_add_one, h, tot_append]; simp [tot]
theorem tot_take_le (bk : List BK) (i : Nat) : tot (bk.take i) ≤ tot bk := by
  have := tot_append (bk.take i) (bk.drop i)
  rw [List.take_append_drop] at this
  omega
/-- The pointer to block i - 1, nil at i = 0. -/
def bp (bk : List BK) (i : Nat) : Option Addr := if i = 0 then none else (bk[i - 1]?).map fun x => ⟨x.b, 0, none⟩
theorem bp_zero (bk : List BK) : bp bk 0 = none := rfl
theorem bp_succ {bk : List BK} {i : Nat} {x : BK} (h : bk[i]? = some x) : bp bk (i + 1) = some ⟨x.b, 0, none⟩ := by simp [bp, h]
def ptrs (l : List Nat) : List Value := l.map fun e => .pointer (some ⟨e, 0, none⟩)
structure CX (w0 w : World) (f pr co gB cB gd cd : Nat) (bk : List BK) (es : List Nat) (own : Nat → Nat → Prop) (oth : Nat → Prop) : Prop where
  row : ∃ F, w.rowIs f 59 11 F ∧ F 0 = .pointer (some ⟨pr, 0, none⟩) ∧ F 1 = .pointer (some ⟨co, 0, none⟩) ∧ F 4 = .pointer (bp bk bk.length) ∧ F 5 = .slice (some ⟨gB, 0, none⟩) bk.length cB ∧ F 6 = .int .i64 (tot bk) ∧ F 9 = .int .i64 0
  prw : ∃ F, w.rowIs pr 50 15 F ∧ F 11 = .slice (some ⟨gd, 0, none⟩) es.length cd
  cow : ∃ F, w.rowIs co 73 3 F ∧ F 2 = .int .i64 0
  bls : OR w 54 gB bk.length cB (ptrs (bk.map BK.b))
  dbg : OR w 70 gd es.length cd (ptrs es)
  blk : ∀ (i : Nat) x, bk[i]? = some x → (∃ F, w.rowIs x.b 85 8 F ∧ F 0 = .pointer (some ⟨x.p, 0, none⟩) ∧ F 2 = .pointer (bp bk i)) ∧ VPool w (own i) x.p (tot (bk.take i)) x.names ∧ oth x.b
  ent : ∀ (i : Nat) e, es[i]? = some e → (∃ F, w.rowIs e 69 3 F ∧ F 0 = .string (nth (allN bk) i)) ∧ oth e
  dis : ∀ i j x, own i x → own j x → i = j
  sep : ∀ i x, own i x → oth x → False
  rng : ∀ i x, own i x → w0.heap.size ≤ x ∧ x < w.heap.size
  org : ∀ x, oth x → w0.heap.size ≤ x ∧ x < w.heap.size
  inO : oth f ∧ oth pr ∧ oth co ∧ oth gB ∧ oth gd
  pos : 0 < bk.length
  len : es.length = tot bk
  bel : Below w0.heap.size w0 w
theorem VPool.fr {o own : Nat → Prop} {w w' : World} {p : Nat} {off : Int} {names : List ByteArray} (h : VPool w own p off names) (hf : Fr o w w') (ho : ∀ x, own x → ¬ o x) : VPool w' own p off names := by
  obtain ⟨gn, cn, h⟩ := h
  exact ⟨gn, cn, ⟨hf.row h.row (ho _ h.op), hf.own h.nm (fun k hk => by simp [Value.ownBlock] at hk; subst hk; exact ho _ h.on), h.op, h.on⟩⟩
theorem OR.fr {o : Nat → Prop} {w w' : World} {e : TypeId} {g n cap : Nat} {l : List Value} (h : OR w e g n cap l) (hf : Fr o w w') (ho : ¬ o g) : OR w' e g n cap l :=
  hf.own h (fun k hk => by simp [Value.ownBlock] at hk; subst hk; exact ho)
theorem row_ne {w : World} {b b' : Nat} {e e' : TypeId} {n n' : Nat} {f f' : Nat → Value} (h : w.rowIs b e n f) (h' : w.rowIs b' e' n' f') (hne : e ≠ e') : b ≠ b' := by
  rintro rfl
  obtain ⟨c, hc, _⟩ := h
  obtain ⟨c', hc', _⟩ := h'
  rw [hc] at hc'
  simp at hc'
  exact hne hc'.2
theorem OR.ne {w : World} {b' : Nat} {e e' : TypeId} {g n cap n' : Nat} {l : List Value} {f' : Nat → Value} (h : OR w e g n cap l) (h' : w.rowIs b' e' n' f') (hne : e ≠ e') : g ≠ b' := by
  obtain ⟨_, h1 | ⟨g', cap', cur, h1, _, hg, _⟩⟩ := h
  · simp at h1
  · simp at h1
    obtain ⟨rfl, _⟩ := h1
    rintro rfl
    obtain ⟨c', hc', _⟩ := h'
    rw [hg] at hc'
    simp at hc'
    exact hne hc'.2
theorem OR.ne2 {w : World} {e e' : TypeId} {g n cap g2 n2 cap2 : Nat} {l l2 : List Value} (h : OR w e g n cap l) (h' : OR w e' g2 n2 cap2 l2) (hne : e ≠ e') : g ≠ g2 := by
  obtain ⟨_, h1 | ⟨g', cap', cur, h1, _, hg, _⟩⟩ := h
  · simp at h1
  obtain ⟨_, h2 | ⟨g3, cap3, cur3, h2, _, hg3, _⟩⟩ := h'
  · simp at h2
  · simp at h1 h2
    obtain ⟨rfl, _⟩ := h1
    obtain ⟨rfl, _⟩ := h2
    rintro rfl
    rw [hg] at hg3
    simp at hg3
    exact hne hg3.2
section
variable {w0 w w' : World} {f pr co gB cB gd cd : Nat} {bk : List BK} {es : List Nat} {own : Nat → Nat → Prop} {oth : Nat → Prop}
theorem CX.below (h : CX w0 w f pr co gB cB gd cd bk es own oth) (hb : Below w.heap.size w w') : CX w0 w' f pr co gB cB gd cd bk es own oth := by
  have hf : Fr (fun x => w.heap.size ≤ x) w w' := Fr.of_below hb _
  have hr : ∀ {b e n F}, w.rowIs b e n F → w'.rowIs b e n F := fun hr => Below.row hb hr hr.lt
  obtain ⟨F, r1, r2⟩ := h.row
  obtain ⟨F2, p1, p2⟩ := h.prw
  obtain ⟨F3, c1, c2⟩ := h.cow
  refine ⟨⟨F, hr r1, r2⟩, ⟨F2, hr p1, p2⟩, ⟨F3, hr c1, c2⟩, OR.below h.bls hb h.bls.lt', OR.below h.dbg hb h.dbg.lt', fun i x hi => ?_, fun i e hi => ?_, h.dis, h.sep, fun i x hx => ?_, fun x hx => ?_, h.inO, h.pos, h.len, h.bel.trans (hb.mono h.bel.size)⟩
  · obtain ⟨⟨F, a1, a2⟩, a3, a4⟩ := h.blk i x hi
    exact ⟨⟨F, hr a1, a2⟩, a3.fr hf (fun y hy hyo => by have := (h.rng i y hy).2; omega), a4⟩
  · obtain ⟨⟨F, a1, a2⟩, a4⟩ := h.ent i e hi
    exact ⟨⟨F, hr a1, a2⟩, a4⟩
  · have := h.rng i x hx; have := hb.size; omega
  · have := h.org x hx; have := hb.size; omega
theorem CX.drewN (h : CX w0 w f pr co gB cB gd cd bk es own oth) (m : Nat) : CX w0 (w.drewN m) f pr co gB cB gd cd bk es own oth := h.below (below_drewN (Below.refl _ _) m)
theorem top37 (h : CX w0 w f pr co gB cB gd cd bk es own oth) : Calls Tryf.prog 37 #[.pointer (some ⟨f, 0, none⟩)] w fun e w' => e = .returned (.int .i64 (tot bk)) ∧ w = w' := by
  obtain ⟨F, r1, _, _, _, _, r6, _⟩ := h.row
  have c6 := r1.cell (i := 6) (by omega)
  rw [r6] at c6
  clear h r1 r6
  go_enter Tryf.func37, Tryf.ntmps37
  go_wp2
  go_ret
  exact ⟨rfl, rfl⟩
theorem pc44 (h : CX w0 w f pr co gB cB gd cd bk es own oth) : Calls Tryf.prog 44 #[.pointer (some ⟨co, 0, none⟩)] w fun e w' => e = .returned (.int .i64 (-1)) ∧ w = w' := by
  obtain ⟨F, r1, r6⟩ := h.cow
  have c6 := r1.cell (i := 2) (by omega)
  rw [r6] at c6
  clear h r1 r6
  go_enter Tryf.func44, Tryf.ntmps44
  go_wp2
  go_ret
  exact ⟨rfl, rfl⟩
theorem names46 {o : Nat → Prop} {p : Nat} {off : Int} {names : List ByteArray} (h : VPool w o p off names) : Calls Tryf.prog 46 #[.pointer (some ⟨p, 0, none⟩)] w fun e w' => (∃ g c, e = .returned (.slice (some ⟨g, 0, none⟩) names.length c)) ∧ w = w' := by
  obtain ⟨gn, cn, h⟩ := h
  exact (pool_names h).mono fun e w' ⟨he, hw⟩ => ⟨⟨gn, cn, he⟩, hw⟩
theorem count35 (h : CX w0 w f pr co gB cB gd cd bk es own oth) (ht : tot bk ≤ 1000000) : Calls Tryf.prog 35 #[.pointer (some ⟨f, 0, none⟩)] w fun e w' => e = .returned (.int .i64 (tot bk)) ∧ w = w' := by
  obtain ⟨F, r1, _, _, r4, _, _, _⟩ := h.row
  have c4 := r1.cell (i := 4) (by omega)
  rw [r4] at c4
  have H := Lib.hid h
  clear h r1 r4
  go_enter Tryf.func35, Tryf.ntmps35
  go_wp2
  go_loopg [3, 4] bk.length (fun gk v3 v4 wr => gk ≤ bk.length ∧ wr = w ∧ v4 = .pointer (bp bk gk) ∧ ∃ s : Nat, s + tot (bk.take gk) = tot bk ∧ v3 = .int .i64 s)
  case atStart => exact ⟨Nat.le_refl _, rfl, rfl, 0, by simp, rfl⟩
  case round =>
    obtain ⟨hk, rfl, rfl, s, hs, rfl⟩ := hrel
    rcases Nat.eq_zero_or_pos gk with h0 | h0
    · subst h0
      rw [bp_zero]
      have e : s = tot bk := by simpa [tot] using hs
      have HE := Lib.hid e
      clear hs e
      go_wp2
      go_ret
      exact ⟨by rw [HE.out]; rfl, rfl⟩
    · obtain ⟨i, rfl⟩ : ∃ i, gk = i + 1 := ⟨gk - 1, by omega⟩
      obtain ⟨x, hx⟩ : ∃ x, bk[i]? = some x := ⟨_, List.getElem?_eq_getElem (by omega)⟩
      obtain ⟨⟨F, a1, a2, a3⟩, a4, _⟩ := H.out.blk i x hx
      have d0 := a1.cell (i := 0) (by omega)
      have d2 := a1.cell (i := 2) (by omega)
      rw [a2] at d0
      rw [a3] at d2
      have cn := names46 a4
      rw [bp_succ hx]
      rw [tot_take_succ hx] at hs
      obtain ⟨ln, hln⟩ : ∃ ln, x.names.length = ln := ⟨_, rfl⟩
      rw [hln] at cn hs
      have HS := Lib.hid hs
      have hb1 : s + ln ≤ 1000000 := by omega
      clear a1 a2 a3 a4 hx hs hln
      go_wp2_with fail
      refine cn.mono ?_
      rintro e w' ⟨⟨g, c, rfl⟩, rfl⟩
      clear cn
      go_wp2
      go_roundg i
      case measure => omega
      case rel => exact ⟨by omega, rfl, rfl, s + ln, by have := HS.out; omega, by go_num⟩
end
end Go.Proofs.YtpffohonpblfkaaFmt
