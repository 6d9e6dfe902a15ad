/- A region that draws its order, makes memory, may append once to a row that was there, and ends in a store: an invariant, slot by slot, in place of its orders. No program in sight. -/
import Derived.Test.YtpffohonpblfkaaFmtRegion
namespace Go.Proofs.YtpffohonpblfkaaFmt
open Go.RowKit Go.ChangeShapes Go.Deep
def FrA (ap : Nat) (O : Nat → Prop) (j : Nat) (w w' : World) : Prop := if j = ap then Fr O w w' else Below w.heap.size w w'
theorem FrA.fr {ap : Nat} {O : Nat → Prop} {j : Nat} {w w' : World} (h : FrA ap O j w w') : Fr O w w' := by
  unfold FrA at h
  split at h
  · exact h
  · exact Fr.of_below h O
theorem FrA.same {ap : Nat} {O : Nat → Prop} {j : Nat} (w : World) : FrA ap O j w w := by
  unfold FrA; split
  · exact Fr.refl _ _
  · exact Below.refl _ _
theorem FrA.new {ap : Nat} {O : Nat → Prop} {j : Nat} {w w' : World} (h : Below w.heap.size w w') : FrA ap O j w w' := by
  unfold FrA; split
  · exact Fr.of_below h O
  · exact h
structure Mid2 (O : Nat → Prop) (l : List Oper) (a0 : Act) (w0 : World) (a : Act) (w : World) : Prop where
  defers : a.defers = a0.defers
  size : a.tmps.size = a0.tmps.size
  free : ∀ s, (∀ i, i < l.length → dstOf l i ≠ s) → a.tmps.getD s undef = a0.tmps.getD s undef
  fr : Fr O w0 w
theorem Mid2.cell {O : Nat → Prop} {l : List Oper} {a0 a : Act} {w0 w : World} (h : Mid2 O l a0 w0 a w) {b i : Nat} {v : Value} (hc : w0.cell? ⟨b, i, none⟩ = some v) (hO : ¬ O b) : w.cell? ⟨b, i, none⟩ = some v :=
  (h.fr.cell (p := ⟨b, i, none⟩) (World.block_lt_of_cell? w0 _ hc) hO).trans hc
theorem Mid2.free' {O : Nat → Prop} {l : List Oper} {a0 a : Act} {w0 w : World} (h : Mid2 O l a0 w0 a w) (s : Nat) (hs : (List.range l.length).all (fun i => dstOf l i != s) = true) : a.tmps[s]?.getD undef = a0.tmps[s]?.getD undef := by
  rw [← getD_opt, ← getD_opt]
  refine h.free s (fun i hi e => ?_)
  rw [List.all_eq_true] at hs
  have := hs i (List.mem_range.2 hi)
  simp [e] at this
def coverB (l : List Oper) (o : Oper) : Bool := (List.range l.length).all fun j => (depsOf o).contains j || (List.range l.length).any fun i => decide (j < i) && (match l[i]? with | some x => (depsOf x).contains j | none => false)
theorem any_done {P : Program} {ops : Array Oper} {Q : Exit → Act → World → Prop} {listed : Array Bool} (h : ∀ i, i < ops.size → listed.getD i true = true) {a : Act} {w : World} (hq : Q .normal a w) : ∀ fuel, wpAny P .any ops Q fuel listed a w := by
  have hr : Region.ready .any ops listed = [] := by
    rw [List.eq_nil_iff_forall_not_mem]
    intro i hi
    rw [mem_ready] at hi
    obtain ⟨h1, o, ho, _⟩ := hi
    have := h i (Array.getElem?_eq_some_iff.1 ho).1
    rw [h1] at this
    cases this
  intro fuel
  cases fuel with
  | zero => exact ⟨hr, hq⟩
  | succ n => exact ⟨fun _ => hq, fun i hi => by rw [hr] at hi; cases hi⟩
section
variable {P : Program} {l : List Oper} {o : Oper} {Q : Exit → Act → World → Prop} {O : Nat → Prop} {ap : Nat}
theorem tail_any {a0 : Act} {w0 : World} (hg : goodB l a0.tmps.size = true) (hcov : coverB l o = true) (hogd : o.guard = none) (hon : ((depsOf o).all fun j => decide (j < l.length)) = true)
    (V : Nat → Value → World → Prop) (hV : ∀ i j v w w', i ≠ j → V i v w → FrA ap O j w w' → V i v w')
    (hstep : ∀ i x, l[i]? = some x → ∀ a w, Mid2 O l a0 w0 a w → (i = ap → Below w0.heap.size w0 w) → (∀ j, j ∈ depsOf x → V j (a.tmps[dstOf l j]?.getD undef) w) → x.wp P a w (fun a' w' => ∃ v, a' = a.put x.dst v ∧ V i v w' ∧ FrA ap O i w w') Q)
    (hlast : ∀ a w, Mid2 O l a0 w0 a w → (∀ i, i < l.length → V i (a.tmps[dstOf l i]?.getD undef) w) → o.wp P a w (fun a' w' => Q .normal a' w') Q) :
    ∀ (fuel : Nat) (listed : Array Bool) (a : Act) (w : World), listed.size = l.length + 1 → left (l.length + 1) listed ≤ fuel → listed.getD l.length true = false → (∀ (i j : Nat) x, l[i]? = some x → listed.getD i false = true → j ∈ depsOf x → listed.getD j false = true) → (listed.getD ap false = false → Below w0.heap.size w0 w) → Mid2 O l a0 w0 a w →
      (∀ i, i < l.length → listed.getD i false = true → V i (a.tmps[dstOf l i]?.getD undef) w) → wpAny P .any (l ++ [o]).toArray Q fuel listed a w := by
  have hat : ∀ i x, l[i]? = some x → (l ++ [o])[i]? = some x := fun i x h => by
    rw [List.getElem?_append_left (List.getElem?_eq_some_iff.1 h).1]; exact h
  have hdd : ∀ (listed : Array Bool) (x : Oper), (∀ e ∈ x.after, Region.binds .any e = true → listed.getD e.on false = true) → ∀ j, j ∈ depsOf x → listed.getD j false = true := by
    intro listed x h j hj
    unfold depsOf at hj
    obtain ⟨e, he, rfl⟩ := List.mem_map.1 hj
    obtain ⟨he1, he2⟩ := List.mem_filter.1 he
    exact h e (by simpa using he1) he2
  intro fuel
  induction fuel with
  | zero =>
    intro listed a w hs hle hn hdc hpre hm hv
    exfalso
    unfold left at hle
    have h0 : (List.range (l.length + 1)).countP (fun i => !listed.getD i false) = 0 := by omega
    rw [List.countP_eq_zero] at h0
    have := h0 l.length (List.mem_range.2 (by omega))
    have hlt : l.length < listed.size := by omega
    simp [Array.getD, hlt] at this hn
    rw [hn] at this
    cases this
  | succ fuel ih =>
    intro listed a w hs hle hn hdc hpre hm hv
    refine ⟨fun hr => ?_, fun i hi => ?_⟩
    · -- something is ready as long as the last is not listed
      exfalso
      have hall : ∀ i, i < l.length → listed.getD i false = true := by
        intro i
        induction i using Nat.strongRecOn with
        | ind i ihi =>
          intro hi
          obtain ⟨x, hx⟩ : ∃ x, l[i]? = some x := ⟨_, List.getElem?_eq_getElem hi⟩
          cases hl : listed.getD i false with
          | true => rfl
          | false =>
            exfalso
            have hmm : i ∈ Region.ready .any (l ++ [o]).toArray listed := by
              rw [mem_ready]
              refine ⟨?_, x, by simpa using hat i x hx, fun e he hb => ?_⟩
              · have : i < listed.size := by omega
                simp [Array.getD, this] at hl ⊢
                exact hl
              · have hj := (good_at hg hx).2.2.2.2 e.on (by
                  unfold depsOf
                  exact List.mem_map.2 ⟨e, List.mem_filter.2 ⟨by simpa using he, hb⟩, rfl⟩)
                exact ihi e.on hj (by omega)
            rw [hr] at hmm
            cases hmm
      have hmm : l.length ∈ Region.ready .any (l ++ [o]).toArray listed := by
        rw [mem_ready]
        refine ⟨hn, o, by simp, fun e he hb => ?_⟩
        by_cases hlt : e.on < l.length
        · exact hall _ hlt
        · exfalso
          rw [List.all_eq_true] at hon
          have := hon e.on (by
            unfold depsOf
            exact List.mem_map.2 ⟨e, List.mem_filter.2 ⟨by simpa using he, hb⟩, rfl⟩)
          exact hlt (by simpa using this)
      rw [hr] at hmm
      cases hmm
    · rw [mem_ready] at hi
      obtain ⟨h1, x, hx, hdep⟩ := hi
      have hx' : (l ++ [o])[i]? = some x := by simpa using hx
      have hil : i < l.length + 1 := by have := (List.getElem?_eq_some_iff.1 hx').1; simpa using this
      have hlt : i < listed.size := by omega
      have hdeps := hdd listed x hdep
      unfold wpOp
      rw [hx]
      by_cases hlast' : i = l.length
      · subst hlast'
        have hxo : x = o := by simpa using hx'.symm
        subst hxo
        have hw : Region.wanted x (yielded (l ++ [x]).toArray a.tmps) = true := by simp [Region.wanted, hogd]
        simp only [hw, if_true]
        left
        have hall : ∀ k i, l.length - i ≤ k → i < l.length → listed.getD i false = true := by
          intro k
          induction k with
          | zero => intro i h1 h2; omega
          | succ k ihk =>
            intro i h1 h2
            unfold coverB at hcov
            rw [List.all_eq_true] at hcov
            have hc := hcov i (List.mem_range.2 h2)
            rw [Bool.or_eq_true] at hc
            rcases hc with hc | hc
            · exact hdeps i (by simpa using hc)
            · rw [List.any_eq_true] at hc
              obtain ⟨m, hm1, hm2⟩ := hc
              rw [Bool.and_eq_true] at hm2
              have hm3 := List.mem_range.1 hm1
              have hlm := ihk m (by have : i < m := by simpa using hm2.1
                                    omega) hm3
              obtain ⟨y, hy⟩ : ∃ y, l[m]? = some y := ⟨_, List.getElem?_eq_getElem hm3⟩
              rw [hy] at hm2
              exact hdc m i y hy hlm (by simpa using hm2.2)
        refine Oper.wp_mono ?_ (hlast a w hm (fun i hi => hv i hi (hall _ i (Nat.le_refl _) hi)))
        intro a' w' hq
        refine any_done (fun i hi => ?_) hq fuel
        have hi' : i < l.length + 1 := by simpa using hi
        by_cases e : l.length = i
        · subst e; simp [hlt]
        · have h2 := hall _ i (Nat.le_refl _) (by omega)
          have : i < listed.size := by omega
          rw [getD_set_ne true e]
          simp [Array.getD, this] at h2 ⊢
          exact h2
      · have hil' : i < l.length := by omega
        have ho' : l[i]? = some x := by rw [List.getElem?_append_left hil'] at hx'; exact hx'
        obtain ⟨g1, g2, g3, g4, g5⟩ := good_at hg ho'
        have hw : Region.wanted x (yielded (l ++ [o]).toArray a.tmps) = true := by simp [Region.wanted, g1]
        simp only [hw, if_true]
        left
        have hli : listed.getD i false = false := by
          simp [Array.getD, hlt] at h1 ⊢
          exact h1
        refine Oper.wp_mono ?_ (hstep i x ho' a w hm (fun e => hpre (e ▸ hli)) (fun j hj => hv j (by have := g5 j hj; omega) (hdeps j hj)))
        rintro a' w' ⟨v, ha', hvi, hb⟩
        subst ha'
        rw [g2]
        have hput : ∀ s, s ≠ dstOf l i → (a.put (some (dstOf l i)) v).tmps[s]?.getD undef = a.tmps[s]?.getD undef := fun s hne => by
          simp [Act.put, Array.getElem?_setIfInBounds_ne (Ne.symm hne)]
        have hself : (a.put (some (dstOf l i)) v).tmps[dstOf l i]?.getD undef = v := by
          have : dstOf l i < a.tmps.size := by rw [hm.size]; exact g3
          simp [Act.put, this]
        refine ih _ _ _ (by simpa using hs) ?_ ?_ ?_ ?_ ⟨by simpa [Act.put] using hm.defers, by simpa [Act.put] using hm.size, fun s hs' => ?_, hm.fr.trans hb.fr (fun y hy => .inl hy)⟩ (fun j hj hlj => ?_)
        · have : left (l.length + 1) (listed.setIfInBounds i true) < left (l.length + 1) listed := by
            refine countP_lt (x := i) (List.mem_range.2 hil) ?_ ?_ ?_
            · have : listed[i] = false := by simpa [Array.getD, hlt] using h1
              simp [Array.getD, hlt, this]
            · simp [hlt]
            · intro y hy
              by_cases e : i = y
              · subst e; simp [hlt] at hy
              · simpa [Array.getElem?_setIfInBounds_ne e] using hy
          omega
        · rw [getD_set_ne true hlast']; exact hn
        · intro i' j' y hy hl' hj'
          by_cases e : i = i'
          · subst e
            rw [ho'] at hy
            cases hy
            exact getD_set_true (hdeps j' hj')
          · rw [getD_set_ne false e] at hl'
            exact getD_set_true (hdc i' j' y hy hl' hj')
        · intro hap
          by_cases e : i = ap
          · subst e; simp [hlt] at hap
          · rw [getD_set_ne false e] at hap
            unfold FrA at hb
            rw [if_neg e] at hb
            exact (hpre hap).trans (hb.mono (hpre hap).size)
        · rw [getD_opt, hput s (fun e => hs' i hil' e.symm), ← getD_opt, hm.free s hs']
        · by_cases e : j = i
          · subst e
            rw [hself]
            exact hvi
          · rw [hput _ (g4 j hj e)]
            refine hV j i _ _ _ e (hv j hj ?_) hb
            simpa [Array.getElem?_setIfInBounds_ne (Ne.symm e)] using hlj
theorem wp_region_tail {lw : List Oper} {id : Nat} {a0 : Act} {w0 : World} (n : Nat) (O : Nat → Prop) (ap : Nat) (V : Nat → Value → World → Prop) (hm : P.follows .mixedOrders = true) (hlw : lw[n]? = some o) (hlen : lw.length = n + 1) (hg : goodB (lw.take n) a0.tmps.size = true) (hcov : coverB (lw.take n) o = true) (hogd : o.guard = none)
    (hon : ((depsOf o).all fun j => decide (j < n)) = true)
    (hV : ∀ i j v w w', i ≠ j → V i v w → FrA ap O j w w' → V i v w')
    (hstep : Steps (fun i x => ∀ a w, Mid2 O (lw.take n) a0 w0 a w → (i = ap → Below w0.heap.size w0 w) → (∀ j, j ∈ depsOf x → V j (a.tmps[dstOf (lw.take n) j]?.getD undef) w) → x.wp P a w (fun a' w' => ∃ v, a' = a.put x.dst v ∧ V i v w' ∧ FrA ap O i w w') Q) 0 (lw.take n))
    (hlast : ∀ a w, Mid2 O (lw.take n) a0 w0 a w → (∀ i, i < n → V i (a.tmps[dstOf (lw.take n) i]?.getD undef) w) → o.wp P a w (fun a' w' => Q .normal a' w') Q) :
    (Code.region id lw.toArray true).wp P Q a0 w0 := by
  have hl : (lw.take n).length = n := by simp; omega
  have e : lw = lw.take n ++ [o] := by
    have h1 : lw.take (n + 1) = lw.take n ++ [o] := by rw [List.take_add_one, hlw]; rfl
    rw [← h1, List.take_of_length_le (by omega)]
  have key := tail_any (P := P) (o := o) (Q := Q) (O := O) (ap := ap) (a0 := a0) (w0 := w0) hg hcov hogd (by rw [hl]; exact hon) V hV (fun i x hx a w h1 h3 h2 => by
    have := hstep.at_ i x hx
    rw [Nat.zero_add] at this
    exact this a w h1 h3 h2) (fun a w h1 h2 => hlast a w h1 (fun i hi => h2 i (by omega)))
  refine wp_region_any hm ?_
  rw [← e] at key
  refine key _ _ _ _ (by rw [hl]; simp [hlen]) ?_ (by rw [hl]; simp [hlen]) (fun i j x hx h => by
    have : i < lw.length := by have := (List.getElem?_eq_some_iff.1 hx).1; omega
    simp [this] at h) (fun _ => below_drewN (Below.refl w0.heap.size w0) 1) ⟨rfl, rfl, fun _ _ => rfl, (Fr.refl O w0).drewN 1⟩ (fun i hi h => by
    have : i < lw.length := by omega
    simp [this] at h)
  have := List.countP_le_length (p := fun i => !(Array.replicate lw.toArray.size false).getD i false) (l := List.range ((lw.take n).length + 1))
  unfold left
  simp at this ⊢
  omega
end
end Go.Proofs.YtpffohonpblfkaaFmt
