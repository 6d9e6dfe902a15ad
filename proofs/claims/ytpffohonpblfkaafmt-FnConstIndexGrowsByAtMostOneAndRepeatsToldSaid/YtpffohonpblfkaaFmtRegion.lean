/- A region that draws its order and makes memory: an invariant, slot by slot, in place of its orders. No program in sight. -/
import Derived.Test.YtpffohonpblfkaaFmtHp
import Derived.Test.YtpffohonpblfkaaFmtOr
import Derived.Orders
import Derived.WalkKit
namespace Go.Proofs.YtpffohonpblfkaaFmt
open Go.RowKit Go.ChangeShapes Go.Deep
def dstOf (l : List Oper) (i : Nat) : Nat := ((l[i]?).bind (·.dst)).getD 0
def depsOf (o : Oper) : List Nat := (o.after.toList.filter (fun e => Region.binds .any e)).map (·.on)
def goodB (l : List Oper) (n : Nat) : Bool := (List.range l.length).all fun i =>
  match l[i]? with
  | some o => o.guard.isNone && (match o.dst with
      | some d => decide (d < n) && (List.range l.length).all (fun j => j == i || dstOf l j != d)
      | none => false) && (depsOf o).all (fun j => decide (j < i))
  | none => false
/-- What stands in the midst of such a region. -/
structure Mid (l : List Oper) (a0 : Act) (w0 : World) (a : Act) (w : World) : Prop where
  defers : a.defers = a0.defers
  size : a.tmps.size = a0.tmps.size
  free : ∀ s, (∀ i, i < l.length → dstOf l i ≠ s) → a.tmps.getD s undef = a0.tmps.getD s undef
  bel : Below w0.heap.size w0 w
theorem good_at {l : List Oper} {n i : Nat} {o : Oper} (h : goodB l n = true) (ho : l[i]? = some o) : o.guard = none ∧ o.dst = some (dstOf l i) ∧ dstOf l i < n ∧ (∀ j, j < l.length → j ≠ i → dstOf l j ≠ dstOf l i) ∧ ∀ j, j ∈ depsOf o → j < i := by
  have hi : i < l.length := (List.getElem?_eq_some_iff.1 ho).1
  unfold goodB at h
  rw [List.all_eq_true] at h
  have h1 := h i (List.mem_range.2 hi)
  rw [ho] at h1
  simp only [Bool.and_eq_true] at h1
  obtain ⟨⟨h2, h3⟩, h4⟩ := h1
  have h2' : o.guard = none := by simpa using h2
  cases hd : o.dst with
  | none => rw [hd] at h3; cases h3
  | some d =>
    rw [hd] at h3
    simp only [Bool.and_eq_true, decide_eq_true_eq, List.all_eq_true] at h3
    have e : dstOf l i = d := by simp [dstOf, ho, hd]
    refine ⟨h2', by rw [e], by rw [e]; exact h3.1, fun j hj hne => ?_, fun j hj => ?_⟩
    · have := h3.2 j (List.mem_range.2 hj)
      rw [e]
      simpa [hne] using this
    · rw [List.all_eq_true] at h4
      simpa using h4 j hj
def left (n : Nat) (listed : Array Bool) : Nat := (List.range n).countP (fun i => !listed.getD i false)
theorem countP_lt {α : Type} {p q : α → Bool} {l : List α} {x : α} (hx : x ∈ l) (hp : p x = true) (hq : q x = false) (h : ∀ y, q y = true → p y = true) : l.countP q < l.countP p := by
  induction l with
  | nil => cases hx
  | cons y l ih =>
    have hle : l.countP q ≤ l.countP p := List.countP_mono_left (fun z _ hz => h z hz)
    rw [List.countP_cons, List.countP_cons]
    rcases List.mem_cons.1 hx with rfl | hx
    · simp [hp, hq]; omega
    · have := ih hx
      by_cases hy : q y = true
      · simp [hy, h y hy]; omega
      · simp [hy]; omega
section
variable {P : Program} {l : List Oper} {Q : Exit → Act → World → Prop}
theorem inv_any {a0 : Act} {w0 : World} (hg : goodB l a0.tmps.size = true)
    (V : Nat → Value → World → Prop) (hV : ∀ i v w w', V i v w → Below w.heap.size w w' → V i v w')
    (hstep : ∀ i o, l[i]? = some o → ∀ a w, Mid l a0 w0 a w → (∀ j, j ∈ depsOf o → V j (a.tmps.getD (dstOf l j) undef) w) → o.wp P a w (fun a' w' => ∃ v, a' = a.put o.dst v ∧ V i v w' ∧ Below w.heap.size w w') Q)
    (hend : ∀ a w, Mid l a0 w0 a w → (∀ i, i < l.length → V i (a.tmps.getD (dstOf l i) undef) w) → Q .normal a w) :
    ∀ (fuel : Nat) (listed : Array Bool) (a : Act) (w : World), listed.size = l.length → left l.length listed ≤ fuel → Mid l a0 w0 a w → (∀ i, i < l.length → listed.getD i false = true → V i (a.tmps.getD (dstOf l i) undef) w) →
      wpAny P .any l.toArray Q fuel listed a w := by
  have hall : ∀ (listed : Array Bool), listed.size = l.length → Region.ready .any l.toArray listed = [] → ∀ i, i < l.length → listed.getD i false = true := by
    intro listed hs hr i
    induction i using Nat.strongRecOn with
    | ind i ih =>
      intro hi
      obtain ⟨o, ho⟩ : ∃ o, l[i]? = some o := ⟨_, List.getElem?_eq_getElem hi⟩
      cases hl : listed.getD i false with
      | true => rfl
      | false =>
        exfalso
        have hm : i ∈ Region.ready .any l.toArray listed := by
          rw [mem_ready]
          refine ⟨?_, o, by simpa using ho, fun e he hb => ?_⟩
          · have : i < listed.size := by omega
            simp [Array.getD, this] at hl ⊢
            exact hl
          · have hj := (good_at hg ho).2.2.2.2 e.on (by
              unfold depsOf
              exact List.mem_map.2 ⟨e, List.mem_filter.2 ⟨by simpa using he, hb⟩, rfl⟩)
            exact ih e.on hj (by omega)
        rw [hr] at hm
        cases hm
  have hdone : ∀ (listed : Array Bool) (a : Act) (w : World), (∀ i, i < l.length → listed.getD i false = true) → Mid l a0 w0 a w → (∀ i, i < l.length → listed.getD i false = true → V i (a.tmps.getD (dstOf l i) undef) w) → Q .normal a w :=
    fun listed a w h1 h2 h3 => hend a w h2 (fun i hi => h3 i hi (h1 i hi))
  intro fuel
  induction fuel with
  | zero =>
    intro listed a w hs hle hm hv
    have hx : ∀ i, i < l.length → listed.getD i false = true := by
      intro i hi
      unfold left at hle
      have h0 : (List.range l.length).countP (fun i => !listed.getD i false) = 0 := by omega
      rw [List.countP_eq_zero] at h0
      have := h0 i (List.mem_range.2 hi)
      simpa using this
    refine ⟨?_, hdone listed a w hx hm hv⟩
    rw [List.eq_nil_iff_forall_not_mem]
    intro i hi
    rw [mem_ready] at hi
    obtain ⟨h1, o, ho, _⟩ := hi
    have hil : i < l.length := by
      have := (Array.getElem?_eq_some_iff.1 ho).1
      simpa using this
    have h2 := hx i hil
    have : i < listed.size := by omega
    simp [Array.getD, this] at h1 h2
    rw [h1] at h2
    cases h2
  | succ fuel ih =>
    intro listed a w hs hle hm hv
    refine ⟨fun hr => hdone listed a w (hall listed hs hr) hm hv, fun i hi => ?_⟩
    rw [mem_ready] at hi
    obtain ⟨h1, o, ho, hdep⟩ := hi
    have ho' : l[i]? = some o := by simpa using ho
    have hil : i < l.length := (List.getElem?_eq_some_iff.1 ho').1
    have hlt : i < listed.size := by omega
    obtain ⟨g1, g2, g3, g4, g5⟩ := good_at hg ho'
    unfold wpOp
    rw [ho]
    have hw : Region.wanted o (yielded l.toArray a.tmps) = true := by simp [Region.wanted, g1]
    simp only [hw, if_true]
    left
    have hs1 := hstep i o ho' a w hm (fun j hj => by
      unfold depsOf at hj
      obtain ⟨e, he, rfl⟩ := List.mem_map.1 hj
      obtain ⟨he1, he2⟩ := List.mem_filter.1 he
      exact hv e.on (by have := g5 e.on hj; omega) (hdep e (by simpa using he1) he2))
    refine Oper.wp_mono ?_ hs1
    rintro a' w' ⟨v, ha', hvi, hb⟩
    subst ha'
    rw [g2]
    have hput : ∀ s, s ≠ dstOf l i → (a.put (some (dstOf l i)) v).tmps.getD s undef = a.tmps.getD s undef := fun s hne => by
      simp [Act.put, Array.getElem?_setIfInBounds_ne (Ne.symm hne)]
    have hself : (a.put (some (dstOf l i)) v).tmps.getD (dstOf l i) undef = v := by
      have : dstOf l i < a.tmps.size := by rw [hm.size]; exact g3
      simp [Act.put, this]
    refine ih _ _ _ (by simpa using hs) ?_ ⟨by simpa [Act.put] using hm.defers, by simpa [Act.put] using hm.size, fun s hs' => ?_, hm.bel.trans (hb.mono hm.bel.size)⟩ (fun j hj hlj => ?_)
    · have : left l.length (listed.setIfInBounds i true) < left l.length listed := by
        refine countP_lt (List.mem_range.2 hil) ?_ ?_ ?_
        · have : listed[i] = false := by simpa [Array.getD, hlt] using h1
          simp [Array.getD, hlt, this]
        · simp [hlt]
        · intro y hy
          by_cases e : i = y
          · subst e; simp [hlt] at hy
          · simpa [Array.getElem?_setIfInBounds_ne e] using hy
      omega
    · rw [hput s (fun e => hs' i hil e.symm), hm.free s hs']
    · by_cases e : j = i
      · subst e
        rw [hself]
        exact hvi
      · rw [hput _ (g4 j hj e)]
        refine hV j _ _ _ (hv j hj ?_) hb
        simpa [Array.getElem?_setIfInBounds_ne (Ne.symm e)] using hlj
theorem wp_region_inv {id : Nat} {a0 : Act} {w0 : World} (hm : P.follows .mixedOrders = true) (hg : goodB l a0.tmps.size = true)
    (V : Nat → Value → World → Prop) (hV : ∀ i v w w', V i v w → Below w.heap.size w w' → V i v w')
    (hstep : ∀ i o, l[i]? = some o → ∀ a w, Mid l a0 w0 a w → (∀ j, j ∈ depsOf o → V j (a.tmps.getD (dstOf l j) undef) w) → o.wp P a w (fun a' w' => ∃ v, a' = a.put o.dst v ∧ V i v w' ∧ Below w.heap.size w w') Q)
    (hend : ∀ a w, Mid l a0 w0 a w → (∀ i, i < l.length → V i (a.tmps.getD (dstOf l i) undef) w) → Q .normal a w) :
    (Code.region id l.toArray true).wp P Q a0 w0 := by
  refine wp_region_any hm (inv_any (a0 := a0) (w0 := w0) hg V hV hstep hend _ _ _ _ (by simp) ?_ ⟨rfl, rfl, fun _ _ => rfl, below_drewN (Below.refl w0.heap.size w0) 1⟩ (fun i hi h => by simp [hi] at h))
  have : left l.length (Array.replicate l.toArray.size false) ≤ (List.range l.length).length := List.countP_le_length
  simpa using this
end
/-- The steps of a region, one after another of its list. -/
def Steps (f : Nat → Oper → Prop) : Nat → List Oper → Prop
  | _, [] => True
  | k, o :: l => f k o ∧ Steps f (k + 1) l
theorem Steps.at_ {f : Nat → Oper → Prop} {l : List Oper} : ∀ {k : Nat}, Steps f k l → ∀ i o, l[i]? = some o → f (k + i) o := by
  induction l with
  | nil => intro k _ i o h; simp at h
  | cons x l ih =>
    intro k h i o hi
    cases i with
    | zero => simp at hi; subst hi; exact h.1
    | succ i => have := ih h.2 i o (by simpa using hi); rwa [show k + 1 + i = k + (i + 1) by omega] at this
theorem getD_opt (t : Array Value) (s : Nat) : t.getD s undef = t[s]?.getD undef := by simp
theorem wp_region_steps {P : Program} {l : List Oper} {Q : Exit → Act → World → Prop} {id : Nat} {a0 : Act} {w0 : World} (hm : P.follows .mixedOrders = true) (hg : goodB l a0.tmps.size = true)
    (V : Nat → Value → World → Prop) (hV : ∀ i v w w', V i v w → Below w.heap.size w w' → V i v w')
    (hstep : Steps (fun i o => ∀ a w, Mid l a0 w0 a w → (∀ j, j ∈ depsOf o → V j (a.tmps[dstOf l j]?.getD undef) w) → o.wp P a w (fun a' w' => ∃ v, a' = a.put o.dst v ∧ V i v w' ∧ Below w.heap.size w w') Q) 0 l)
    (hend : ∀ a w, Mid l a0 w0 a w → (∀ i, i < l.length → V i (a.tmps[dstOf l i]?.getD undef) w) → Q .normal a w) :
    (Code.region id l.toArray true).wp P Q a0 w0 :=
  wp_region_inv hm hg V hV (fun i o ho a w h1 h2 => by
    have := hstep.at_ i o ho
    rw [Nat.zero_add] at this
    exact this a w h1 (fun j hj => by rw [← getD_opt]; exact h2 j hj)) (fun a w h1 h2 => hend a w h1 (fun i hi => by rw [← getD_opt]; exact h2 i hi))
theorem Mid.free' {l : List Oper} {a0 a : Act} {w0 w : World} (h : Mid l a0 w0 a w) (s : Nat) (hs : (List.range l.length).all (fun i => dstOf l i != s) = true) : a.tmps[s]?.getD undef = a0.tmps[s]?.getD undef := by
  rw [← getD_opt, ← getD_opt]
  refine h.free s (fun i hi e => ?_)
  rw [List.all_eq_true] at hs
  have := hs i (List.mem_range.2 hi)
  simp [e] at this
theorem step_value {P : Program} {o : Oper} {a : Act} {w w' : World} {K : Act → World → Prop} {Q : Exit → Act → World → Prop} {v : Value} (h : (execOp a.eval o).run P w = .ok (.value v) w') (hK : K (a.put o.dst v) w') : o.wp P a w K Q := by
  unfold Oper.wp; rw [h]; exact hK
theorem step_call {P : Program} {o : Oper} {a : Act} {w : World} {f : FuncId} {args : Array Value} {K : Act → World → Prop} {Q : Exit → Act → World → Prop} (h : (execOp a.eval o).run P w = .ok (.enter f args) w) (hc : Calls P f args w fun e w' => ∃ v, e = .returned v ∧ K (a.put o.dst v) w') : o.wp P a w K Q := by
  unfold Oper.wp; rw [h]
  exact Calls.mono hc (fun e w' ⟨v, he, hk⟩ => by subst he; exact hk)
/-- A make in such a region, of which only the kind of its value is said. -/
theorem step_make {P : Program} {a : Act} {w : World} {Q : Exit → Act → World → Prop} {o : Oper} (t e : TypeId) (c : Nat) (ho : o.op = .makeSlice t (.const (.int .i64 0)) (.const (.int .i64 (c : Int)))) (ht : P.underlying t = some (.slice e))
    (hinfo : (P.info? e).map (fun i => (i.zero.isSome, decide (i.bytes * c ≤ 281474976710656), decide (c ≤ 9223372036854775807))) = some (true, true, true)) :
    o.wp P a w (fun a' w' => ∃ v, a' = a.put o.dst v ∧ (∃ A n c, v = .slice A n c) ∧ Below w.heap.size w w') Q := by
  obtain ⟨i, hi, hzz⟩ := Option.map_eq_some_iff.1 hinfo
  simp only [Prod.mk.injEq, decide_eq_true_eq] at hzz
  obtain ⟨hz, hb, hc⟩ := hzz
  obtain ⟨z, hz⟩ := Option.isSome_iff_exists.1 hz
  have hb' : (i.bytes : Int) * (c : Int) ≤ 281474976710656 := by
    have h : ((i.bytes * c : Nat) : Int) ≤ 281474976710656 := by omega
    rwa [Int.natCast_mul] at h
  have hr := run_make (P := P) w t e i z ht hi hz .i64 .i64 0 c (by omega) (by omega) hb' (by omega)
  refine step_value (v := .slice (some ⟨w.heap.size, 0, none⟩) (0 : Int).toNat (c : Int).toNat) (w' := w.alloc (.cells (madeCells z.cells ((c : Int).toNat * i.size)) e)) ?_ ⟨_, rfl, ⟨_, _, _, rfl⟩, (Below.refl _ _).alloc (Nat.le_refl _) _⟩
  simp only [execOp, ho, Act.eval, Sem.run_bind, hr, Result.andThen_ok]
  rfl
/-- .. of a slice of one-cell elements, owned whole. -/
theorem step_make_own {P : Program} {a : Act} {w : World} {Q : Exit → Act → World → Prop} {o : Oper} (t e : TypeId) (z : Value) (bytes c : Nat) (ho : o.op = .makeSlice t (.const (.int .i64 0)) (.const (.int .i64 (c : Int)))) (ht : P.underlying t = some (.slice e))
    (hinfo : (P.info? e).map (fun i => (i.zero, i.size, i.bytes)) = some (some z, 1, bytes)) (hz1 : z.cells = #[z]) (hbytes : bytes * c ≤ 281474976710656) (h63 : c ≤ maxLen) :
    o.wp P a w (fun a' w' => ∃ v, a' = a.put o.dst v ∧ (∃ g, v = .slice (some ⟨g, 0, none⟩) 0 c ∧ w.heap.size ≤ g ∧ OR w' e g 0 c []) ∧ Below w.heap.size w w') Q := by
  have hm := h63
  unfold maxLen at hm
  obtain ⟨C, hC, hmk⟩ := or_make (P := P) t e z bytes ht hinfo hz1 c hbytes (by omega)
  refine step_value (v := .slice (some ⟨w.heap.size, 0, none⟩) 0 c) (w' := w.alloc (.cells C e)) ?_ ⟨_, rfl, ⟨_, rfl, Nat.le_refl _, ⟨rfl, .inr ⟨_, c, C, rfl, Nat.zero_le _, blk_alloc_new _ _, Nat.zero_le _, h63, by rw [hC]; omega, rfl⟩⟩⟩, (Below.refl _ _).alloc (Nat.le_refl _) _⟩
  simp only [execOp, ho, Act.eval, Sem.run_bind, hmk, Result.andThen_ok]
  rfl
end Go.Proofs.YtpffohonpblfkaaFmt
