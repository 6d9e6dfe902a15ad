/- Memory, in the words that the walks of this seat use: slices that came in, rows of the call's own, and what a call leaves as it was. Plain theorems on worlds: no program in sight. -/
import Derived.WalkKit
import Derived.ProofKit
import Derived.OpenShut
import Derived.ShutString
import Derived.ChangeOld
import Derived.Below
import Derived.SliceStrings
import Derived.Deep.Slices
import Derived.Deep.OwnRows
import Derived.Deep.Draws
import Derived.Laws.Cover2
namespace Go.Proofs.YtlpnagpdjkgbcaaFmt
open Go.ChangeShapes Go.WideShapes Go.ChangeAt Go.RowKit Go.Deep

/-! ### A slice that came in -/
/-- It is nil; or it has no element; or its elements lie at a block's cells. -/
def Arr (w : World) (A : Option Addr) (n c : Nat) (f : Nat → Value) : Prop :=
  (A = none ∧ n = 0 ∧ c = 0) ∨ (∃ x, A = some x ∧ n = 0 ∧ c ≤ maxLen) ∨
  ∃ b off, A = some ⟨b, off, none⟩ ∧ 0 < n ∧ n ≤ c ∧ c ≤ maxLen ∧ b < w.heap.size ∧ ∀ i, i < n → w.cell? ⟨b, off + i, none⟩ = some (f i)

theorem Arr.of_row {w : World} {x : Addr} {n c : Nat} {f : Nat → Value} (hl : n ≤ c) (hm : c ≤ maxLen) (hc : ∀ i, i < n → w.cell? (x.add i) = some (f i)) : Arr w (some x) n c f := by
  by_cases h0 : n = 0
  · exact .inr (.inl ⟨x, rfl, h0, hm⟩)
  · obtain ⟨b, off, spot⟩ := x
    have h1 := hc 0 (by omega)
    have hs : spot = none := by simpa [Addr.add] using World.cell?_spot h1
    subst hs
    have hlt : b < w.heap.size := by
      have := World.block_lt_of_cell? w _ h1
      simpa [Addr.add] using this
    refine .inr (.inr ⟨b, off, rfl, by omega, hl, hm, hlt, fun i hi => ?_⟩)
    have h2 := hc i hi
    have e : (⟨b, off, none⟩ : Addr).add i = ⟨b, off + i, none⟩ := by unfold Addr.add; split <;> simp_all
    rwa [e] at h2
theorem Arr.le {w : World} {A : Option Addr} {n c : Nat} {f : Nat → Value} (h : Arr w A n c f) (hn : 0 < n) : n ≤ c ∧ c ≤ maxLen := by
  rcases h with ⟨_, h, _⟩ | ⟨_, _, h, _⟩ | ⟨_, _, _, _, h1, h2, _⟩
  · omega
  · omega
  · exact ⟨h1, h2⟩
theorem Arr.len {w : World} {A : Option Addr} {n c : Nat} {f : Nat → Value} (h : Arr w A n c f) : n ≤ maxLen := by
  rcases h with ⟨_, h, _⟩ | ⟨_, _, h, _⟩ | ⟨_, _, _, _, h1, h2, _⟩ <;> omega
theorem Arr.below {w w' : World} {A : Option Addr} {n c : Nat} {f : Nat → Value} (h : Arr w A n c f) (hb : Below w.heap.size w w') : Arr w' A n c f := by
  rcases h with h | h | ⟨b, off, hA, h0, hl, hm, hlt, hc⟩
  · exact .inl h
  · exact .inr (.inl h)
  · exact .inr (.inr ⟨b, off, hA, h0, hl, hm, Nat.lt_of_lt_of_le hlt hb.size, fun i hi => (hb.cell (p := ⟨b, off + i, none⟩) hlt).trans (hc i hi)⟩)
theorem Arr.some_ {w : World} {A : Option Addr} {n c : Nat} {f : Nat → Value} (h : Arr w A n c f) : (A = none ∧ n = 0 ∧ c = 0) ∨ ∃ x, A = some x := by
  rcases h with h | ⟨x, hx, _⟩ | ⟨b, off, hA, _⟩
  · exact .inl h
  · exact .inr ⟨x, hx⟩
  · exact .inr ⟨_, hA⟩
theorem Arr.at_ {w : World} {A : Option Addr} {n c k : Nat} {f : Nat → Value} (h : Arr w A n c f) (hk : k < n) : ∃ b off, A = some ⟨b, off, none⟩ ∧ b < w.heap.size ∧ w.cell? ⟨b, off + k, none⟩ = some (f k) := by
  rcases h with ⟨_, h, _⟩ | ⟨_, _, h, _⟩ | ⟨b, off, hA, h0, hl, hm, hlt, hc⟩
  · omega
  · omega
  · exact ⟨b, off, hA, hlt, hc k hk⟩

def CameInts (k : IntKind) (w : World) (A : Option Addr) (n c : Nat) (zs : List Int) : Prop :=
  zs.length = n ∧ Arr w A n c (fun i => .int k (zs.getD i 0)) ∧ ∀ z ∈ zs, (Lit.int k z).wf = true
def CameStrs (w : World) (A : Option Addr) (n c : Nat) (ss : List ByteArray) : Prop :=
  ss.length = n ∧ Arr w A n c (fun i => .string (ss.getD i ByteArray.empty)) ∧ ∀ s ∈ ss, s.size ≤ maxLen
def CameBools (w : World) (A : Option Addr) (n c : Nat) (bs : List Bool) : Prop :=
  bs.length = n ∧ Arr w A n c (fun i => .bool (bs.getD i false))
def CameFloats (w : World) (A : Option Addr) (n c : Nat) (xs : List Nat) : Prop :=
  xs.length = n ∧ Arr w A n c (fun i => .float .f64 (xs.getD i 0)) ∧ ∀ x ∈ xs, (Lit.float .f64 x).wf = true

theorem getD_take {α : Type} (l : List α) (n i : Nat) (d : α) (h : i < n) : (l.take n).getD i d = l.getD i d := by
  simp only [List.getD, List.getElem?_take, if_pos h]

section
variable {H : Type} {enc : TypeId × Value → H} {P : Program} {w : World} {t e : TypeId} {fuel : Nat} {A : Option Addr} {n c : Nat} {x : DataW H × List MemPlace}
theorem came_ints {k : IntKind} (ht : P.underlying t = some (.slice e)) (he : P.underlying e = some (.int k)) (hc : P.cellsOf e = 1)
    (h : DataW.trod enc P w 0 (fun _ => true) true fuel t [.slice A n c] = some x) : ∃ zs, CameInts k w A n c zs := by
  rcases open_ints ht he hc h with ⟨hcs, _⟩ | ⟨a, l, c', zs, hcs, _, hl, hm, hz, _, hcell, hwz⟩
  · simp at hcs
    obtain ⟨rfl, rfl, rfl⟩ := hcs
    exact ⟨[], rfl, .inl ⟨rfl, rfl, rfl⟩, by simp⟩
  · simp at hcs
    obtain ⟨rfl, rfl, rfl⟩ := hcs
    simp only [if_true] at hz
    refine ⟨zs.take n, by simp; omega, Arr.of_row hl hm fun i hi => ?_, fun z hz' => hwz z (List.mem_of_mem_take hz')⟩
    rw [hcell i (by omega), getD_take _ _ _ _ hi]
theorem came_strs (ht : P.underlying t = some (.slice e)) (he : P.underlying e = some .string) (hc : P.cellsOf e = 1)
    (h : DataW.trod enc P w 0 (fun _ => true) true fuel t [.slice A n c] = some x) : ∃ ss, CameStrs w A n c ss := by
  rcases open_strings ht he hc h with ⟨hcs, _⟩ | ⟨a, l, c', ss, hcs, _, hl, hm, hz, _, hcell, hwz⟩
  · simp at hcs
    obtain ⟨rfl, rfl, rfl⟩ := hcs
    exact ⟨[], rfl, .inl ⟨rfl, rfl, rfl⟩, by simp⟩
  · simp at hcs
    obtain ⟨rfl, rfl, rfl⟩ := hcs
    simp only [if_true] at hz
    refine ⟨ss.take n, by simp; omega, Arr.of_row hl hm fun i hi => ?_, fun z hz' => hwz z (List.mem_of_mem_take hz')⟩
    rw [hcell i (by omega), getD_take _ _ _ _ hi]
theorem came_bools (ht : P.underlying t = some (.slice e)) (he : P.underlying e = some .bool) (hc : P.cellsOf e = 1)
    (h : DataW.trod enc P w 0 (fun _ => true) true fuel t [.slice A n c] = some x) : ∃ bs, CameBools w A n c bs := by
  rcases open_slice1 ht hc h with ⟨hcs, _⟩ | ⟨a, l, c', m, f, V, D, Pl, hcs, _, hl, hm, hmm, _, hx⟩
  · simp at hcs
    obtain ⟨rfl, rfl, rfl⟩ := hcs
    exact ⟨[], rfl, .inl ⟨rfl, rfl, rfl⟩⟩
  · simp at hcs
    obtain ⟨rfl, rfl, rfl⟩ := hcs
    simp only [if_true] at hmm
    subst hmm
    obtain ⟨B, hB⟩ := choose_lt (α := Bool) (p := fun i b => V i = .bool b) (fun i hi => by
      obtain ⟨b, h1, _⟩ := DataW.trod_bool he (hx i hi).2
      exact ⟨b, by simpa using h1⟩)
    refine ⟨(List.range n).map B, by simp, Arr.of_row hl hm fun i hi => ?_⟩
    rw [(hx i (by omega)).1, hB i (by omega)]
    simp [List.getD, List.getElem?_map, List.getElem?_range hi]
theorem came_floats (ht : P.underlying t = some (.slice e)) (he : P.underlying e = some (.float .f64)) (hc : P.cellsOf e = 1)
    (h : DataW.trod enc P w 0 (fun _ => true) true fuel t [.slice A n c] = some x) : ∃ xs, CameFloats w A n c xs := by
  rcases open_slice1 ht hc h with ⟨hcs, _⟩ | ⟨a, l, c', m, f, V, D, Pl, hcs, _, hl, hm, hmm, _, hx⟩
  · simp at hcs
    obtain ⟨rfl, rfl, rfl⟩ := hcs
    exact ⟨[], rfl, .inl ⟨rfl, rfl, rfl⟩, by simp⟩
  · simp at hcs
    obtain ⟨rfl, rfl, rfl⟩ := hcs
    simp only [if_true] at hmm
    subst hmm
    obtain ⟨B, hB⟩ := choose_lt (α := Nat) (p := fun i b => V i = .float .f64 b ∧ (Lit.float .f64 b).wf = true) (fun i hi => by
      have hf := (hx i hi).2
      cases f with
      | zero => simp [DataW.trod] at hf
      | succ q =>
        simp only [DataW.trod, he] at hf
        cases hV : V i <;> simp [hV] at hf
        rename_i k b
        obtain ⟨⟨rfl, hw⟩, _⟩ := hf
        exact ⟨b, rfl, hw⟩)
    refine ⟨(List.range n).map B, by simp, Arr.of_row hl hm fun i hi => ?_, fun y hy => ?_⟩
    · rw [(hx i (by omega)).1, (hB i (by omega)).1]
      simp [List.getD, List.getElem?_map, List.getElem?_range hi]
    · obtain ⟨i, hi, rfl⟩ := List.mem_map.1 hy
      exact (hB i (by have := List.mem_range.1 hi; omega)).2
end

/-! ### What a call may turn: the blocks that it owns, and new ones -/
structure Fr (own : Nat → Prop) (w w' : World) : Prop where
  os : w'.os = w.os
  tape : w'.tape = w.tape
  output : w'.output = w.output
  size : w.heap.size ≤ w'.heap.size
  block : ∀ k, k < w.heap.size → ¬ own k → w'.heap[k]? = w.heap[k]?
section
variable {o o' : Nat → Prop} {w w' w'' : World}
theorem Fr.refl (o : Nat → Prop) (w : World) : Fr o w w := ⟨rfl, rfl, rfl, Nat.le_refl _, fun _ _ _ => rfl⟩
theorem Fr.trans (h : Fr o w w') (k : Fr o' w' w'') (ho : ∀ x, o' x → o x ∨ w.heap.size ≤ x) : Fr o w w'' :=
  ⟨k.os.trans h.os, k.tape.trans h.tape, k.output.trans h.output, Nat.le_trans h.size k.size, fun i hi hn =>
    (k.block i (Nat.lt_of_lt_of_le hi h.size) (fun hx => by rcases ho i hx with h1 | h1 <;> first | exact hn h1 | omega)).trans (h.block i hi hn)⟩
theorem Fr.mono (h : Fr o w w') (ho : ∀ x, o x → o' x ∨ w.heap.size ≤ x) : Fr o' w w' :=
  ⟨h.os, h.tape, h.output, h.size, fun i hi hn => h.block i hi (fun hx => by rcases ho i hx with h1 | h1 <;> first | exact hn h1 | omega)⟩
theorem Fr.below {B : Nat} (h : Fr o w w') (hB : B ≤ w.heap.size) (ho : ∀ x, o x → B ≤ x) : Below B w w' :=
  ⟨h.os, h.tape, h.output, h.size, fun i hi => h.block i (by omega) (fun hx => by have := ho i hx; omega)⟩
theorem Fr.of_below (h : Below w.heap.size w w') (o : Nat → Prop) : Fr o w w' := ⟨h.os, h.tape, h.output, h.size, fun i hi _ => h.block i hi⟩
theorem Fr.drew (h : Fr o w w') : Fr o w w'.drew := ⟨h.os, h.tape, h.output, h.size, h.block⟩
theorem Fr.drewN (h : Fr o w w') (n : Nat) : Fr o w (w'.drewN n) := ⟨h.os, h.tape, h.output, h.size, h.block⟩
theorem Fr.alloc (h : Fr o w w') (ob : Obj) : Fr o w (w'.alloc ob) :=
  ⟨h.os, h.tape, h.output, Nat.le_trans h.size (by simp), fun i hi hn => (Below.heap_alloc w' ob i (Nat.lt_of_lt_of_le hi h.size)).trans (h.block i hi hn)⟩
theorem Fr.setCell (h : Fr o w w') {p : Addr} (hp : o p.block ∨ w.heap.size ≤ p.block) (u : Value) : Fr o w (w'.setCell p u) :=
  ⟨h.os, h.tape, h.output, by simpa [World.setCell] using h.size, fun i hi hn => (Below.heap_setCell w' p u i (by
    rintro rfl
    rcases hp with hp | hp
    · exact hn hp
    · omega)).trans (h.block i hi hn)⟩
theorem Fr.grown {row : Option Nat} (h : Fr o w w') (hg : w'.grownBy w'' row) (hr : ∀ k, row = some k → o k ∨ w.heap.size ≤ k) : Fr o w w'' :=
  ⟨hg.os.trans h.os, hg.tape.trans h.tape, hg.output.trans h.output, Nat.le_trans h.size hg.size, fun i hi hn =>
    (hg.block i (Nat.lt_of_lt_of_le hi h.size) (fun e => by rcases hr i e.symm with h1 | h1 <;> first | exact hn h1 | omega)).trans (h.block i hi hn)⟩
theorem Fr.cell {p : Addr} (h : Fr o w w') (hp : p.block < w.heap.size) (hn : ¬ o p.block) : w'.cell? p = w.cell? p := World.cell?_of_block (w := w) (h.block p.block hp hn)
theorem Fr.row {b : Nat} {t : TypeId} {n : Nat} {f : Nat → Value} (h : Fr o w w') (hr : w.rowIs b t n f) (hn : ¬ o b) : w'.rowIs b t n f := hr.of_block (h.block b hr.lt hn)
theorem Fr.own {base : Nat} {e : TypeId} {size n : Nat} {v : Value} {xs : List Value} (h : Fr o w w') (hr : w.ownsRow base e size v n xs) (hn : ∀ k, v.ownBlock = some k → ¬ o k) : w'.ownsRow base e size v n xs := by
  refine ⟨hr.1, ?_⟩
  rcases hr.2 with h0 | ⟨g, cap, cur, rfl, hb, hg, rest⟩
  · exact .inl h0
  · exact .inr ⟨g, cap, cur, rfl, hb, (h.block g (Array.getElem?_eq_some_iff.1 hg).1 (hn g rfl)).trans hg, rest⟩
theorem Below.row {B b : Nat} {t : TypeId} {n : Nat} {f : Nat → Value} (h : Below B w w') (hr : w.rowIs b t n f) (hb : b < B) : w'.rowIs b t n f := hr.of_block (h.block b hb)
theorem grownBy_row {row : Option Nat} {b : Nat} {t : TypeId} {n : Nat} {f : Nat → Value} (hg : w.grownBy w' row) (hr : w.rowIs b t n f) (hn : row ≠ some b) : w'.rowIs b t n f := hr.of_block (hg.block b hr.lt (fun e => hn e.symm))
end

/-! ### A slice of the call's own, whole: nil, or a row from its head on -/
def Own (w : World) (B : Nat) (e : TypeId) (A : Option Addr) (n : Nat) (f : Nat → Value) : Prop :=
  (A = none ∧ n = 0) ∨ ∃ g, A = some ⟨g, 0, none⟩ ∧ B ≤ g ∧ w.rowIs g e n f
section
variable {w w' : World} {B n : Nat} {e : TypeId} {A : Option Addr} {f : Nat → Value}
theorem Own.at_ {k : Nat} (h : Own w B e A n f) (hk : k < n) : ∃ g, A = some ⟨g, 0, none⟩ ∧ B ≤ g ∧ g < w.heap.size ∧ w.rowIs g e n f := by
  rcases h with ⟨_, h⟩ | ⟨g, hA, hB, hr⟩
  · omega
  · exact ⟨g, hA, hB, hr.lt, hr⟩
theorem Own.congr {f' : Nat → Value} (h : Own w B e A n f) (he : ∀ i, i < n → f i = f' i) : Own w B e A n f' := by
  rcases h with h | ⟨g, hA, hB, hr⟩
  · exact .inl h
  · exact .inr ⟨g, hA, hB, hr.congr he⟩
theorem Own.below {B' : Nat} (h : Own w B e A n f) (hb : Below B' w w') (hB : w.heap.size ≤ B') : Own w' B e A n f := by
  rcases h with h | ⟨g, hA, hB', hr⟩
  · exact .inl h
  · exact .inr ⟨g, hA, hB', Below.row hb hr (Nat.lt_of_lt_of_le hr.lt hB)⟩
theorem Own.fr {o : Nat → Prop} (h : Own w B e A n f) (hb : Fr o w w') (hn : ∀ g, A = some ⟨g, 0, none⟩ → ¬ o g) : Own w' B e A n f := by
  rcases h with h | ⟨g, hA, hB', hr⟩
  · exact .inl h
  · exact .inr ⟨g, hA, hB', hb.row hr (hn g hA)⟩
end

/-! ### Answers of which only a part is said -/
def SomeB (P : Prop) (w : World) (e : Ending) (w' : World) : Prop := ∃ b : Bool, e = .returned (.bool b) ∧ w = w' ∧ (b = true → P)
def SomeI (w : World) (e : Ending) (w' : World) : Prop := ∃ q : Int, e = .returned (.int .i64 q) ∧ w = w'
theorem below_drewN {B : Nat} {a w : World} (h : Below B a w) (n : Nat) : Below B a (w.drewN n) := ⟨h.os, h.tape, h.output, h.size, h.block⟩
theorem Own.drewN {w : World} {B n : Nat} {e : TypeId} {A : Option Addr} {f : Nat → Value} (h : Own w B e A n f) (k : Nat) : Own (w.drewN k) B e A n f := h
end Go.Proofs.YtlpnagpdjkgbcaaFmt
