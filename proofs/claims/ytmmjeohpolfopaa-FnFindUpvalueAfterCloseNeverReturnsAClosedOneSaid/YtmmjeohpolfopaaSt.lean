/- The open upvalues of a state, as a list of blocks and indices: what the state holds, what an insertion, a cut and a closing leave of it. Plain theorems on worlds. -/
import Derived.Test.YtmmjeohpolfopaaProg
import Derived.Test.YtmmjeohpolfopaaHp
import Derived.Test.YtmmjeohpolfopaaOr
import Derived.Test.YtmmjeohpolfopaaMath
import Derived.WalkKit
import Derived.Lib.Hide
import Derived.OpenShut
import Derived.Handy
namespace Go.Proofs.Ytmmjeohpolfopaa
open Go.RowKit Go.ChangeShapes Go.Deep
def ad (o : Option Nat) : Option Addr := o.map fun u => ⟨u, 0, none⟩
def ndF (nx : Option Nat) (r : Nat) (k : Int) (c : Bool) (i : Nat) : Value := if i = 0 then .pointer (ad nx) else if i = 1 then .pointer (some ⟨r, 0, none⟩) else if i = 2 then .int .i64 k else if i = 3 then .nilIface else .bool c
/-- An upvalue. -/
def ND (w : World) (u : Nat) (nx : Option Nat) (r : Nat) (k : Int) (c : Bool) : Prop := w.rowIs u 47 5 (ndF nx r k c)
/-- The state's own block. -/
def LS (w : World) (L r : Nat) (q : Option Nat) : Prop := ∃ f, w.rowIs L 68 23 f ∧ f 13 = .pointer (some ⟨r, 0, none⟩) ∧ f 18 = .pointer (ad q)
def RGN (w : World) (r g N : Nat) : Prop := ∃ f, w.rowIs r 54 6 f ∧ f 0 = .slice (some ⟨g, 0, none⟩) N N
abbrev Nodes := List (Nat × Int)
def pt (us : Nodes) (i : Nat) : Option Nat := (us[i]?).map Prod.fst
structure St (w0 w : World) (L r g N : Nat) (us ds : Nodes) : Prop where
  ls : LS w L r (pt us 0)
  rg : RGN w r g N
  arr : w.rowIs g 45 N (fun _ => .nilIface)
  nodes : ∀ j v k, us[j]? = some (v, k) → ND w v (pt us (j + 1)) r k false
  dead : ∀ v k, (v, k) ∈ ds → ∃ nx, ND w v nx r k true
  asc : Asc (us.map Prod.snd)
  idx : ∀ v k, (v, k) ∈ us → 0 ≤ k ∧ k < N
  bel : Below w0.heap.size w0 w
  lL : w0.heap.size ≤ L
  lus : ∀ v k, (v, k) ∈ us → w0.heap.size ≤ v
  hN : N ≤ 65536
/-- What may be written: the state's block and the open upvalues. -/
def Wr (L : Nat) (us : Nodes) (x : Nat) : Prop := x = L ∨ ∃ k, (x, k) ∈ us
theorem row_ne {w : World} {b b' : Nat} {e e' : TypeId} {n n' : Nat} {f f' : Nat → Value} (h : w.rowIs b e n f) (h' : w.rowIs b' e' n' f') (hne : e ≠ e') : b ≠ b' := by
  rintro rfl
  obtain ⟨c, hc, _⟩ := h
  obtain ⟨c', hc', _⟩ := h'
  rw [hc] at hc'
  simp at hc'
  exact hne hc'.2
theorem ND.inj {w : World} {u r r' : Nat} {nx nx' : Option Nat} {k k' : Int} {c c' : Bool} (h : ND w u nx r k c) (h' : ND w u nx' r' k' c') : k = k' ∧ c = c' := by
  have a2 := World.rowIs.cell h (i := 2) (by omega)
  have b2 := World.rowIs.cell h' (i := 2) (by omega)
  have a4 := World.rowIs.cell h (i := 4) (by omega)
  have b4 := World.rowIs.cell h' (i := 4) (by omega)
  rw [a2] at b2
  rw [a4] at b4
  simp [ndF] at b2 b4
  exact ⟨b2, b4⟩
section
variable {w0 w w' : World} {L r g N : Nat} {us ds : Nodes}
theorem mem_at {us : Nodes} {j : Nat} {v : Nat} {k : Int} (h : us[j]? = some (v, k)) : (v, k) ∈ us := List.mem_of_getElem? h
theorem at_mem {us : Nodes} {v : Nat} {k : Int} (h : (v, k) ∈ us) : ∃ j : Nat, us[j]? = some (v, k) := List.getElem?_of_mem h
theorem pt_some {us : Nodes} {j v : Nat} {k : Int} (h : us[j]? = some (v, k)) : pt us j = some v := by simp [pt, h]
theorem pt_none {us : Nodes} {j : Nat} (h : us[j]? = none) : pt us j = none := by simp [pt, h]
theorem asc_at {us : Nodes} (h : Asc (us.map Prod.snd)) {i j : Nat} {v v' : Nat} {k k' : Int} (hi : us[i]? = some (v, k)) (hj : us[j]? = some (v', k')) (hij : i < j) : k < k' := by
  unfold Asc at h
  rw [List.pairwise_iff_getElem] at h
  obtain ⟨li, ei⟩ := List.getElem?_eq_some_iff.1 hi
  obtain ⟨lj, ej⟩ := List.getElem?_eq_some_iff.1 hj
  have := h i j (by simpa using li) (by simpa using lj) hij
  simpa [ei, ej] using this
theorem asc_uniq {us : Nodes} (h : Asc (us.map Prod.snd)) {i j : Nat} {v v' : Nat} {k : Int} (hi : us[i]? = some (v, k)) (hj : us[j]? = some (v', k)) : i = j := by
  rcases Nat.lt_trichotomy i j with h1 | h1 | h1
  · have := asc_at h hi hj h1; omega
  · exact h1
  · have := asc_at h hj hi h1; omega
theorem St.node (h : St w0 w L r g N us ds) {v : Nat} {k : Int} (hm : (v, k) ∈ us) : ∃ nx, ND w v nx r k false := by
  obtain ⟨j, hj⟩ := at_mem hm
  exact ⟨_, h.nodes j v k hj⟩
theorem St.uniq (h : St w0 w L r g N us ds) {i j v : Nat} {k k' : Int} (hi : us[i]? = some (v, k)) (hj : us[j]? = some (v, k')) : i = j ∧ k = k' := by
  obtain ⟨e, _⟩ := (h.nodes i v k hi).inj (h.nodes j v k' hj)
  subst e
  exact ⟨asc_uniq h.asc hi hj, rfl⟩
theorem St.dead_ne (h : St w0 w L r g N us ds) {v : Nat} {k k' : Int} (hm : (v, k) ∈ us) (hd : (v, k') ∈ ds) : False := by
  obtain ⟨nx, h1⟩ := h.node hm
  obtain ⟨nx', h2⟩ := h.dead v k' hd
  have := (h1.inj h2).2
  cases this
theorem St.ne_L (h : St w0 w L r g N us ds) {v : Nat} {nx : Option Nat} {r' : Nat} {k : Int} {c : Bool} (hn : ND w v nx r' k c) : v ≠ L := by
  obtain ⟨f, hf, _⟩ := h.ls
  exact row_ne hn hf (by decide)
theorem St.ne_r (h : St w0 w L r g N us ds) {v : Nat} {nx : Option Nat} {r' : Nat} {k : Int} {c : Bool} (hn : ND w v nx r' k c) : v ≠ r ∧ v ≠ g := by
  obtain ⟨f, hf, _⟩ := h.rg
  exact ⟨row_ne hn hf (by decide), row_ne hn h.arr (by decide)⟩
theorem St.L_ne (h : St w0 w L r g N us ds) : L ≠ r ∧ L ≠ g := by
  obtain ⟨f, hf, _⟩ := h.ls
  obtain ⟨f', hf', _⟩ := h.rg
  exact ⟨row_ne hf hf' (by decide), row_ne hf h.arr (by decide)⟩
/-- A row of another kind is none of what may be written. -/
theorem St.other (h : St w0 w L r g N us ds) {b n : Nat} {e : TypeId} {f : Nat → Value} (hr : w.rowIs b e n f) (h68 : e ≠ 68) (h47 : e ≠ 47) : ¬ Wr L us b := by
  rintro (rfl | ⟨k, hk⟩)
  · obtain ⟨f', hf, _⟩ := h.ls
    exact row_ne hr hf h68 rfl
  · obtain ⟨nx, hn⟩ := h.node hk
    exact row_ne hr hn h47 rfl
theorem St.drewN (h : St w0 w L r g N us ds) (m : Nat) : St w0 (w.drewN m) L r g N us ds :=
  ⟨h.ls, h.rg, h.arr, h.nodes, h.dead, h.asc, h.idx, below_drewN h.bel m, h.lL, h.lus, h.hN⟩
theorem ND.fr {o : Nat → Prop} {u : Nat} {nx : Option Nat} {k : Int} {c : Bool} (h : ND w u nx r k c) (hf : Fr o w w') (hn : ¬ o u) : ND w' u nx r k c := hf.row h hn
theorem Fr.bel {o : Nat → Prop} (hb : Below w0.heap.size w0 w) (h : Fr o w w') (ho : ∀ x, o x → w0.heap.size ≤ x) : Below w0.heap.size w0 w' := hb.trans (h.below hb.size ho)
theorem St.below (h : St w0 w L r g N us ds) (hb : Below w.heap.size w w') : St w0 w' L r g N us ds := by
  obtain ⟨f, hf, h1, h2⟩ := h.ls
  obtain ⟨f', hf', h3⟩ := h.rg
  exact ⟨⟨f, Below.row hb hf hf.lt, h1, h2⟩, ⟨f', Below.row hb hf' hf'.lt, h3⟩, Below.row hb h.arr h.arr.lt,
    fun j v k hj => Below.row hb (h.nodes j v k hj) (World.rowIs.lt (h.nodes j v k hj)),
    fun v k hv => by obtain ⟨nx, hn⟩ := h.dead v k hv; exact ⟨nx, Below.row hb hn (World.rowIs.lt hn)⟩,
    h.asc, h.idx, h.bel.trans (hb.mono h.bel.size), h.lL, h.lus, h.hN⟩
/-- A row beside, written or new: the state stands as it stood. -/
theorem St.fr {o : Nat → Prop} (h : St w0 w L r g N us ds) (hb : Fr o w w') (ho : ∀ x, o x → w0.heap.size ≤ x) (h1 : ∀ x, o x → w.heap.size ≤ x ∨ ∃ e n f, w.rowIs x e n f ∧ e ≠ 68 ∧ e ≠ 47 ∧ e ≠ 54 ∧ e ≠ 45) : St w0 w' L r g N us ds := by
  obtain ⟨f, hf, h11, h12⟩ := h.ls
  obtain ⟨f', hf', h3⟩ := h.rg
  have key : ∀ {b e n f}, w.rowIs b e n f → (e = 68 ∨ e = 47 ∨ e = 54 ∨ e = 45) → ¬ o b := by
    intro b e n f hr he hob
    rcases h1 b hob with h2 | ⟨e', n', f', hr', a1, a2, a3, a4⟩
    · have := hr.lt; omega
    · refine row_ne hr hr' ?_ rfl
      rintro rfl
      rcases he with rfl | rfl | rfl | rfl <;> contradiction
  exact ⟨⟨f, hb.row hf (key hf (by simp)), h11, h12⟩, ⟨f', hb.row hf' (key hf' (by simp)), h3⟩, hb.row h.arr (key h.arr (by simp)),
    fun j v k hj => hb.row (h.nodes j v k hj) (key (h.nodes j v k hj) (by simp)),
    fun v k hv => by obtain ⟨nx, hn⟩ := h.dead v k hv; exact ⟨nx, hb.row hn (key hn (by simp))⟩,
    h.asc, h.idx, Fr.bel h.bel hb ho, h.lL, h.lus, h.hN⟩
/-! ### An insertion -/
def put (us : Nodes) (i u : Nat) (k : Int) : Nodes := us.take i ++ (u, k) :: us.drop i
theorem put_at {us : Nodes} {i u : Nat} {k : Int} (hi : i ≤ us.length) (j : Nat) : (put us i u k)[j]? = if j < i then us[j]? else if j = i then some (u, k) else us[j - 1]? := by
  unfold put
  by_cases h1 : j < i
  · rw [if_pos h1, List.getElem?_append_left (by simp; omega), List.getElem?_take, if_pos h1]
  · rw [if_neg h1, List.getElem?_append_right (by simp; omega)]
    have hl : (us.take i).length = i := by simp; omega
    rw [hl]
    by_cases h2 : j = i
    · subst h2; simp
    · rw [if_neg h2]
      obtain ⟨m, rfl⟩ : ∃ m, j = i + m + 1 := ⟨j - i - 1, by omega⟩
      rw [show i + m + 1 - i = m + 1 by omega, List.getElem?_cons_succ, List.getElem?_drop]
      congr 1
theorem put_mem {us : Nodes} {i u : Nat} {k : Int} {x : Nat × Int} : x ∈ put us i u k ↔ x = (u, k) ∨ x ∈ us := by
  have e : x ∈ us ↔ x ∈ us.take i ∨ x ∈ us.drop i := by
    rw [← List.mem_append, List.take_append_drop]
  rw [e]
  simp only [put, List.mem_append, List.mem_cons]
  constructor
  · rintro (h | h | h) <;> simp [h]
  · rintro (h | h | h) <;> simp [h]
theorem put_asc {us : Nodes} {i u : Nat} {k : Int} (h : Asc (us.map Prod.snd)) (hlt : ∀ j v k', j < i → us[j]? = some (v, k') → k' < k) (hgt : ∀ j v k', i ≤ j → us[j]? = some (v, k') → k < k') : Asc ((put us i u k).map Prod.snd) := by
  unfold Asc at h ⊢
  have e : us = us.take i ++ us.drop i := (List.take_append_drop i us).symm
  rw [e, List.map_append, List.pairwise_append] at h
  unfold put
  rw [List.map_append, List.map_cons, List.pairwise_append, List.pairwise_cons]
  refine ⟨h.1, ⟨?_, h.2.1⟩, ?_⟩
  · intro a ha
    obtain ⟨⟨v, k'⟩, hm, rfl⟩ := List.mem_map.1 ha
    obtain ⟨j, hj⟩ := List.getElem?_of_mem hm
    rw [List.getElem?_drop] at hj
    exact hgt _ v k' (by omega) hj
  · intro a ha b hb
    rcases List.mem_cons.1 hb with rfl | hb
    · obtain ⟨⟨v, k'⟩, hm, rfl⟩ := List.mem_map.1 ha
      obtain ⟨j, hj⟩ := List.getElem?_of_mem hm
      rw [List.getElem?_take] at hj
      split at hj
      · exact hlt j v k' (by assumption) hj
      · cases hj
    · exact h.2.2 a ha b hb
theorem put_snd {us : Nodes} {i u : Nat} {k : Int} (hi : i ≤ us.length) (hlt : ∀ j v k', j < i → us[j]? = some (v, k') → k' < k) (hgt : ∀ j v k', i ≤ j → us[j]? = some (v, k') → k < k') : (put us i u k).map Prod.snd = ins k (us.map Prod.snd) := by
  induction i generalizing us with
  | zero =>
    cases us with
    | nil => simp [put, ins]
    | cons x l =>
      have := hgt 0 x.1 x.2 (Nat.le_refl _) (by simp)
      simp only [put, List.take_zero, List.drop_zero, List.nil_append, List.map_cons]
      rw [ins, if_neg (by omega), if_neg (by omega)]
  | succ i ih =>
    cases us with
    | nil => simp at hi
    | cons x l =>
      have h1 := hlt 0 x.1 x.2 (by omega) (by simp)
      have h2 := ih (us := l) (by simpa using hi) (fun j v k' hj h => hlt (j + 1) v k' (by omega) (by simpa using h)) (fun j v k' hj h => hgt (j + 1) v k' (by omega) (by simpa using h))
      simp only [put, List.take_succ_cons, List.drop_succ_cons, List.cons_append, List.map_cons] at h2 ⊢
      rw [ins, if_pos h1, ← h2]
/-- An insertion: the new node, and what points to it. -/
theorem St.ins (h : St w0 w L r g N us ds) {i u : Nat} {k : Int} (hi : i ≤ us.length) (hlt : ∀ j v k', j < i → us[j]? = some (v, k') → k' < k) (hgt : ∀ j v k', i ≤ j → us[j]? = some (v, k') → k < k')
    (hk0 : 0 ≤ k) (hkN : k < N) (hu : w.heap.size ≤ u) (hnew : ND w' u (pt us i) r k false) (o : Nat → Prop) (hf : Fr o w w')
    (ho : (i = 0 ∧ (∀ x, o x → x = L) ∧ LS w' L r (some u)) ∨ (∃ j v kv, i = j + 1 ∧ us[j]? = some (v, kv) ∧ (∀ x, o x → x = v) ∧ ND w' v (some u) r kv false)) :
    St w0 w' L r g N (put us i u k) ds := by
  have hoL : ∀ x, o x → Wr L us x := by
    intro x hx
    rcases ho with ⟨_, h1, _⟩ | ⟨j, v, kv, _, hj, h1, _⟩
    · exact .inl (h1 x hx)
    · have := h1 x hx
      subst this
      exact .inr ⟨kv, mem_at hj⟩
  have hn : ∀ {b e n f}, w.rowIs b e n f → e ≠ 68 → e ≠ 47 → w'.rowIs b e n f := fun hr h1 h2 => hf.row hr (fun hx => h.other hr h1 h2 (hoL _ hx))
  refine ⟨?_, ?_, hn h.arr (by decide) (by decide), ?_, ?_, put_asc h.asc hlt hgt, ?_, Fr.bel h.bel hf ?_, h.lL, ?_, h.hN⟩
  · rcases ho with ⟨rfl, _, h2⟩ | ⟨j, v, kv, rfl, hj, h1, _⟩
    · have e : pt (put us 0 u k) 0 = some u := by rw [pt, put_at hi]; simp
      rw [e]; exact h2
    · have e : pt (put us (j + 1) u k) 0 = pt us 0 := by unfold pt; rw [put_at hi]; simp
      rw [e]
      obtain ⟨f, hf1, h2, h3⟩ := h.ls
      refine ⟨f, hf.row hf1 (fun hx => ?_), h2, h3⟩
      exact h.ne_L (h.nodes j v kv hj) (h1 _ hx).symm
  · obtain ⟨f, hf1, h2⟩ := h.rg
    exact ⟨f, hn hf1 (by decide) (by decide), h2⟩
  · intro j v kv hj
    rw [put_at hi] at hj
    by_cases h1 : j < i
    · rw [if_pos h1] at hj
      by_cases h2 : j + 1 = i
      · have e : pt (put us i u k) (j + 1) = some u := by unfold pt; rw [put_at hi, if_neg (by omega), if_pos h2]; rfl
        rw [e]
        rcases ho with ⟨h3, _⟩ | ⟨j', v', kv', h3, hj', _, h4⟩
        · omega
        · have : j' = j := by omega
          subst this
          rw [hj] at hj'
          cases hj'
          exact h4
      · have e : pt (put us i u k) (j + 1) = pt us (j + 1) := by unfold pt; rw [put_at hi, if_pos (by omega)]
        rw [e]
        refine (h.nodes j v kv hj).fr hf (fun hx => ?_)
        rcases ho with ⟨h3, _⟩ | ⟨j', v', kv', h3, hj', h5, _⟩
        · omega
        · have := h5 _ hx
          subst this
          have := (h.uniq hj hj').1
          omega
    · rw [if_neg h1] at hj
      have e : pt (put us i u k) (j + 1) = pt us j := by unfold pt; rw [put_at hi, if_neg (by omega), if_neg (by omega)]; rfl
      rw [e]
      by_cases h2 : j = i
      · subst h2
        rw [if_pos rfl] at hj
        cases hj
        exact hnew
      · rw [if_neg h2] at hj
        obtain ⟨m, rfl⟩ : ∃ m, j = m + 1 := ⟨j - 1, by omega⟩
        rw [Nat.add_sub_cancel] at hj
        refine (h.nodes m v kv hj).fr hf (fun hx => ?_)
        rcases ho with ⟨h3, h5, _⟩ | ⟨j', v', kv', h3, hj', h5, _⟩
        · exact h.ne_L (h.nodes m v kv hj) (h5 _ hx)
        · have := h5 _ hx
          subst this
          have := (h.uniq hj hj').1
          omega
  · intro v kv hv
    obtain ⟨nx, hd⟩ := h.dead v kv hv
    refine ⟨nx, hd.fr hf (fun hx => ?_)⟩
    rcases hoL _ hx with h1 | ⟨k', h1⟩
    · exact h.ne_L hd h1
    · exact h.dead_ne h1 hv
  · intro v kv hv
    rcases put_mem.1 hv with h1 | h1
    · cases h1; exact ⟨hk0, hkN⟩
    · exact h.idx v kv h1
  · intro x hx
    rcases hoL _ hx with h1 | ⟨k', h1⟩
    · rw [h1]; exact h.lL
    · exact h.lus _ _ h1
  · intro v kv hv
    rcases put_mem.1 hv with h1 | h1
    · cases h1; exact Nat.le_trans h.bel.size hu
    · exact h.lus v kv h1
/-! ### A cut, and what hangs behind it -/
def Tail (w : World) (us : Nodes) (i r : Nat) : Prop := ∀ j v k, i ≤ j → us[j]? = some (v, k) → ND w v (pt us (j + 1)) r k false
theorem take_at {us : Nodes} {s j : Nat} {v : Nat} {k : Int} : (us.take s)[j]? = some (v, k) ↔ j < s ∧ us[j]? = some (v, k) := by
  rw [List.getElem?_take]; split <;> simp [*]
theorem take_sub {us : Nodes} {s v : Nat} {k : Int} (h : (v, k) ∈ us.take s) : (v, k) ∈ us := List.mem_of_mem_take h
theorem St.cut (h : St w0 w L r g N us ds) {s : Nat} (hs : s ≤ us.length) (o : Nat → Prop) (hf : Fr o w w')
    (ho : (s = 0 ∧ (∀ x, o x → x = L) ∧ LS w' L r none) ∨ (∃ j v kv, s = j + 1 ∧ us[j]? = some (v, kv) ∧ (∀ x, o x → x = v) ∧ ND w' v none r kv false)) :
    St w0 w' L r g N (us.take s) ds ∧ Tail w' us s r := by
  have hoL : ∀ x, o x → Wr L us x := by
    intro x hx
    rcases ho with ⟨_, h1, _⟩ | ⟨j, v, kv, _, hj, h1, _⟩
    · exact .inl (h1 x hx)
    · have := h1 x hx
      subst this
      exact .inr ⟨kv, mem_at hj⟩
  have hn : ∀ {b e n f}, w.rowIs b e n f → e ≠ 68 → e ≠ 47 → w'.rowIs b e n f := fun hr h1 h2 => hf.row hr (fun hx => h.other hr h1 h2 (hoL _ hx))
  have ha : Asc ((us.take s).map Prod.snd) := by
    have := h.asc
    unfold Asc at this ⊢
    rw [List.map_take]
    exact this.sublist (List.take_sublist _ _)
  refine ⟨⟨?_, ?_, hn h.arr (by decide) (by decide), ?_, ?_, ha, fun v k hv => h.idx v k (take_sub hv), Fr.bel h.bel hf ?_, h.lL, fun v k hv => h.lus v k (take_sub hv), h.hN⟩, ?_⟩
  · rcases ho with ⟨rfl, _, h2⟩ | ⟨j, v, kv, rfl, hj, h1, _⟩
    · have e : pt (us.take 0) 0 = none := by simp [pt]
      rw [e]; exact h2
    · have e : pt (us.take (j + 1)) 0 = pt us 0 := by unfold pt; rw [List.getElem?_take]; simp
      rw [e]
      obtain ⟨f, hf1, h2, h3⟩ := h.ls
      refine ⟨f, hf.row hf1 (fun hx => ?_), h2, h3⟩
      exact h.ne_L (h.nodes j v kv hj) (h1 _ hx).symm
  · obtain ⟨f, hf1, h2⟩ := h.rg
    exact ⟨f, hn hf1 (by decide) (by decide), h2⟩
  · intro j v kv hj
    obtain ⟨h1, hj⟩ := take_at.1 hj
    by_cases h2 : j + 1 = s
    · have e : pt (us.take s) (j + 1) = none := by unfold pt; rw [List.getElem?_take, if_neg (by omega)]; rfl
      rw [e]
      rcases ho with ⟨h3, _⟩ | ⟨j', v', kv', h3, hj', _, h4⟩
      · omega
      · have : j' = j := by omega
        subst this
        rw [hj] at hj'
        cases hj'
        exact h4
    · have e : pt (us.take s) (j + 1) = pt us (j + 1) := by unfold pt; rw [List.getElem?_take, if_pos (by omega)]
      rw [e]
      refine (h.nodes j v kv hj).fr hf (fun hx => ?_)
      rcases ho with ⟨h3, _⟩ | ⟨j', v', kv', h3, hj', h5, _⟩
      · omega
      · have := h5 _ hx
        subst this
        have := (h.uniq hj hj').1
        omega
  · intro v kv hv
    obtain ⟨nx, hd⟩ := h.dead v kv hv
    refine ⟨nx, hd.fr hf (fun hx => ?_)⟩
    rcases hoL _ hx with h1 | ⟨k', h1⟩
    · exact h.ne_L hd h1
    · exact h.dead_ne h1 hv
  · intro x hx
    rcases hoL _ hx with h1 | ⟨k', h1⟩
    · rw [h1]; exact h.lL
    · exact h.lus _ _ h1
  · intro j v kv hs' hj
    refine (h.nodes j v kv hj).fr hf (fun hx => ?_)
    rcases ho with ⟨h3, h5, _⟩ | ⟨j', v', kv', h3, hj', h5, _⟩
    · exact h.ne_L (h.nodes j v kv hj) (h5 _ hx)
    · have := h5 _ hx
      subst this
      have := (h.uniq hj hj').1
      omega
/-- A node that hangs no more is closed. -/
theorem St.shut (h : St w0 w L r g N us ds) {u : Nat} {k : Int} {nx : Option Nat} (hu : ∀ k', (u, k') ∉ us) (hb : w0.heap.size ≤ u) (hnd : ND w' u nx r k true) (hold : ∃ nx, ND w u nx r k false) (hf : Fr (fun x => x = u) w w') :
    St w0 w' L r g N us (ds ++ [(u, k)]) := by
  obtain ⟨nx0, h0⟩ := hold
  have hn : ∀ {b e n f}, w.rowIs b e n f → e ≠ 47 → w'.rowIs b e n f := fun hr h1 => hf.row hr (fun hx => by subst hx; exact row_ne hr h0 h1 rfl)
  obtain ⟨f, hf1, h2, h3⟩ := h.ls
  obtain ⟨f', hf2, h4⟩ := h.rg
  refine ⟨⟨f, hn hf1 (by decide), h2, h3⟩, ⟨f', hn hf2 (by decide), h4⟩, hn h.arr (by decide), fun j v kv hj => (h.nodes j v kv hj).fr hf (fun hx => by subst hx; exact hu _ (mem_at hj)), fun v kv hv => ?_, h.asc, h.idx, Fr.bel h.bel hf (fun x hx => by subst hx; exact hb), h.lL, h.lus, h.hN⟩
  rcases List.mem_append.1 hv with h1 | h1
  · obtain ⟨nx', hd⟩ := h.dead v kv h1
    refine ⟨nx', hd.fr hf (fun hx => ?_)⟩
    subst hx
    have := (h0.inj hd).2
    cases this
  · simp at h1
    obtain ⟨rfl, rfl⟩ := h1
    exact ⟨nx, hnd⟩
/-- A closed node is written once more. -/
theorem St.dead_set (h : St w0 w L r g N us ds) {u : Nat} {k : Int} {nx : Option Nat} (hu : (u, k) ∈ ds) (hb : w0.heap.size ≤ u) (hnd : ND w' u nx r k true) (hf : Fr (fun x => x = u) w w') :
    St w0 w' L r g N us ds := by
  obtain ⟨nx0, h0⟩ := h.dead u k hu
  have hn : ∀ {b e n f}, w.rowIs b e n f → e ≠ 47 → w'.rowIs b e n f := fun hr h1 => hf.row hr (fun hx => by subst hx; exact row_ne hr h0 h1 rfl)
  obtain ⟨f, hf1, h2, h3⟩ := h.ls
  obtain ⟨f', hf2, h4⟩ := h.rg
  refine ⟨⟨f, hn hf1 (by decide), h2, h3⟩, ⟨f', hn hf2 (by decide), h4⟩, hn h.arr (by decide), fun j v kv hj => (h.nodes j v kv hj).fr hf (fun hx => by subst hx; exact h.dead_ne (mem_at hj) hu), fun v kv hv => ?_, h.asc, h.idx, Fr.bel h.bel hf (fun x hx => by subst hx; exact hb), h.lL, h.lus, h.hN⟩
  obtain ⟨nx', hd⟩ := h.dead v kv hv
  by_cases e : v = u
  · subst e
    have := (h0.inj hd).1
    subst this
    exact ⟨nx, hnd⟩
  · exact ⟨nx', hd.fr hf e⟩
end
end Go.Proofs.Ytmmjeohpolfopaa
