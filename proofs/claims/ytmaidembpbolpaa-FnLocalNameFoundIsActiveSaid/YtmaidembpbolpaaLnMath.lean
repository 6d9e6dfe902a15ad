/- The indices below k at which a test holds, in order: how many, and which is the j-th. Plain mathematics. -/
namespace Go.Proofs.Ytmaidembpbolpaa
def acts (p : Nat → Bool) (k : Nat) : List Nat := (List.range k).filter p
theorem acts_succ (p : Nat → Bool) (k : Nat) : acts p (k + 1) = if p k then acts p k ++ [k] else acts p k := by
  unfold acts
  rw [List.range_succ, List.filter_append]
  by_cases h : p k <;> simp [h]
def cnt (p : Nat → Bool) (k : Nat) : Nat := (acts p k).length
theorem cnt_zero (p : Nat → Bool) : cnt p 0 = 0 := rfl
theorem cnt_succ (p : Nat → Bool) (k : Nat) : cnt p (k + 1) = if p k then cnt p k + 1 else cnt p k := by
  unfold cnt; rw [acts_succ]; split <;> simp
theorem cnt_le (p : Nat → Bool) (k : Nat) : cnt p k ≤ k := by
  unfold cnt acts; have := List.length_filter_le p (List.range k); simpa using this
theorem cnt_mono (p : Nat → Bool) {j k : Nat} (h : j ≤ k) : cnt p j ≤ cnt p k := by
  induction k with
  | zero => have : j = 0 := by omega
            subst this; exact Nat.le_refl _
  | succ k ih =>
    rw [cnt_succ]
    by_cases hj : j = k + 1
    · subst hj; rw [cnt_succ]; exact Nat.le_refl _
    · have := ih (by omega); split <;> omega
theorem acts_at (p : Nat → Bool) {i k : Nat} (hi : i < k) (hp : p i = true) : (acts p k)[cnt p i]? = some i := by
  induction k with
  | zero => omega
  | succ k ih =>
    rw [acts_succ]
    by_cases h : i = k
    · subst h
      rw [if_pos hp]; unfold cnt; simp
    · have h1 := ih (by omega)
      have hlt : cnt p i < (acts p k).length := (List.getElem?_eq_some_iff.1 h1).1
      split
      · rw [List.getElem?_append_left hlt]; exact h1
      · exact h1
/-- How far a run of indices reaches from 0. -/
def run (q : Nat → Bool) : Nat → Nat
  | 0 => 0
  | n + 1 => if run q n = n ∧ q n = true then n + 1 else run q n
theorem run_le (q : Nat → Bool) (n : Nat) : run q n ≤ n := by
  induction n with
  | zero => simp [run]
  | succ n ih => unfold run; split <;> omega
theorem run_lt (q : Nat → Bool) {n i : Nat} (h : i < run q n) : q i = true := by
  induction n with
  | zero => simp [run] at h
  | succ n ih =>
    unfold run at h
    split at h
    · rename_i hh
      by_cases hi : i = n
      · subst hi; exact hh.2
      · exact ih (by omega)
    · exact ih h
theorem run_stop (q : Nat → Bool) {n : Nat} (h : run q n < n) : q (run q n) = false := by
  induction n with
  | zero => omega
  | succ n ih =>
    unfold run at h ⊢
    split
    · rename_i hh; rw [if_pos hh] at h; omega
    · rename_i hh
      rw [if_neg hh] at h
      by_cases h2 : run q n = n
      · rw [h2]
        by_cases h3 : q n = true
        · exact absurd ⟨h2, h3⟩ hh
        · simpa using h3
      · exact ih (by have := run_le q n; omega)
theorem run_eq (q : Nat → Bool) {n k : Nat} (hk : k ≤ n) (h1 : ∀ i, i < k → q i = true) (h2 : k < n → q k = false) : run q n = k := by
  rcases Nat.lt_trichotomy (run q n) k with h | h | h
  · have := run_stop q (n := n) (by omega)
    rw [h1 _ h] at this; cases this
  · exact h
  · have := run_lt q h
    rw [h2 (by have := run_le q n; omega)] at this; cases this
end Go.Proofs.Ytmaidembpbolpaa
