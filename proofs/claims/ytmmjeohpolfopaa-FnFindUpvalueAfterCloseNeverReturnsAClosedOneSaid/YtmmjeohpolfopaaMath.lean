/- Sorted lists of distinct numbers: one insertion, a script of insertions, and what a mark cuts off. Plain mathematics. -/
namespace Go.Proofs.Ytmmjeohpolfopaa
/-- Put v into an ascending list, if it is not there. -/
def ins (v : Int) : List Int → List Int
  | [] => [v]
  | x :: l => if x < v then x :: ins v l else if x = v then x :: l else v :: x :: l
def insAll (l : List Int) (xs : List Int) : List Int := xs.foldl (fun a v => ins v a) l
def Asc (l : List Int) : Prop := l.Pairwise (· < ·)
theorem mem_ins {v x : Int} {l : List Int} : x ∈ ins v l ↔ x = v ∨ x ∈ l := by
  induction l with
  | nil => simp [ins]
  | cons y l ih =>
    unfold ins
    split
    · simp only [List.mem_cons, ih]; constructor
      · rintro (h | h | h) <;> simp [h]
      · rintro (h | h | h) <;> simp [h]
    · split
      · rename_i h; subst h; simp only [List.mem_cons]; constructor
        · rintro (h | h) <;> simp [h]
        · rintro (h | h | h) <;> simp [h]
      · simp only [List.mem_cons]
theorem asc_ins {v : Int} {l : List Int} (h : Asc l) : Asc (ins v l) := by
  induction l with
  | nil => simp [ins, Asc]
  | cons y l ih =>
    unfold Asc at h ih ⊢
    rw [List.pairwise_cons] at h
    unfold ins
    split
    · rw [List.pairwise_cons]
      refine ⟨fun x hx => ?_, ih h.2⟩
      rcases mem_ins.1 hx with rfl | hx
      · assumption
      · exact h.1 x hx
    · split
      · rw [List.pairwise_cons]; exact h
      · rw [List.pairwise_cons]
        refine ⟨fun x hx => ?_, by rw [List.pairwise_cons]; exact h⟩
        rcases List.mem_cons.1 hx with rfl | hx
        · omega
        · have := h.1 x hx; omega
theorem ins_of_mem {v : Int} {l : List Int} (h : Asc l) (hm : v ∈ l) : ins v l = l := by
  induction l with
  | nil => simp at hm
  | cons y l ih =>
    unfold Asc at h ih
    rw [List.pairwise_cons] at h
    unfold ins
    rcases List.mem_cons.1 hm with rfl | hm
    · simp
    · have := h.1 v hm
      rw [if_pos this, ih h.2 hm]
/-- Cut at a mark. -/
def under (c : Int) (l : List Int) : List Int := l.filter (· < c)
theorem under_ins {v c : Int} {l : List Int} (h : Asc l) : under c (ins v l) = if v < c then ins v (under c l) else under c l := by
  induction l with
  | nil => by_cases hv : v < c <;> simp [ins, under, hv]
  | cons y l ih =>
    unfold Asc at h ih
    rw [List.pairwise_cons] at h
    have ih' := ih h.2
    unfold under at ih' ⊢
    unfold ins
    by_cases h1 : y < v
    · rw [if_pos h1]
      by_cases hy : y < c
      · by_cases hv : v < c
        · simp [hy, hv, h1] at ih' ⊢; exact ih'
        · simp [hy, hv] at ih' ⊢; exact ih'
      · have hv : ¬ v < c := by omega
        simp [hy, hv] at ih' ⊢; exact ih'
    · rw [if_neg h1]
      by_cases h2 : y = v
      · subst h2
        by_cases hy : y < c <;> simp [hy]
      · rw [if_neg h2]
        by_cases hv : v < c
        · by_cases hy : y < c
          · simp [hy, hv, h1, h2]
          · have hnil : l.filter (· < c) = [] := by
              rw [List.filter_eq_nil_iff]; intro a ha; have := h.1 a ha; simp; omega
            simp [hy, hv, hnil]
        · simp [hv]
theorem asc_insAll {xs l : List Int} (h : Asc l) : Asc (insAll l xs) := by
  induction xs generalizing l with
  | nil => exact h
  | cons x xs ih => exact ih (asc_ins h)
theorem under_insAll {c : Int} {xs l : List Int} (h : Asc l) : under c (insAll l xs) = insAll (under c l) (under c xs) := by
  induction xs generalizing l with
  | nil => rfl
  | cons x xs ih =>
    have e := ih (asc_ins (v := x) h)
    have e2 : insAll l (x :: xs) = insAll (ins x l) xs := rfl
    rw [e2, e, under_ins h]
    by_cases hx : x < c <;> simp [under, hx, insAll]
theorem under_under (c d : Int) (l : List Int) : under d (under c l) = under (min c d) l := by
  unfold under
  rw [List.filter_filter]
  refine List.filter_congr fun x _ => ?_
  by_cases h1 : x < c <;> by_cases h2 : x < d <;> simp [h1, h2] <;> omega
theorem mem_insAll {xs l : List Int} {x : Int} : x ∈ insAll l xs ↔ x ∈ l ∨ x ∈ xs := by
  induction xs generalizing l with
  | nil => simp [insAll]
  | cons y xs ih =>
    have e2 : insAll l (y :: xs) = insAll (ins y l) xs := rfl
    rw [e2, ih, mem_ins, List.mem_cons]
    constructor
    · rintro ((h | h) | h) <;> simp [h]
    · rintro (h | h | h) <;> simp [h]
theorem insAll_snoc (l xs : List Int) (x : Int) : insAll l (xs ++ [x]) = ins x (insAll l xs) := by simp [insAll]
theorem under_all {c : Int} {l : List Int} (h : ∀ x ∈ l, x < c) : under c l = l := by
  unfold under; rw [List.filter_eq_self]; intro a ha; simpa using h a ha
/-- How the code inserts: behind the leading numbers that are smaller. -/
def lead (v : Int) (l : List Int) : Nat := (l.takeWhile (· < v)).length
theorem ins_lead (v : Int) (l : List Int) : ins v l = if l[lead v l]? = some v then l else l.take (lead v l) ++ v :: l.drop (lead v l) := by
  induction l with
  | nil => simp [ins, lead]
  | cons y l ih =>
    unfold ins
    by_cases h1 : y < v
    · have hl : lead v (y :: l) = lead v l + 1 := by simp [lead, h1]
      rw [if_pos h1, hl, ih]
      simp only [List.getElem?_cons_succ, List.take_succ_cons, List.drop_succ_cons, List.cons_append]
      split <;> rfl
    · have hl : lead v (y :: l) = 0 := by simp [lead, h1]
      rw [if_neg h1, hl]
      simp only [List.getElem?_cons_zero, List.take_zero, List.drop_zero, List.nil_append, Option.some.injEq]
theorem lead_le (v : Int) (l : List Int) : lead v l ≤ l.length := by unfold lead; exact (List.takeWhile_sublist _).length_le
end Go.Proofs.Ytmmjeohpolfopaa
