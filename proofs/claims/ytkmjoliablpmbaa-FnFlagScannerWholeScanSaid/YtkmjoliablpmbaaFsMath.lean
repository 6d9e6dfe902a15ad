/- What a flag scanner delivers of a text, and what it gathers. Plain mathematics on lists of bytes. -/
namespace Go.Proofs.Ytkmjoliablpmbaa
/-- From here on: the bytes delivered, each with the sign that a region begins; what the buffer gains; whether a region is open at the end. -/
def del (f : UInt8) (st en : List UInt8) : List UInt8 → Bool → List (UInt8 × Bool) × List UInt8 × Bool
  | [], has => ([], if has then en else [], has)
  | [c], has => ([(c, false)], if has then en else [], has)
  | c :: d :: s, has =>
    if c = f then
      if d = f then ((del f st en s false).1, f :: (del f st en s false).2.1, (del f st en s false).2.2)
      else ((c, true) :: (del f st en (d :: s) true).1, (if has then en else []) ++ st ++ (del f st en (d :: s) true).2.1, (del f st en (d :: s) true).2.2)
    else ((c, false) :: (del f st en (d :: s) has).1, (del f st en (d :: s) has).2.1, (del f st en (d :: s) has).2.2)
  termination_by l => l.length
variable {f : UInt8} {st en : List UInt8}
theorem del_nil (has : Bool) : del f st en [] has = ([], if has then en else [], has) := by rw [del]
theorem del_one (c : UInt8) (has : Bool) : del f st en [c] has = ([(c, false)], if has then en else [], has) := by rw [del]
theorem del_plain {c : UInt8} (hc : c ≠ f) (s : List UInt8) (has : Bool) : del f st en (c :: s) has = ((c, false) :: (del f st en s has).1, (del f st en s has).2.1, (del f st en s has).2.2) := by
  cases s with
  | nil => rw [del_one, del_nil]
  | cons d s => rw [del, if_neg hc]
theorem del_pair (s : List UInt8) (has : Bool) : del f st en (f :: f :: s) has = ((del f st en s false).1, f :: (del f st en s false).2.1, (del f st en s false).2.2) := by
  rw [del, if_pos rfl, if_pos rfl]
theorem del_open {d : UInt8} (hd : d ≠ f) (s : List UInt8) (has : Bool) :
    del f st en (f :: d :: s) has = ((f, true) :: (del f st en (d :: s) true).1, (if has then en else []) ++ st ++ (del f st en (d :: s) true).2.1, (del f st en (d :: s) true).2.2) := by
  rw [del, if_pos rfl, if_neg hd]
theorem del_length (s : List UInt8) : ∀ has, (del f st en s has).1.length ≤ s.length := by
  induction hn : s.length using Nat.strongRecOn generalizing s with
  | ind n ih =>
    intro has
    match s, hn with
    | [], _ => simp [del_nil]
    | [c], hn => simp [del_one] at *; omega
    | c :: d :: s, hn =>
      simp only [List.length_cons] at hn
      by_cases hc : c = f
      · subst hc
        by_cases hd : d = c
        · subst hd
          rw [del_pair]
          have := ih s.length (by omega) s rfl false
          simp only
          omega
        · rw [del_open hd]
          have := ih (d :: s).length (by simp; omega) (d :: s) rfl true
          simp only [List.length_cons] at this ⊢
          omega
      · rw [del_plain hc]
        have := ih (d :: s).length (by simp; omega) (d :: s) rfl has
        simp only [List.length_cons] at this ⊢
        omega
/-- A run of 2m flags. -/
theorem del_run (m : Nat) (s : List UInt8) (has : Bool) : del f st en (List.replicate (2 * m) f ++ s) has =
    ((del f st en s (if m = 0 then has else false)).1, List.replicate m f ++ (del f st en s (if m = 0 then has else false)).2.1, (del f st en s (if m = 0 then has else false)).2.2) := by
  induction m generalizing has with
  | zero => simp
  | succ m ih =>
    have e : List.replicate (2 * (m + 1)) f ++ s = f :: f :: (List.replicate (2 * m) f ++ s) := by
      rw [show 2 * (m + 1) = 2 * m + 1 + 1 by omega, List.replicate_succ, List.replicate_succ]; rfl
    rw [e, del_pair, ih]
    simp [List.replicate_succ]
/-- A text with each flag written twice. -/
def dbl (f : UInt8) : List UInt8 → List UInt8
  | [] => []
  | c :: s => if c = f then f :: f :: dbl f s else c :: dbl f s
theorem del_dbl (s : List UInt8) : del f st en (dbl f s) false = ((s.filter (· != f)).map fun c => (c, false), List.replicate (s.countP (· == f)) f, false) := by
  induction s with
  | nil => simp [dbl, del_nil]
  | cons c s ih =>
    unfold dbl
    by_cases hc : c = f
    · subst hc
      rw [if_pos rfl, del_pair, ih]
      simp [List.replicate_succ]
    · rw [if_neg hc, del_plain hc, ih]
      simp [hc]
end Go.Proofs.Ytkmjoliablpmbaa
