/- For every flag byte, markers and text: a text whose every flag is doubled is delivered with its flags removed, no region is ever open, and the buffer gathers a flag for each flag of the text. -/
import Derived.Test.YtkmjoliablpmbaaPush
namespace Go.Proofs.Ytkmjoliablpmbaa
set_option linter.unusedVariables false
open Go.RowKit Go.ChangeShapes Go.Deep
/-- What the first loop has gathered behind i bytes of T. -/
structure G1 (f : UInt8) (T : List UInt8) (i : Nat) (E C B : List UInt8) : Prop where
  e : dbl f T = E ++ dbl f (T.drop i)
  c : T.filter (· != f) = C ++ (T.drop i).filter (· != f)
  b : List.replicate (T.countP (· == f)) f = B ++ List.replicate ((T.drop i).countP (· == f)) f
  le : E.length ≤ 2 * i
  lc : C.length ≤ i
  lb : B.length ≤ i
theorem G1.zero (f : UInt8) (T : List UInt8) : G1 f T 0 [] [] [] := ⟨rfl, rfl, rfl, Nat.le_refl _, Nat.le_refl _, Nat.le_refl _⟩
theorem G1.flag {f : UInt8} {T : List UInt8} {i : Nat} {E C B : List UInt8} (h : G1 f T i E C B) (hd : T.drop i = f :: T.drop (i + 1)) : G1 f T (i + 1) (E ++ [f] ++ [f]) C (B ++ [f]) := by
  obtain ⟨e, c, b, le, lc, lb⟩ := h
  rw [hd] at e c b
  refine ⟨?_, ?_, ?_, by simp; omega, by omega, by simp; omega⟩
  · rw [e]; simp [dbl]
  · rw [c]; simp
  · rw [b]; simp [List.replicate_succ]
theorem G1.other {f c0 : UInt8} {T : List UInt8} {i : Nat} {E C B : List UInt8} (h : G1 f T i E C B) (hd : T.drop i = c0 :: T.drop (i + 1)) (hc : c0 ≠ f) : G1 f T (i + 1) (E ++ [c0]) (C ++ [c0]) B := by
  obtain ⟨e, c, b, le, lc, lb⟩ := h
  rw [hd] at e c b
  refine ⟨?_, ?_, ?_, by simp; omega, by simp; omega, by omega⟩
  · rw [e]; simp [dbl, hc]
  · rw [c]; simp [hc]
  · rw [b]; simp [hc]
/-- The state at the head of the first loop. -/
def ES1 (w0 : World) (f : UInt8) (t : ByteArray) (v9 v10 v11 v12 : Value) (w : World) : Prop :=
  ∃ (i : Nat) (E C B : List UInt8) (g1 n1 c1 g2 n2 c2 g3 n3 c3 : Nat), i ≤ t.size ∧ v12 = .int .i64 i ∧ v9 = .slice (some ⟨g1, 0, none⟩) n1 c1 ∧ v10 = .slice (some ⟨g2, 0, none⟩) n2 c2 ∧ v11 = .slice (some ⟨g3, 0, none⟩) n3 c3 ∧
    R3 w0 w 5 g1 n1 c1 (bs E) 5 g2 n2 c2 (bs C) 5 g3 n3 c3 (bs B) ∧ G1 f (L8 t) i E C B
/-- What has yet to come, at the head of the second loop. -/
structure G2 (f : UInt8) (st en : List UInt8) (T C B : List UInt8) (pos k : Nat) (buf : List UInt8) : Prop where
  le : k ≤ C.length
  d : ∃ B', del f st en (T.drop pos) false = ((C.drop k).map (fun c => (c, false)), B', false) ∧ B = buf ++ B'
def ES2 (w2 w : World) (p : Nat) (f : UInt8) (st en es : ByteArray) (C B : List UInt8) (v15 v16 : Value) : Prop :=
  ∃ (k s pos : Nat) (ch : Bool) (buf : List UInt8), v15 = .int .i64 k ∧ v16 = .int .i64 s ∧ s ≤ pos ∧ pos ≤ es.size ∧ k ≤ pos ∧ buf.length ≤ 10000 * pos ∧ SC w2 w p f st en es pos false ch buf ∧ G2 f (L8 st) (L8 en) (L8 es) C B pos k buf
theorem G2.last {f : UInt8} {st en T C B : List UInt8} {pos k : Nat} {buf more : List UInt8} {h' : Bool} (h : G2 f st en T C B pos k buf) (hd : del f st en (T.drop pos) false = ([], more, h')) : k = C.length ∧ h' = false ∧ buf ++ more = B := by
  obtain ⟨hk, B', h1, h2⟩ := h
  rw [hd] at h1
  injection h1 with h3 h4
  injection h4 with h5 h6
  have : (C.drop k).length = 0 := by rw [← List.length_map (f := fun c => (c, false)), ← h3]; rfl
  rw [List.length_drop] at this
  subst h5
  exact ⟨by omega, h6, h2.symm⟩
theorem G2.next {f : UInt8} {st en T C B : List UInt8} {pos k q : Nat} {buf more : List UInt8} {h' g : Bool} {c : UInt8} (h : G2 f st en T C B pos k buf)
    (hd : del f st en (T.drop pos) false = ((c, g) :: (del f st en (T.drop q) h').1, more ++ (del f st en (T.drop q) h').2.1, (del f st en (T.drop q) h').2.2)) (hn : h' = true → g = true ∨ false = true) :
    g = false ∧ h' = false ∧ C[k]? = some c ∧ G2 f st en T C B q (k + 1) (buf ++ more) := by
  obtain ⟨hk, B', h1, h2⟩ := h
  rw [hd] at h1
  injection h1 with h3 h4
  injection h4 with h5 h6
  cases hC : C.drop k with
  | nil => rw [hC] at h3; simp at h3
  | cons x r =>
    rw [hC] at h3
    simp only [List.map_cons] at h3
    injection h3 with h7 h8
    injection h7 with h9 h10
    subst h9
    have hh : h' = false := by
      cases h' with
      | false => rfl
      | true => rcases hn rfl with e | e <;> simp_all
    subst hh
    have hk : C[k]? = some c := by
      have := List.getElem?_drop (xs := C) (i := k) (j := 0)
      rw [hC] at this
      simpa using this.symm
    have hr : C.drop (k + 1) = r := by rw [← List.tail_drop, hC]; rfl
    rw [← hr] at h8
    exact ⟨h10, rfl, hk, (List.getElem?_eq_some_iff.1 hk).1, ⟨(del f st en (T.drop q) false).2.1, Prod.ext h8 (Prod.ext rfl h6), by rw [h2, ← h5, List.append_assoc]⟩⟩
theorem G1.done {f : UInt8} {T : List UInt8} {n : Nat} {E C B : List UInt8} (h : G1 f T n E C B) (hn : T.length ≤ n) (st en : List UInt8) : G2 f st en E C B 0 0 [] := by
  obtain ⟨e, c, b, -, -, -⟩ := h
  rw [List.drop_eq_nil_of_le hn] at e c b
  simp [dbl] at e c b
  exact ⟨Nat.zero_le _, B, by rw [List.drop_zero, List.drop_zero, ← e, del_dbl, c, b], rfl⟩
theorem SC.bel {w0 w : World} {p : Nat} {fl : UInt8} {st en str : ByteArray} {pos : Nat} {has ch : Bool} {buf : List UInt8} (h : SC w0 w p fl st en str pos has ch buf) : Below w0.heap.size w0 w := by
  obtain ⟨g, cap, h⟩ := h
  exact h.bel
theorem str7q {w0 w : World} {p : Nat} {fl : UInt8} {st en str : ByteArray} {pos : Nat} {has ch : Bool} {buf : List UInt8} (h : SC w0 w p fl st en str pos has ch buf) (n : Nat) :
    Calls Try.prog 7 #[.pointer (some ⟨p, 0, none⟩)] (w.drewN n) fun e w' => e = .returned (.string ⟨buf.toArray⟩) ∧ w' = w.drewN n :=
  (str7 (h.drewN n)).mono fun _ _ ⟨a, b⟩ => ⟨a, b.symm⟩
theorem row_strq {w : World} {g n cap : Nat} {l : List UInt8} (h : OR w 5 g n cap (bs l)) (k : Nat) : (convert 23 9 (.slice (some ⟨g, 0, none⟩) n cap)).run Try.prog (w.drewN k) = .ok (.string ⟨l.toArray⟩) (w.drewN k) := row_str (OR.drewN h k)
end Go.Proofs.Ytkmjoliablpmbaa
