/- For every flag byte, markers and text: what the law's model gathers by maximal runs is what 'del' says. -/
import Derived.Test.YtkmjoliablpmbaaEsc
namespace Go.Proofs.Ytkmjoliablpmbaa
set_option linter.unusedVariables false
open Go.RowKit Go.ChangeShapes Go.Deep
def bls (l : List Bool) : List Value := l.map Value.bool
theorem bls_app (a b : List Bool) : bls (a ++ b) = bls a ++ bls b := by simp [bls]
theorem bls_len (a : List Bool) : (bls a).length = a.length := by simp [bls]
theorem infob : (Try.prog.info? 4).map (fun i => (i.zero, i.size, i.bytes)) = some (some (.bool false), 1, 1) := by kernel_rfl
theorem rowb_at {w : World} {g n cap k : Nat} {l : List Bool} (h : OR w 4 g n cap (bls l)) {c : Bool} (hk : l[k]? = some c) : w.cell? ⟨g, k, none⟩ = some (.bool c) := by
  have hn : l.length = n := by have := h.1; simp [bls] at this; omega
  have hkl := (List.getElem?_eq_some_iff.1 hk).1
  exact h.at_ (by omega) (by simp [bls, hk])
/-- What the model has gathered of the first i bytes. -/
structure W1 (f : UInt8) (st en T : List UInt8) (i : Nat) (Z : List (UInt8 × Bool)) (B : List UInt8) (o : Bool) : Prop where
  d : del f st en T false = (Z ++ (del f st en (T.drop i) o).1, B ++ (del f st en (T.drop i) o).2.1, (del f st en (T.drop i) o).2.2)
  lz : Z.length ≤ i
  lb : B.length ≤ 10000 * i
section
variable {f : UInt8} {st en T : List UInt8} {i : Nat} {Z : List (UInt8 × Bool)} {B : List UInt8} {o : Bool}
theorem W1.zero (f : UInt8) (st en T : List UInt8) : W1 f st en T 0 [] [] false := ⟨rfl, Nat.le_refl _, Nat.le_refl _⟩
theorem W1.plain (h : W1 f st en T i Z B o) {c : UInt8} (hd : T.drop i = c :: T.drop (i + 1)) (hc : c ≠ f) : W1 f st en T (i + 1) (Z ++ [(c, false)]) B o := by
  obtain ⟨d, lz, lb⟩ := h
  rw [hd, del_plain hc] at d
  exact ⟨by rw [d]; simp, by simp; omega, by omega⟩
theorem W1.even (h : W1 f st en T i Z B o) {m j : Nat} (hj : j = i + 2 * m) (hm : 0 < m) (hd : T.drop i = List.replicate (2 * m) f ++ T.drop j) : W1 f st en T j Z (B ++ List.replicate m f) false := by
  obtain ⟨d, lz, lb⟩ := h
  rw [hd, del_run, if_neg (by omega : ¬ m = 0)] at d
  exact ⟨by rw [d]; simp, by omega, by simp; omega⟩
theorem rep_odd (m : Nat) (s : List UInt8) : List.replicate (2 * m + 1) f ++ s = List.replicate (2 * m) f ++ (f :: s) := by
  rw [List.replicate_succ', List.append_assoc]; rfl
theorem W1.opens (h : W1 f st en T i Z B o) {m j : Nat} (hj : j = i + (2 * m + 1)) {d : UInt8} {s : List UInt8} (hdf : d ≠ f) (hd : T.drop i = List.replicate (2 * m + 1) f ++ T.drop j) (hs : T.drop j = d :: s) {o' : Bool} (ho : o' = if m = 0 then o else false)
    {E : List UInt8} (hE : E = if o' then en else []) (l1 : st.length ≤ 4096) (l2 : en.length ≤ 4096) : W1 f st en T j (Z ++ [(f, true)]) (B ++ List.replicate m f ++ E ++ st) true := by
  obtain ⟨dd, lz, lb⟩ := h
  rw [hd, rep_odd, del_run, ← ho, hs, del_open hdf, ← hs] at dd
  subst hE
  refine ⟨by rw [dd]; simp, by simp; omega, ?_⟩
  have : (if o' then en else []).length ≤ 4096 := by cases o' <;> simp <;> omega
  simp only [List.length_append, List.length_replicate]
  omega
theorem W1.last (h : W1 f st en T i Z B o) {m j : Nat} (hj : j = i + (2 * m + 1)) (hd : T.drop i = List.replicate (2 * m + 1) f ++ T.drop j) (hs : T.drop j = []) {o' : Bool} (ho : o' = if m = 0 then o else false) :
    W1 f st en T j (Z ++ [(f, false)]) (B ++ List.replicate m f) o' := by
  obtain ⟨dd, lz, lb⟩ := h
  rw [hd, rep_odd, del_run, ← ho, hs, del_one] at dd
  refine ⟨by rw [dd, hs, del_nil]; simp, by simp; omega, by simp; omega⟩
/-- A run of flags, longer by one. -/
theorem run_more {j K : Nat} (hd : T.drop i = List.replicate K f ++ T.drop j) (h : T.drop j = f :: T.drop (j + 1)) : T.drop i = List.replicate (K + 1) f ++ T.drop (j + 1) := by
  rw [hd, h, List.replicate_succ', List.append_assoc]; rfl
end
/-- What has yet to come, at the head of the second great loop. -/
structure W2 (f : UInt8) (st en : List UInt8) (T : List UInt8) (Z : List (UInt8 × Bool)) (B : List UInt8) (o : Bool) (pos k : Nat) (has : Bool) (buf : List UInt8) : Prop where
  le : k ≤ Z.length
  d : ∃ B', del f st en (T.drop pos) has = (Z.drop k, B', o) ∧ B = buf ++ B'
theorem W1.done {f : UInt8} {st en T : List UInt8} {n : Nat} {Z : List (UInt8 × Bool)} {B : List UInt8} {o : Bool} (h : W1 f st en T n Z B o) (hn : T.length ≤ n) {E : List UInt8} (hE : E = if o then en else []) : W2 f st en T Z (B ++ E) o 0 0 false [] := by
  obtain ⟨d, -, -⟩ := h
  rw [List.drop_eq_nil_of_le hn, del_nil, ← hE] at d
  exact ⟨Nat.zero_le _, B ++ E, by rw [List.drop_zero, d]; simp, rfl⟩
theorem W2.last {f : UInt8} {st en T : List UInt8} {Z : List (UInt8 × Bool)} {B : List UInt8} {o has : Bool} {pos k : Nat} {buf more : List UInt8} {h' : Bool} (h : W2 f st en T Z B o pos k has buf) (hd : del f st en (T.drop pos) has = ([], more, h')) :
    k = Z.length ∧ h' = o ∧ buf ++ more = B := by
  obtain ⟨hk, B', h1, h2⟩ := h
  rw [hd] at h1
  injection h1 with h3 h4
  injection h4 with h5 h6
  have : (Z.drop k).length = 0 := by rw [← h3]; rfl
  rw [List.length_drop] at this
  subst h5
  exact ⟨by omega, h6, h2.symm⟩
theorem W2.next {f : UInt8} {st en T : List UInt8} {Z : List (UInt8 × Bool)} {B : List UInt8} {o has : Bool} {pos k q : Nat} {buf more : List UInt8} {h' g : Bool} {c : UInt8} (h : W2 f st en T Z B o pos k has buf)
    (hd : del f st en (T.drop pos) has = ((c, g) :: (del f st en (T.drop q) h').1, more ++ (del f st en (T.drop q) h').2.1, (del f st en (T.drop q) h').2.2)) :
    (Z.map Prod.fst)[k]? = some c ∧ (Z.map Prod.snd)[k]? = some g ∧ W2 f st en T Z B o q (k + 1) h' (buf ++ more) := by
  obtain ⟨hk, B', h1, h2⟩ := h
  rw [hd] at h1
  injection h1 with h3 h4
  injection h4 with h5 h6
  have hZ : Z[k]? = some (c, g) := by
    have := List.getElem?_drop (xs := Z) (i := k) (j := 0)
    rw [← h3] at this
    simpa using this.symm
  have hr : Z.drop (k + 1) = (del f st en (T.drop q) h').1 := by rw [← List.tail_drop, ← h3]; rfl
  exact ⟨by simp [hZ], by simp [hZ], (List.getElem?_eq_some_iff.1 hZ).1, (del f st en (T.drop q) h').2.1, Prod.ext hr.symm (Prod.ext rfl h6), by rw [h2, ← h5, List.append_assoc]⟩
/-- The state at the head of the first loop: what has been read, what lies in the three rows. -/
def WS1 (w0 : World) (f : UInt8) (st en t : ByteArray) (v10 v11 v12 v13 v14 : Value) (w : World) : Prop :=
  ∃ (i : Nat) (Z : List (UInt8 × Bool)) (B : List UInt8) (o : Bool) (g1 n1 c1 g2 n2 c2 g3 n3 c3 : Nat), i ≤ t.size ∧ v14 = .int .i64 i ∧ v13 = .bool o ∧ v10 = .slice (some ⟨g1, 0, none⟩) n1 c1 ∧ v11 = .slice (some ⟨g2, 0, none⟩) n2 c2 ∧ v12 = .slice (some ⟨g3, 0, none⟩) n3 c3 ∧
    R3 w0 w 5 g1 n1 c1 (bs (Z.map Prod.fst)) 4 g2 n2 c2 (bls (Z.map Prod.snd)) 5 g3 n3 c3 (bs B) ∧ W1 f (L8 st) (L8 en) (L8 t) i Z B o
def WSj (f : UInt8) (t : ByteArray) (i : Nat) (v15 : Value) : Prop :=
  ∃ (j K : Nat), j = i + K ∧ j ≤ t.size ∧ v15 = .int .i64 j ∧ (L8 t).drop i = List.replicate K f ++ (L8 t).drop j
def WSq (w0 : World) (f : UInt8) (Z : List (UInt8 × Bool)) (B : List UInt8) (g1 n1 c1 g2 n2 c2 m : Nat) (v12 v17 : Value) (w : World) : Prop :=
  ∃ (q g3 n3 c3 : Nat), q ≤ m ∧ v17 = .int .i64 q ∧ v12 = .slice (some ⟨g3, 0, none⟩) n3 c3 ∧ R3 w0 w 5 g1 n1 c1 (bs (Z.map Prod.fst)) 4 g2 n2 c2 (bls (Z.map Prod.snd)) 5 g3 n3 c3 (bs (B ++ List.replicate q f))
def WS2 (w2 w : World) (p : Nat) (f : UInt8) (st en t : ByteArray) (Z : List (UInt8 × Bool)) (B : List UInt8) (o : Bool) (v19 v20 : Value) : Prop :=
  ∃ (k s pos : Nat) (has ch : Bool) (buf : List UInt8), v19 = .int .i64 k ∧ v20 = .int .i64 s ∧ s ≤ pos ∧ pos ≤ t.size ∧ k ≤ pos ∧ buf.length ≤ 10000 * pos ∧ SC w2 w p f st en t pos has ch buf ∧ W2 f (L8 st) (L8 en) (L8 t) Z B o pos k has buf
end Go.Proofs.Ytkmjoliablpmbaa
