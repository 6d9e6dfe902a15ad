/- An append of one element, or of a string, to the first of three rows. -/
import Derived.Test.YtkmjoliablpmbaaHelp
namespace Go.Proofs.Ytkmjoliablpmbaa
set_option linter.unusedVariables false
open Go.RowKit Go.ChangeShapes Go.Deep
section
variable {P : Program} {w0 w : World} {e g n cap : Nat} {l : List Value} {e2 g2 n2 c2 : Nat} {l2 : List Value} {e3 g3 n3 c3 : Nat} {l3 : List Value}
theorem wpList_push (R : R3 w0 w e g n cap l e2 g2 n2 c2 l2 e3 g3 n3 c3 l3) {ops : Array Oper} {rest : List Oper} {o : Oper} {a : Act} {Q : Exit → Act → World → Prop} (hgd : o.guard = none) (sl x : Operand) (t : TypeId)
    (ho : o.op = .call { callee := .builtin .append, args := #[sl, x], argTypes := #[t, t] }) {z : Value}
    (ht : P.underlying t = some (.slice e)) (hi : (P.info? e).map (fun i => (i.zero, i.size, i.bytes)) = some (some z, 1, 1)) (hz : z.cells.size = 1)
    (v : Value) (h1 : v.oneCell' = true) (hs : a.eval sl = .slice (some ⟨g, 0, none⟩) n cap) (hx : a.eval x = .slice (some ⟨w.heap.size, 0, none⟩) 1 1) (hn : n < 100000000)
    (h : ∀ g' cap' w', R3 w0 w' e g' (n + 1) cap' (l ++ [v]) e2 g2 n2 c2 l2 e3 g3 n3 c3 l3 → wpList P ops Q rest (a.put o.dst (.slice (some ⟨g', 0, none⟩) (n + 1) cap')) w') :
    wpList P ops Q (o :: rest) a (w.alloc (.cells #[v] e)) := by
  obtain ⟨i0, hi0, hz0, hz1, hz2⟩ := or_parts hi
  refine wpList_append_lies _ hgd sl x t ho 0 e i0 z 1 1 ht hi0 hz0 hz1 hz2 hz (by decide) _ _ _ hs (World.ownsRow.alloc R.o1 _) ⟨w.heap.size, 0, none⟩ 1 1 [v] hx rfl (or_news _ _ _ _ rfl) (by intro u hu; simp at hu; subst hu; exact h1) (by omega) (by unfold maxLen; omega) (by omega) (Nat.zero_le _) _ rfl ?_
  intro g' c' w' ho' hg' hat _
  exact h g' c' w' (R.push hg' ho' hat)
theorem wpList_pushS (R : R3 w0 w e g n cap l e2 g2 n2 c2 l2 e3 g3 n3 c3 l3) {ops : Array Oper} {rest : List Oper} {o : Oper} {a : Act} {Q : Exit → Act → World → Prop} (hgd : o.guard = none) (sl x : Operand) (t u : TypeId)
    (ho : o.op = .call { callee := .builtin .append, args := #[sl, x], argTypes := #[t, u] })
    (ht : P.underlying t = some (.slice e)) (hu : P.underlying u = some .string) (hi : (P.info? e).map (fun i => (i.zero, i.size, i.bytes)) = some (some (.int .u8 0), 1, 1))
    (s : ByteArray) (hs : a.eval sl = .slice (some ⟨g, 0, none⟩) n cap) (hx : a.eval x = .string s) (hn : n + s.size < 1000000000)
    (h : ∀ g' cap' w', R3 w0 w' e g' (n + s.size) cap' (l ++ Lib.strCells s) e2 g2 n2 c2 l2 e3 g3 n3 c3 l3 → wpList P ops Q rest (a.put o.dst (.slice (some ⟨g', 0, none⟩) (n + s.size) cap')) w') :
    wpList P ops Q (o :: rest) a w := by
  obtain ⟨i0, hi0, hz0, hz1, hz2⟩ := or_parts hi
  refine wpList_app_str w hgd sl x t u ho e i0 ht hu hi0 hz0 hz1 hz2 g n cap l hs R.o1 s hx (by omega) ?_
  intro g' c' w' ho' hg' hat
  exact h g' c' w' (R.pushS hg' ho' hat)
theorem R3.made (w : World) (C1 C2 C3 : Array Value) (m1 m2 m3 : Nat) (h1 : C1.size = m1) (h2 : C2.size = m2) (h3 : C3.size = m3) (b1 : m1 ≤ 100000000) (b2 : m2 ≤ 100000000) (b3 : m3 ≤ 100000000) (e1 e2 e3 : Nat) :
    R3 w (((w.alloc (.cells C1 e1)).alloc (.cells C2 e2)).alloc (.cells C3 e3)) e1 w.heap.size 0 m1 [] e2 (w.heap.size + 1) 0 m2 [] e3 (w.heap.size + 1 + 1) 0 m3 [] := by
  have o1 := World.ownsRow_made (base := 0) (size := 1) (e := e1) w C1 m1 (Nat.zero_le _) (by unfold maxLen; omega) (by rw [h1, Nat.mul_one])
  have o2 := World.ownsRow_made (base := 0) (size := 1) (e := e2) (w.alloc (.cells C1 e1)) C2 m2 (Nat.zero_le _) (by unfold maxLen; omega) (by rw [h2, Nat.mul_one])
  have o3 := World.ownsRow_made (base := 0) (size := 1) (e := e3) ((w.alloc (.cells C1 e1)).alloc (.cells C2 e2)) C3 m3 (Nat.zero_le _) (by unfold maxLen; omega) (by rw [h3, Nat.mul_one])
  simp only [World.size_alloc] at o2 o3
  exact ⟨(o1.alloc _).alloc _, o2.alloc _, o3, Nat.le_refl _, by omega, by omega, by omega, by omega, by omega, (((Below.refl _ _).alloc (Nat.le_refl _) _).alloc (by simp) _).alloc (by simp; omega) _⟩
end
end Go.Proofs.Ytkmjoliablpmbaa
