/- The scanner's shim, the bounds on length, and three rows that a law grows. -/
import Derived.Test.YtkmjoliablpmbaaNext
namespace Go.Proofs.Ytkmjoliablpmbaa
set_option linter.unusedVariables false
open Go.RowKit Go.ChangeShapes Go.Deep
theorem bytes9 (a0 : Int) (a1 : ByteArray) (a2 : ByteArray) (a3 : ByteArray) (w : World) (h1 : a1.size ≤ maxLen) (h2 : a2.size ≤ maxLen) (h3 : a3.size ≤ maxLen) :
    Calls Try.prog 9 #[.int .u8 a0, .string a1, .string a2, .string a3] w (SomeB (a1.size ≤ 1048576 ∧ a2.size ≤ 1048576 ∧ a3.size ≤ 1048576) w) := by
  have m1 := h1
  unfold maxLen at m1
  have m2 := h2
  unfold maxLen at m2
  have m3 := h3
  unfold maxLen at m3
  by_cases b1 : 1048576 < a1.size
  · go_enter Try.func9, Try.ntmps9
    go_wp2
    go_ret
    exact ⟨false, rfl, rfl, fun h => by cases h⟩
  · have e1 : a1.size ≤ 1048576 := by omega
    by_cases b2 : 1048576 < a2.size
    · go_enter Try.func9, Try.ntmps9
      go_wp2
      go_ret
      exact ⟨false, rfl, rfl, fun h => by cases h⟩
    · have e2 : a2.size ≤ 1048576 := by omega
      by_cases d2 : 1048576 < (a1.size : Int) + (a2.size : Int)
      · go_enter Try.func9, Try.ntmps9
        go_wp2
        go_ret
        exact ⟨false, rfl, rfl, fun h => by cases h⟩
      · have g2 : (a1.size : Int) + (a2.size : Int) ≤ 1048576 := by omega
        by_cases b3 : 1048576 < a3.size
        · go_enter Try.func9, Try.ntmps9
          go_wp2
          go_ret
          exact ⟨false, rfl, rfl, fun h => by cases h⟩
        · have e3 : a3.size ≤ 1048576 := by omega
          by_cases d3 : 1048576 < (a1.size : Int) + (a2.size : Int) + (a3.size : Int)
          · go_enter Try.func9, Try.ntmps9
            go_wp2
            go_ret
            exact ⟨false, rfl, rfl, fun h => by cases h⟩
          · have g3 : (a1.size : Int) + (a2.size : Int) + (a3.size : Int) ≤ 1048576 := by omega
            go_enter Try.func9, Try.ntmps9
            go_wp2
            go_ret
            exact ⟨true, rfl, rfl, fun _ => by first | trivial | omega⟩

theorem bytes5 (a0 : Int) (a1 : ByteArray) (a2 : ByteArray) (a3 : ByteArray) (w : World) (h1 : a1.size ≤ maxLen) (h2 : a2.size ≤ maxLen) (h3 : a3.size ≤ maxLen) :
    Calls Try.prog 5 #[.int .u8 a0, .string a1, .string a2, .string a3] w (SomeB (a1.size ≤ 1048576 ∧ a2.size ≤ 1048576 ∧ a3.size ≤ 1048576) w) := by
  have m1 := h1
  unfold maxLen at m1
  have m2 := h2
  unfold maxLen at m2
  have m3 := h3
  unfold maxLen at m3
  by_cases b1 : 1048576 < a1.size
  · go_enter Try.func5, Try.ntmps5
    go_wp2
    go_ret
    exact ⟨false, rfl, rfl, fun h => by cases h⟩
  · have e1 : a1.size ≤ 1048576 := by omega
    by_cases b2 : 1048576 < a2.size
    · go_enter Try.func5, Try.ntmps5
      go_wp2
      go_ret
      exact ⟨false, rfl, rfl, fun h => by cases h⟩
    · have e2 : a2.size ≤ 1048576 := by omega
      by_cases d2 : 1048576 < (a1.size : Int) + (a2.size : Int)
      · go_enter Try.func5, Try.ntmps5
        go_wp2
        go_ret
        exact ⟨false, rfl, rfl, fun h => by cases h⟩
      · have g2 : (a1.size : Int) + (a2.size : Int) ≤ 1048576 := by omega
        by_cases b3 : 1048576 < a3.size
        · go_enter Try.func5, Try.ntmps5
          go_wp2
          go_ret
          exact ⟨false, rfl, rfl, fun h => by cases h⟩
        · have e3 : a3.size ≤ 1048576 := by omega
          by_cases d3 : 1048576 < (a1.size : Int) + (a2.size : Int) + (a3.size : Int)
          · go_enter Try.func5, Try.ntmps5
            go_wp2
            go_ret
            exact ⟨false, rfl, rfl, fun h => by cases h⟩
          · have g3 : (a1.size : Int) + (a2.size : Int) + (a3.size : Int) ≤ 1048576 := by omega
            go_enter Try.func5, Try.ntmps5
            go_wp2
            go_ret
            exact ⟨true, rfl, rfl, fun _ => by first | trivial | omega⟩

theorem new6 (w : World) (fl : UInt8) (st en str : ByteArray) (hs : str.size ≤ 100000000) :
    Calls Try.prog 6 #[.int .u8 fl.toNat, .string st, .string en, .string str] w (NewS w fl st en str) := by
  go_enter Try.func6, Try.ntmps6
  go_wp2_with fail
  refine (new10 w fl st en str hs).mono ?_
  rintro e w1 ⟨p, rfl, h⟩
  have H := Lib.hid h
  clear h
  go_wp2
  go_ret
  exact ⟨p, rfl, H.out⟩
/-- Three rows that the law grows, apart from each other and from what came in. -/
structure R3 (w0 w : World) (e1 g1 n1 c1 : Nat) (l1 : List Value) (e2 g2 n2 c2 : Nat) (l2 : List Value) (e3 g3 n3 c3 : Nat) (l3 : List Value) : Prop where
  o1 : OR w e1 g1 n1 c1 l1
  o2 : OR w e2 g2 n2 c2 l2
  o3 : OR w e3 g3 n3 c3 l3
  b1 : w0.heap.size ≤ g1
  b2 : w0.heap.size ≤ g2
  b3 : w0.heap.size ≤ g3
  d12 : g1 ≠ g2
  d13 : g1 ≠ g3
  d23 : g2 ≠ g3
  bel : Below w0.heap.size w0 w
section
variable {w0 w w' : World} {e1 g1 n1 c1 : Nat} {l1 : List Value} {e2 g2 n2 c2 : Nat} {l2 : List Value} {e3 g3 n3 c3 : Nat} {l3 : List Value}
theorem R3.rot (h : R3 w0 w e1 g1 n1 c1 l1 e2 g2 n2 c2 l2 e3 g3 n3 c3 l3) : R3 w0 w e2 g2 n2 c2 l2 e3 g3 n3 c3 l3 e1 g1 n1 c1 l1 :=
  ⟨h.o2, h.o3, h.o1, h.b2, h.b3, h.b1, h.d23, fun e => h.d12 e.symm, fun e => h.d13 e.symm, h.bel⟩
theorem R3.grow (h : R3 w0 w e1 g1 n1 c1 l1 e2 g2 n2 c2 l2 e3 g3 n3 c3 l3) (F : Fr (fun x => x = g1) w w') {g n c : Nat} {l : List Value} (ho : OR w' e1 g n c l) (hat : g = g1 ∨ w.heap.size ≤ g) :
    R3 w0 w' e1 g n c l e2 g2 n2 c2 l2 e3 g3 n3 c3 l3 := by
  have q2 := h.o2.lt'
  have q3 := h.o3.lt'
  have qs := h.bel.size
  have d12 := h.d12
  have d13 := h.d13
  have b1 := h.b1
  refine ⟨ho, OR.fr h.o2 F (fun e => h.d12 e.symm), OR.fr h.o3 F (fun e => h.d13 e.symm), by omega, h.b2, h.b3, by omega, by omega, h.d23, h.bel.trans (F.below qs (fun x hx => by subst hx; exact h.b1))⟩
theorem R3.push (h : R3 w0 w e1 g1 n1 c1 l1 e2 g2 n2 c2 l2 e3 g3 n3 c3 l3) {ob : Obj} (hg : (w.alloc ob).grownBy w' (some g1)) {g n c : Nat} {l : List Value} (ho : OR w' e1 g n c l) (hat : some g1 = some g ∨ g = (w.alloc ob).heap.size) :
    R3 w0 w' e1 g n c l e2 g2 n2 c2 l2 e3 g3 n3 c3 l3 :=
  h.grow (Fr.grown ((Fr.refl _ w).alloc ob) hg (fun k hk => .inl (by injection hk with hk; exact hk.symm))) ho (by
    rcases hat with h | h
    · injection h with h; exact .inl h.symm
    · right; rw [h]; simp)
theorem R3.pushS (h : R3 w0 w e1 g1 n1 c1 l1 e2 g2 n2 c2 l2 e3 g3 n3 c3 l3) (hg : w.grownBy w' (some g1)) {g n c : Nat} {l : List Value} (ho : OR w' e1 g n c l) (hat : g = g1 ∨ g = w.heap.size) :
    R3 w0 w' e1 g n c l e2 g2 n2 c2 l2 e3 g3 n3 c3 l3 :=
  h.grow (Fr.grown (Fr.refl _ w) hg (fun k hk => .inl (by injection hk with hk; exact hk.symm))) ho (by
    rcases hat with h | h
    · exact .inl h
    · right; rw [h]; exact Nat.le_refl _)
end
theorem bs_one (c : UInt8) : [Value.int .u8 c.toNat] = bs [c] := rfl
/-- 'string(b)' of a row of bytes. -/
theorem row_str {w : World} {g n cap : Nat} {l : List UInt8} (h : OR w 5 g n cap (bs l)) : (convert 23 9 (.slice (some ⟨g, 0, none⟩) n cap)).run Try.prog w = .ok (.string ⟨l.toArray⟩) w := by
  have hn : l.length = n := by have := h.1; simp [bs] at this; omega
  subst hn
  refine run_convert_bytes_back (P := Try.prog) w 23 9 5 ⟨g, 0, none⟩ cap l Try.underlying23 Try.underlying5 Try.underlying9 (fun j hj => ?_)
  have := h.at_ (i := j) (v := .int .u8 (l[j].toNat : Int)) hj (by simp [bs, hj])
  simp only [Addr.add]
  split
  · rename_i h0
    subst h0
    exact this
  · simpa using this
theorem row_at {w : World} {g n cap k : Nat} {l : List UInt8} (h : OR w 5 g n cap (bs l)) {c : UInt8} (hk : l[k]? = some c) : w.cell? ⟨g, k, none⟩ = some (.int .u8 c.toNat) := by
  have hn : l.length = n := by have := h.1; simp [bs] at this; omega
  have hkl := (List.getElem?_eq_some_iff.1 hk).1
  exact h.at_ (by omega) (by simp [bs, hk])
theorem row_len {w : World} {e g n cap : Nat} {l : List Value} (h : OR w e g n cap l) : l.length = n := by have := h.1; omega
end Go.Proofs.Ytkmjoliablpmbaa
