/- The list of lines in memory: a row of strings that grows. -/
import Derived.Test.YtlpnagpdjkgbcaaFmtFmd
import Derived.Test.YtlpnagpdjkgbcaaFmtSk
namespace Go.Proofs.YtlpnagpdjkgbcaaFmt
set_option linter.unusedVariables false
open Go.RowKit Go.ChangeShapes Go.Deep Go.Extern.Stop Go.Stop Go.Extern Go.Kit
def sv (l : List UInt8) : Value := .string ⟨l.toArray⟩
theorem info9 : (Tryf.prog.info? 9).map (fun i => (i.zero, i.size, i.bytes)) = some (some (.string ⟨#[]⟩), 1, 16) := by kernel_rfl
/-- A row of m strings, no older than w0. -/
structure LR (w0 w : World) (g m cap : Nat) (l : List Value) : Prop where
  own : w.ownsRow w0.heap.size 9 1 (.slice (some ⟨g, 0, none⟩) m cap) m l
  bel : Below w0.heap.size w0 w
section
variable {w0 w w' : World} {g m cap : Nat} {l : List Value}
theorem LR.below (R : LR w0 w g m cap l) (hb : Below w.heap.size w w') : LR w0 w' g m cap l :=
  ⟨(Fr.of_below hb (fun _ => False)).own R.own (fun _ _ h => h), R.bel.trans (hb.mono R.bel.size)⟩
theorem LR.base (R : LR w0 w g m cap l) : w0.heap.size ≤ g ∧ g < w.heap.size := R.own.lt g rfl
theorem LR.len (R : LR w0 w g m cap l) : l.length = m := by have := R.own.1; omega
theorem LR.cap_ (R : LR w0 w g m cap l) : m ≤ cap ∧ cap ≤ maxLen := by
  rcases R.own.2 with ⟨h, _⟩ | ⟨_, cap', _, h, _, _, h1, h2, _⟩
  · cases h
  · injection h with _ _ h
    subst h
    exact ⟨h1, h2⟩
theorem LR.at_ (R : LR w0 w g m cap l) {j : Nat} {u : Value} (h : l[j]? = some u) : w.cell? ⟨g, j, none⟩ = some u := by
  have hj := (List.getElem?_eq_some_iff.1 h).1
  rw [R.len] at hj
  rw [R.own.cellAt j (by omega), h]
theorem LR.made (w0 w : World) (hb : Below w0.heap.size w0 w) (C : Array Value) (n : Nat) (hC : C.size = n) (hn : n ≤ 1000000) : LR w0 (w.alloc (.cells C 9)) w.heap.size 0 n [] :=
  ⟨World.ownsRow_made w C n hb.size (by unfold maxLen; omega) (by rw [hC]; omega), hb.alloc hb.size _⟩
theorem wpList_pushL (R : LR w0 w g m cap l) {ops : Array Oper} {rest : List Oper} {o : Oper} {a : Act} {Q : Exit → Act → World → Prop} (hgd : o.guard = none) (sl x : Operand)
    (ho : o.op = .call { callee := .builtin .append, args := #[sl, x], argTypes := #[63, 63] }) (hs : a.eval sl = .slice (some ⟨g, 0, none⟩) m cap) (ad : Addr) (k c : Nat) (news : List Value) (hx : a.eval x = .slice (some ad) k c)
    (hl : news.length = k) (hnews : ∀ j u, news[j]? = some u → w.cell? (ad.add j) = some u) (h1 : ∀ u ∈ news, u.oneCell' = true) (hk : 0 < k) (M : Nat) (hM : m + k = M) (hm : M ≤ 1000000)
    (h : ∀ g' cap' w', LR w0 w' g' M cap' (l ++ news) → w.grownBy w' (some g) → (g' = g ∨ g' = w.heap.size) → wpList Tryf.prog ops Q rest (a.put o.dst (.slice (some ⟨g', 0, none⟩) M cap')) w') :
    wpList Tryf.prog ops Q (o :: rest) a w := by
  subst hM
  obtain ⟨i0, hi0, hz0, hz1, hz2⟩ := or_parts info9
  refine wpList_append_lies _ hgd sl x 63 ho w0.heap.size 9 i0 (.string ⟨#[]⟩) 1 16 Tryf.underlying63 hi0 hz0 hz1 hz2 rfl (by decide) _ m l hs R.own ad k c news hx (by omega) hnews h1 hk (by unfold maxLen; omega) (by omega) R.bel.size _ rfl ?_
  intro g' cap' w' own' gr hat hlt
  have e : (Value.slice (some ⟨g, 0, none⟩) m cap).ownBlock = some g := rfl
  rw [e] at gr hat
  have F : Fr (fun x => x = g) w w' := Fr.grown (Fr.refl _ w) gr (fun k hk => .inl (Option.some.inj hk).symm)
  exact h g' cap' w' ⟨own', R.bel.trans (F.below R.bel.size (fun x hx => by rw [hx]; exact R.base.1))⟩ gr (by
    rcases hat with h | h
    · injection h with h; exact .inl h.symm
    · exact .inr h)
/-- One more string. -/
theorem wpList_push1 (R : LR w0 w g m cap l) {ops : Array Oper} {rest : List Oper} {o : Oper} {a : Act} {Q : Exit → Act → World → Prop} (hgd : o.guard = none) (sl x : Operand)
    (ho : o.op = .call { callee := .builtin .append, args := #[sl, x], argTypes := #[63, 63] }) (hs : a.eval sl = .slice (some ⟨g, 0, none⟩) m cap) (H : Nat) (s : ByteArray) (hx : a.eval x = .slice (some ⟨H, 0, none⟩) 1 1)
    (hc : w.cell? ⟨H, 0, none⟩ = some (.string s)) (M : Nat) (hM : m + 1 = M) (hm : M ≤ 1000000)
    (h : ∀ g' cap' w', LR w0 w' g' M cap' (l ++ [.string s]) → w.grownBy w' (some g) → (g' = g ∨ g' = w.heap.size) → wpList Tryf.prog ops Q rest (a.put o.dst (.slice (some ⟨g', 0, none⟩) M cap')) w') :
    wpList Tryf.prog ops Q (o :: rest) a w :=
  wpList_pushL R hgd sl x ho hs ⟨H, 0, none⟩ 1 1 [.string s] hx rfl (fun j u hj => by
    match j with
    | 0 => simp at hj; subst hj; simpa [Addr.add] using hc
    | j + 1 => simp at hj) (by intro u hu; simp at hu; subst hu; rfl) (by omega) M hM hm h
end
theorem min33 (x y : Int) (w : World) (hx : -9223372036854775808 ≤ x ∧ x ≤ 9223372036854775807) (hy : -9223372036854775808 ≤ y ∧ y ≤ 9223372036854775807) : Calls Tryf.prog 33 #[.int .i64 x, .int .i64 y] w fun e w' => e = .returned (.int .i64 (min x y)) ∧ w = w' := by
  obtain ⟨x1, x2⟩ := hx
  obtain ⟨y1, y2⟩ := hy
  by_cases h : x < y
  · rw [Int.min_eq_left (by omega)]
    go_enter Tryf.func33, Tryf.ntmps33
    go_wp2
    go_ret
    exact ⟨rfl, rfl⟩
  · rw [Int.min_eq_right (by omega)]
    go_enter Tryf.func33, Tryf.ntmps33
    go_wp2
    go_ret
    exact ⟨rfl, rfl⟩
theorem max32 (x y : Int) (w : World) (hx : -9223372036854775808 ≤ x ∧ x ≤ 9223372036854775807) (hy : -9223372036854775808 ≤ y ∧ y ≤ 9223372036854775807) : Calls Tryf.prog 32 #[.int .i64 x, .int .i64 y] w fun e w' => e = .returned (.int .i64 (max x y)) ∧ w = w' := by
  obtain ⟨x1, x2⟩ := hx
  obtain ⟨y1, y2⟩ := hy
  by_cases h : x > y
  · rw [Int.max_eq_left (by omega)]
    go_enter Tryf.func32, Tryf.ntmps32
    go_wp2
    go_ret
    exact ⟨rfl, rfl⟩
  · rw [Int.max_eq_right (by omega)]
    go_enter Tryf.func32, Tryf.ntmps32
    go_wp2
    go_ret
    exact ⟨rfl, rfl⟩
theorem elem63 : Tryf.prog.underlying 63 = some (.slice (Tryf.prog.elem 63)) := by kernel_rfl
theorem size63 (w : World) : (sizeOf (Tryf.prog.elem 63)).run Tryf.prog w = .ok 1 w := by kernel_rfl
/-- Where a slice of the lines begins. -/
def offA (o a cap : Nat) : Nat := if cap = a then o else o + a
theorem slice63 (W : World) (g o a b m cap : Nat) (la lb : Int) (hla : la = a) (hlb : lb = b) (hab : a ≤ b) (hb : b ≤ cap) :
    (Instr.sliceAt 63 (.slice (some ⟨g, o, none⟩) m cap) (some (.int .i64 la)) (some (.int .i64 lb)) none).run Tryf.prog W = .ok (.slice (some ⟨g, offA o a cap, none⟩) (b - a) (cap - a)) W := by
  subst hla hlb
  rw [run_sliceAt_slice (h := elem63), run_slice_lh (ht := elem63) (h0 := by omega) (h1 := by omega) (h2 := by omega), size63]
  simp only [Result.andThen_ok, sliced, Int.toNat_natCast, Nat.mul_one]
  unfold offA
  split
  · rfl
  · simp [Addr.add]
theorem linesT_len {z : Nat → FR} {src : ByteArray} {ld : Int} {child : Bool} {n : Nat} (hz : ∀ i, i < n → 0 ≤ zt (z i) ∧ zt (z i) ≤ 65536) {d : Nat} (hd : d ≤ n) : ((linesT z src ld child n d).length : Int) = pz z n (n - d) := by
  induction d with
  | zero => rw [Nat.sub_zero, pz_top]; rfl
  | succ d ih =>
    have e := pz_step (z := z) (n := n) (n - 1 - d)
    rw [show n - 1 - d + 1 = n - d by omega] at e
    have h := hz (n - 1 - d) (by omega)
    rw [linesT, List.length_append, List.length_cons, List.length_replicate, show n - (d + 1) = n - 1 - d by omega, e, ← ih (by omega)]
    omega
/-- What GetStack hands over, j frames being left. -/
def GN (w : World) (pa j : Nat) (v8 v9 : Value) : Prop :=
  match j with
  | 0 => v9 = .bool false
  | j + 1 => v9 = .bool true ∧ ∃ dp, v8 = .pointer (some ⟨dp, 0, none⟩) ∧ w.cell? ⟨dp, 0, none⟩ = some (.pointer (some ⟨pa, j * 10, none⟩))
def GNPost (w : World) (pa j : Nat) (e : Ending) (w' : World) : Prop := ∃ v8 v9, e = .returned (.tuple #[v8, v9]) ∧ GN w' pa j v8 v9 ∧ Below w.heap.size w w'
section
variable {F : Interp} {w0 w : World} {pl n : Nat} {z : Nat → FR} {src : ByteArray} {ld : Int} {child : Bool} {B pa pcs : Nat} {pt : Option Addr}
theorem next28 (h : RN F w0 w pl n z src ld child B pa pcs pt) {d : Nat} (hd : d ≤ n) {l : Int} (hl : pz z n (n - d) = l) : Calls Tryf.prog 28 #[.pointer (some ⟨pl, 0, none⟩), .int .i64 l] w (GNPost w pa (n - d)) := by
  have h0 := pz_nonneg h.ok.tail (j := n - d) (by omega)
  have h1 := pz_le h.ok (j := n - d) (by omega)
  have c := get28 h.st h.ok.hn h.ok.tail l (by omega) (by omega)
  cases hj : n - d with
  | zero =>
    rw [hj] at hl
    rw [gs_end h.ok.tail (by omega)] at c
    exact c.mono (by rintro e w' ⟨dp, rfl, hb⟩; exact ⟨_, _, rfl, rfl, hb⟩)
  | succ j =>
    rw [hj] at hl
    rw [← hl, gs_at h.ok.tail (by omega)] at c
    rw [← hl]
    exact c.mono (by rintro e w' ⟨dp, ⟨rfl, hc⟩, hb⟩; exact ⟨_, _, rfl, ⟨rfl, dp, rfl, hc⟩, hb⟩)
theorem where_at (h : RN F w0 w pl n z src ld child B pa pcs pt) {k : Nat} (hk : k < n) {l : Int} (hl : pz z n (k + 1) = l) : Calls Tryf.prog 30 #[.pointer (some ⟨pl, 0, none⟩), .int .i64 l] w (WPost (wtext (z k) src) w) := by
  have h0 := pz_nonneg h.ok.tail (j := k + 1) (by omega)
  have h1 := pz_le h.ok (j := k + 1) (by omega)
  have hg := gs_at h.ok.tail hk
  rw [hl] at hg
  refine where30 ?_
  cases hg' : (z k).g
  · exact where_lua h l (by omega) (by omega) hg hg' false
  · exact where_g h l (by omega) (by omega) hg hg'
end
end Go.Proofs.YtlpnagpdjkgbcaaFmt
