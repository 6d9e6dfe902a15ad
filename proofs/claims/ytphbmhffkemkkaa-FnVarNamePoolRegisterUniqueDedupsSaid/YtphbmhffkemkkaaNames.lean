/- The laws on the pool of names: what is registered is what is read, listed and found; unique registration dedups. -/
import Derived.Test.YtphbmhffkemkkaaPool
namespace Go.Proofs.Ytphbmhffkemkkaa
open Go.RowKit Go.ChangeShapes Go.Deep
def SomeB (P : Prop) (w : World) (e : Ending) (w' : World) : Prop := ∃ b : Bool, e = .returned (.bool b) ∧ w = w' ∧ (b = true → P)
theorem below_drewN {B : Nat} {a w : World} (h : Below B a w) (n : Nat) : Below B a (w.drewN n) := ⟨h.os, h.tape, h.output, h.size, h.block⟩
def SomeI (w : World) (e : Ending) (w' : World) : Prop := ∃ q : Int, e = .returned (.int .i64 q) ∧ w = w'
theorem cloneStrs_info : (Try.prog.info? 9).map (fun i => (i.zero, i.size, i.bytes)) = some (some (.string ByteArray.empty), 1, 16) := by kernel_rfl
set_option maxHeartbeats 400000 in
theorem cloneStrs (A : Option Addr) (n c : Nat) (z : Nat → ByteArray) (w : World) (ha : Arr w A n c (fun i => .string (z i))) (hn : n ≤ 1048576) :
    Calls Try.prog 24 #[.slice A n c] w fun e w' => ∃ A', e = .returned (.slice A' n n) ∧ Own w' w.heap.size 9 A' n (fun i => .string (z i)) ∧ Below w.heap.size w w' := by
  have hnil := fun w => Lib.run_eql_slice_nil (P := Try.prog) w 33 9 A n c 0 0 Try.underlying33
  rcases ha.some_ with ⟨rfl, rfl, rfl⟩ | ⟨x, rfl⟩
  · go_enter Try.func24, Try.ntmps24
    go_wp2
    go_ret
    exact ⟨none, rfl, .inl ⟨rfl, rfl⟩, Below.refl _ _⟩
  · have hmk := run_make_row' (P := Try.prog) 33 9 (.string ByteArray.empty) 16 Try.underlying33 cloneStrs_info rfl .i64 .i64 n (by omega) (by omega)
    go_enter Try.func24, Try.ntmps24
    go_wp2
    go_loopw [4] (fun i wr => ∃ k : Nat, k ≤ n ∧ i = .int .i64 k ∧ wr.rowIs w.heap.size 9 n (fun j => .string (if j < k then z j else ByteArray.empty)) ∧ Below w.heap.size w wr) (fun i _ => n - (intOf i).toNat)
    case atStart => exact ⟨0, Nat.zero_le _, rfl, World.rowIs_made w _ n 9, by go_grown⟩
    case round =>
      obtain ⟨k, hk, rfl, hrow, hb⟩ := hrel
      by_cases hkn : k < n
      · obtain ⟨b, off, hx, hlt, hc⟩ := ha.at_ hkn
        injection hx with hx
        subst hx
        have c1 : wr.cell? ⟨b, off + k, none⟩ = some (.string (z k)) := (hb.cell (p := ⟨b, off + k, none⟩) hlt).trans hc
        have c2 := hrow.cell hkn
        simp only [Nat.lt_irrefl, if_false] at c2
        have c3 := hrow.frozen k
        have hrow' := (hrow.set k (.string (z k))).congr (g := fun j => .string (if j < k + 1 then z j else ByteArray.empty)) (fun i hi => by
          by_cases h1 : i = k
          · subst h1; simp
          · by_cases h2 : i < k
            · simp [h1, h2, show i < k + 1 by omega]
            · simp [h1, h2, show ¬ i < k + 1 by omega])
        have hb' := hb.setCell (p := ⟨w.heap.size, k, none⟩) (Nat.le_refl _) (.string (z k))
        have H1 := Lib.hid hrow'
        have H2 := Lib.hid hb'
        clear hrow' hb' hrow hb hc ha hnil hmk
        go_wp2
        go_roundw
        case rel => exact ⟨k + 1, by omega, by go_num, H1.out, H2.out⟩
        case measure => simp [intOf]; omega
      · have hkn' : k = n := by omega
        subst hkn'
        clear hnil hmk
        go_wp2
        go_ret
        exact ⟨_, rfl, .inr ⟨_, rfl, Nat.le_refl _, hrow.congr (fun i hi => by simp [hi])⟩, hb⟩

theorem bytes22 (a0 : Int) (A1 : Option Addr) (n1 c1 : Nat) (z1 : Nat → ByteArray) (w : World) (h1 : Arr w A1 n1 c1 (fun i => .string (z1 i))) :
    Calls Try.prog 22 #[.int .i64 a0, .slice A1 n1 c1] w (SomeB (n1 ≤ 1048576) w) := by
  have m1 := h1.len
  unfold maxLen at m1
  by_cases b1 : 1048576 < n1
  · go_enter Try.func22, Try.ntmps22
    go_wp2
    go_ret
    exact ⟨false, rfl, rfl, fun h => by cases h⟩
  · have e1 : n1 ≤ 1048576 := by omega
    go_enter Try.func22, Try.ntmps22
    go_wp2
    go_loop [5, 6] (fun t i => ∃ (k : Nat) (q : Int), k ≤ n1 ∧ i = .int .i64 k ∧ t = .int .i64 q ∧ 0 ≤ q ∧ q ≤ 1048576) (fun _ i => n1 - (intOf i).toNat)
    case atStart => exact ⟨0, _, Nat.zero_le _, rfl, rfl, by omega, by omega⟩
    case round =>
      obtain ⟨k1, q1, hk1, rfl, rfl, hq1, hr1⟩ := hrel
      by_cases hkn1 : k1 < n1
      · obtain ⟨b, off, hx, _, hc⟩ := h1.at_ hkn1
        subst hx
        by_cases u1 : 1048576 < (z1 k1).size
        · go_wp2
          go_ret
          exact ⟨false, rfl, rfl, fun h => by cases h⟩
        · have u1' : (z1 k1).size ≤ 1048576 := by omega
          by_cases u2 : 1048576 < q1 + ((z1 k1).size : Int)
          · go_wp2
            go_ret
            exact ⟨false, rfl, rfl, fun h => by cases h⟩
          · have u2' : q1 + ((z1 k1).size : Int) ≤ 1048576 := by omega
            go_wp2
            go_round
            case rel => exact ⟨k1 + 1, _, by omega, by go_num, rfl, by omega, by omega⟩
            case measure => simp [intOf]; omega
      · have hke1 : ¬ k1 < n1 := hkn1
        go_wp2
        go_ret
        exact ⟨true, rfl, rfl, fun _ => by first | trivial | omega⟩

theorem bytes31 (a0 : Int) (A1 : Option Addr) (n1 c1 : Nat) (z1 : Nat → ByteArray) (w : World) (h1 : Arr w A1 n1 c1 (fun i => .string (z1 i))) :
    Calls Try.prog 31 #[.int .i64 a0, .slice A1 n1 c1] w (SomeB (n1 ≤ 1048576) w) := by
  have m1 := h1.len
  unfold maxLen at m1
  by_cases b1 : 1048576 < n1
  · go_enter Try.func31, Try.ntmps31
    go_wp2
    go_ret
    exact ⟨false, rfl, rfl, fun h => by cases h⟩
  · have e1 : n1 ≤ 1048576 := by omega
    go_enter Try.func31, Try.ntmps31
    go_wp2
    go_loop [5, 6] (fun t i => ∃ (k : Nat) (q : Int), k ≤ n1 ∧ i = .int .i64 k ∧ t = .int .i64 q ∧ 0 ≤ q ∧ q ≤ 1048576) (fun _ i => n1 - (intOf i).toNat)
    case atStart => exact ⟨0, _, Nat.zero_le _, rfl, rfl, by omega, by omega⟩
    case round =>
      obtain ⟨k1, q1, hk1, rfl, rfl, hq1, hr1⟩ := hrel
      by_cases hkn1 : k1 < n1
      · obtain ⟨b, off, hx, _, hc⟩ := h1.at_ hkn1
        subst hx
        by_cases u1 : 1048576 < (z1 k1).size
        · go_wp2
          go_ret
          exact ⟨false, rfl, rfl, fun h => by cases h⟩
        · have u1' : (z1 k1).size ≤ 1048576 := by omega
          by_cases u2 : 1048576 < q1 + ((z1 k1).size : Int)
          · go_wp2
            go_ret
            exact ⟨false, rfl, rfl, fun h => by cases h⟩
          · have u2' : q1 + ((z1 k1).size : Int) ≤ 1048576 := by omega
            go_wp2
            go_round
            case rel => exact ⟨k1 + 1, _, by omega, by go_num, rfl, by omega, by omega⟩
            case measure => simp [intOf]; omega
      · have hke1 : ¬ k1 < n1 := hkn1
        go_wp2
        go_ret
        exact ⟨true, rfl, rfl, fun _ => by first | trivial | omega⟩

theorem bytes33 (a0 : Int) (A1 : Option Addr) (n1 c1 : Nat) (z1 : Nat → ByteArray) (w : World) (h1 : Arr w A1 n1 c1 (fun i => .string (z1 i))) :
    Calls Try.prog 33 #[.int .i64 a0, .slice A1 n1 c1] w (SomeB (n1 ≤ 1048576) w) := by
  have m1 := h1.len
  unfold maxLen at m1
  by_cases b1 : 1048576 < n1
  · go_enter Try.func33, Try.ntmps33
    go_wp2
    go_ret
    exact ⟨false, rfl, rfl, fun h => by cases h⟩
  · have e1 : n1 ≤ 1048576 := by omega
    go_enter Try.func33, Try.ntmps33
    go_wp2
    go_loop [5, 6] (fun t i => ∃ (k : Nat) (q : Int), k ≤ n1 ∧ i = .int .i64 k ∧ t = .int .i64 q ∧ 0 ≤ q ∧ q ≤ 1048576) (fun _ i => n1 - (intOf i).toNat)
    case atStart => exact ⟨0, _, Nat.zero_le _, rfl, rfl, by omega, by omega⟩
    case round =>
      obtain ⟨k1, q1, hk1, rfl, rfl, hq1, hr1⟩ := hrel
      by_cases hkn1 : k1 < n1
      · obtain ⟨b, off, hx, _, hc⟩ := h1.at_ hkn1
        subst hx
        by_cases u1 : 1048576 < (z1 k1).size
        · go_wp2
          go_ret
          exact ⟨false, rfl, rfl, fun h => by cases h⟩
        · have u1' : (z1 k1).size ≤ 1048576 := by omega
          by_cases u2 : 1048576 < q1 + ((z1 k1).size : Int)
          · go_wp2
            go_ret
            exact ⟨false, rfl, rfl, fun h => by cases h⟩
          · have u2' : q1 + ((z1 k1).size : Int) ≤ 1048576 := by omega
            go_wp2
            go_round
            case rel => exact ⟨k1 + 1, _, by omega, by go_num, rfl, by omega, by omega⟩
            case measure => simp [intOf]; omega
      · have hke1 : ¬ k1 < n1 := hkn1
        go_wp2
        go_ret
        exact ⟨true, rfl, rfl, fun _ => by first | trivial | omega⟩

theorem bytes16 (a0 : Int) (a1 : ByteArray) (w : World) (h1 : a1.size ≤ maxLen) :
    Calls Try.prog 16 #[.int .i64 a0, .string a1] w (SomeB (a1.size ≤ 1048576) w) := by
  have m1 := h1
  unfold maxLen at m1
  by_cases b1 : 1048576 < a1.size
  · go_enter Try.func16, Try.ntmps16
    go_wp2
    go_ret
    exact ⟨false, rfl, rfl, fun h => by cases h⟩
  · have e1 : a1.size ≤ 1048576 := by omega
    go_enter Try.func16, Try.ntmps16
    go_wp2
    go_ret
    exact ⟨true, rfl, rfl, fun _ => by first | trivial | omega⟩

theorem sbytes (A : Option Addr) (n c : Nat) (z : Nat → ByteArray) (w : World) (ha : Arr w A n c (fun i => .string (z i))) (hn : n ≤ 1048576) :
    Calls Try.prog 23 #[.slice A n c] w (SomeI w) := by
  go_enter Try.func23, Try.ntmps23
  go_wp2
  go_loop [3, 4] (fun t i => ∃ (k : Nat) (q : Int), k ≤ n ∧ i = .int .i64 k ∧ t = .int .i64 q) (fun _ i => n - (intOf i).toNat)
  case atStart => exact ⟨0, _, Nat.zero_le _, rfl, rfl⟩
  case round =>
    obtain ⟨k, q, hk, rfl, rfl⟩ := hrel
    by_cases hkn : k < n
    · obtain ⟨b, off, hx, _, hc⟩ := ha.at_ hkn
      subst hx
      go_wp2
      go_round
      case rel => exact ⟨k + 1, _, by omega, by go_num, rfl⟩
      case measure => simp [intOf]; omega
    · go_wp2
      go_ret
      exact ⟨_, rfl, rfl⟩


theorem pool_newZ (off : Int) (w : World) : Calls Try.prog 17 #[.int .i64 off] w fun e w' => e = .returned (.pointer (some ⟨w.heap.size + 1, 0, none⟩)) ∧
    VPool w' (fun x => w.heap.size ≤ x ∧ x < w'.heap.size) (w.heap.size + 1) off [] ∧ Below w.heap.size w w' := by
  go_enter Try.func17, Try.ntmps17
  go_wp2_with (go_at_call 36; refine (pool_new off _).mono ?_; rintro e w' ⟨rfl, h1, h2, h3⟩)
  go_ret
  exact ⟨rfl, h1, h2⟩
theorem VP.drewN {w : World} {own : Nat → Prop} {p : Nat} {off : Int} {names : List ByteArray} {gn cn : Nat} (h : VP w own p off names gn cn) (k : Nat) : VP (w.drewN k) own p off names gn cn := ⟨h.row, h.nm, h.op, h.on⟩
theorem VPool.drewN {w : World} {own : Nat → Prop} {p : Nat} {off : Int} {names : List ByteArray} (h : VPool w own p off names) (k : Nat) : VPool (w.drewN k) own p off names := by
  obtain ⟨gn, cn, h⟩ := h; exact ⟨gn, cn, h.drewN k⟩
theorem VP.fr {w w' : World} {own o : Nat → Prop} {p : Nat} {off : Int} {names : List ByteArray} {gn cn : Nat} (h : VP w own p off names gn cn) (hf : Fr o w w') (ho : ∀ x, own x → ¬ o x) : VP w' own p off names gn cn :=
  ⟨hf.row h.row (ho _ h.op), hf.own h.nm (fun k hk => by simp [Value.ownBlock] at hk; subst hk; exact ho _ h.on), h.op, h.on⟩
theorem VP.below {w w' : World} {own : Nat → Prop} {p : Nat} {off : Int} {names : List ByteArray} {gn cn : Nat} (h : VP w own p off names gn cn) (hb : Below w.heap.size w w') : VP w' own p off names gn cn :=
  VP.fr (o := fun _ => False) h (Fr.mono (Fr.of_below hb (fun _ => False)) (fun _ h => .inl h)) (fun _ _ h => h)
set_option maxRecDepth 100000 in
theorem law4 (off : Int) (probe : ByteArray) (h0 : -9223372036854775808 ≤ off) (h1 : off ≤ 9223372036854775807) (hp : probe.size ≤ maxLen) (w : World) :
    Calls Try.prog 4 #[.int .i64 off, .string probe] w fun e w' => e = .returned (.bool true) ∧ Below w.heap.size w w' := by
  have hnil := fun w a n c => Lib.run_eql_slice_nil (P := Try.prog) w 33 9 a n c 0 0 Try.underlying33
  go_enter Try.func4, Try.ntmps4
  go_wp2_with fail
  refine (bytes16 off probe _ hp).mono ?_
  rintro e w' ⟨b, rfl, rfl, hb⟩
  cases b with
  | false =>
    clear hb
    go_wp2
    go_ret
    exact ⟨rfl, Below.refl _ _⟩
  | true =>
    have hs := hb rfl
    clear hb hp
    have hw : wrap64 (off + ((0 : Nat) : Int)) = off := by unfold wrap64; omega
    go_wp2_with fail
    refine (pool_newZ off _).mono ?_
    rintro e w1 ⟨rfl, ⟨gn, cn, hV⟩, hb1⟩
    have c18 := pool_names hV
    have c19 := pool_list ⟨gn, cn, hV⟩ (Nat.zero_le _)
    have c20 : ∀ w2, VP w2 (fun x => w.heap.size ≤ x ∧ x < w1.heap.size) (w.heap.size + 1) off [] gn cn → Calls Try.prog 20 #[.pointer (some ⟨w.heap.size + 1, 0, none⟩)] w2 fun e w' => e = .returned (.int .i64 off) ∧ ∃ n, w' = w2.drewN n := fun w2 h => by
      have := pool_lastIndex ⟨gn, cn, h⟩
      rwa [List.length_nil, hw] at this
    have c21 : ∀ w2, VP w2 (fun x => w.heap.size ≤ x ∧ x < w1.heap.size) (w.heap.size + 1) off [] gn cn → Calls Try.prog 21 #[.pointer (some ⟨w.heap.size + 1, 0, none⟩), .string probe] w2 fun e w' => e = .returned (.int .i64 (-1)) ∧ w2 = w' := fun w2 h => pool_find_no ⟨gn, cn, h⟩ (Nat.zero_le _) probe (fun i hi => by simp at hi)
    simp only [List.length_nil] at c18 c19
    clear hw
    go_wp2_with (first
      | (go_at_call 18; refine c18.mono ?_; rintro e w2 ⟨rfl, rfl⟩)
      | (go_at_call 19; refine c19.mono ?_; rintro e w3 ⟨rfl, hr3, hb3, hz3⟩; have hV3 := hV.below hb3)
      | (go_at_call 20; refine (c20 _ hV3).mono ?_; rintro e w4 ⟨rfl, m4, rfl⟩)
      | (go_at_call 21; refine (c21 _ (hV3.drewN _)).mono ?_; rintro e w5 ⟨rfl, rfl⟩))
    go_ret
    exact ⟨rfl, below_drewN (hb1.trans (hb3.mono hb1.size)) _⟩

/-- In the loop of the laws: the names registered so far. -/
structure Rel5 (w : World) (A : Option Addr) (n : Nat) (s : Nat → ByteArray) (p : Nat) (off : Int) (B k : Nat) (wr : World) (own : Nat → Prop) : Prop where
  pool : VPool wr own p off ((List.range k).map s)
  bd : ∀ x, own x → B ≤ x ∧ x < wr.heap.size
  arr : Own wr w.heap.size 9 A n (fun i => .string (s i))
  ga : ∀ g, A = some ⟨g, 0, none⟩ → g < B
  bel : Below w.heap.size w wr
  wB : w.heap.size ≤ B
  Bw : B ≤ wr.heap.size
theorem own_lt {w1 : World} {B n : Nat} {e : TypeId} {A : Option Addr} {f : Nat → Value} (hA : Own w1 B e A n f) : ∀ g, A = some ⟨g, 0, none⟩ → g < w1.heap.size := by
  intro g hg
  rcases hA with ⟨h, _⟩ | ⟨g', h, _, hr⟩
  · rw [h] at hg; cases hg
  · rw [h] at hg; injection hg with hg; injection hg with hg; subst hg; exact hr.lt
theorem own_below {w w' : World} {B n : Nat} {e : TypeId} {A : Option Addr} {f : Nat → Value} (h : Own w B e A n f) (hb : Below w.heap.size w w') : Own w' B e A n f := h.below hb (Nat.le_refl _)
theorem rel5_start {w w1 w2 : World} {A : Option Addr} {n p : Nat} {s : Nat → ByteArray} {off : Int} (hA : Own w1 w.heap.size 9 A n (fun i => .string (s i))) (hb1 : Below w.heap.size w w1)
    (hst : VPool w2 (fun x => w1.heap.size ≤ x ∧ x < w2.heap.size) p off []) (hb2 : Below w1.heap.size w1 w2) : Rel5 w A n s p off w1.heap.size 0 w2 (fun x => w1.heap.size ≤ x ∧ x < w2.heap.size) :=
  ⟨hst, fun _ hx => hx, own_below hA hb2, own_lt hA, hb1.trans (hb2.mono hb1.size), hb1.size, hb2.size⟩
theorem rel5_step {w : World} {A : Option Addr} {n : Nat} {s : Nat → ByteArray} {p : Nat} {off : Int} {B k : Nat} {wr w' : World} {own : Nat → Prop} (R : Rel5 w A n s p off B k wr own)
    (hc : VPool w' (fun x => own x ∨ (wr.heap.size ≤ x ∧ x < w'.heap.size)) p off ((List.range k).map s ++ [s k])) (hf : Fr own wr w') : Rel5 w A n s p off B (k + 1) w' (fun x => own x ∨ (wr.heap.size ≤ x ∧ x < w'.heap.size)) := by
  have hz := hf.size
  refine ⟨?_, ?_, R.arr.fr hf (fun g hA hx => by have := R.ga g hA; have := R.bd g hx; omega), R.ga, R.bel.trans (hf.below R.bel.size (fun x hx => by have := R.bd x hx; have := R.wB; omega)), R.wB, Nat.le_trans R.Bw hz⟩
  · simpa [List.range_succ] using hc
  · rintro x (hx | hx)
    · have := R.bd x hx; exact ⟨this.1, by omega⟩
    · have := R.Bw; exact ⟨by omega, hx.2⟩
theorem nth_range (s : Nat → ByteArray) {n i : Nat} (h : i < n) : nth ((List.range n).map s) i = s i := by
  simp [nth, List.getD, List.getElem?_map, List.getElem?_range h]
theorem ne_self (a : ByteArray) : (a.toList != a.toList) = false := by simp
set_option maxRecDepth 100000 in
set_option maxHeartbeats 400000 in
theorem law5 (off : Int) (A : Option Addr) (n c : Nat) (s : Nat → ByteArray) (w : World) (ha : Arr w A n c (fun i => .string (s i))) :
    Calls Try.prog 5 #[.int .i64 off, .slice A n c] w fun e w' => e = .returned (.bool true) ∧ Below w.heap.size w w' := by
  go_enter Try.func5, Try.ntmps5
  go_wp2_with fail
  refine (bytes22 off A n c s _ ha).mono ?_
  rintro e w' ⟨b, rfl, rfl, hb⟩
  cases b with
  | false =>
    clear hb
    go_wp2
    go_ret
    exact ⟨rfl, Below.refl _ _⟩
  | true =>
    have hs := hb rfl
    clear hb
    by_cases h2 : 131072 < n
    · go_wp2
      go_ret
      exact ⟨rfl, Below.refl _ _⟩
    · have h2' : n ≤ 131072 := by omega
      clear h2
      go_wp2_with fail
      refine (sbytes A n c s _ ha hs).mono ?_
      rintro e w' ⟨q, rfl, rfl⟩
      by_cases hq : 1048576 < q
      · go_wp2
        go_ret
        exact ⟨rfl, Below.refl _ _⟩
      · have hq' : q ≤ 1048576 := by omega
        clear hq
        go_wp2_with (first
          | (go_at_call 24; refine (cloneStrs _ _ _ _ _ ha hs).mono ?_; rintro e w1 ⟨A', rfl, hA', hb1⟩)
          | (go_at_call 17; refine (pool_newZ off _).mono ?_; rintro e w2 ⟨rfl, hV, hb2⟩))
        go_loopw [6] (fun i wr => ∃ k : Nat, k ≤ n ∧ i = .int .i64 k ∧ ∃ own, Rel5 w A' n s (w1.heap.size + 1) off w1.heap.size k wr own) (fun i _ => n - (intOf i).toNat)
        case atStart => exact ⟨0, Nat.zero_le _, rfl, _, rel5_start hA' hb1 hV hb2⟩
        case round =>
          obtain ⟨k, hk, rfl, own, R⟩ := hrel
          by_cases hkn : k < n
          · obtain ⟨g, hA, hgB, hgs, hrow⟩ := R.arr.at_ hkn
            have R' := Lib.hid R
            subst hA
            have c1 := hrow.cell hkn
            have c25 : Calls Try.prog 25 #[.pointer (some ⟨w1.heap.size + 1, 0, none⟩), .string (s k)] wr _ := pool_register R.pool (by simp; omega) (s k)
            have e1 : wrap64 ((((List.range k).map s).length : Int) + off) = wrap64 (off + (k : Int)) := by rw [List.length_map, List.length_range, Int.add_comm]
            rw [e1] at c25
            clear R hrow e1
            go_wp2_with (go_at_call 25; refine c25.mono ?_; rintro e w4 ⟨rfl, hst4, hfr4⟩)
            go_roundw
            case rel => exact ⟨k + 1, by omega, by go_num, _, rel5_step R'.out hst4 hfr4⟩
            case measure => simp [intOf]; omega
          · have hkn' : k = n := by omega
            subst hkn'
            obtain ⟨gn, cn, hV2⟩ := R.pool
            have hlen : ((List.range k).map s).length = k := by simp
            have c18 := pool_names hV2
            rw [hlen] at c18
            have c20 : ∀ M, Calls Try.prog 20 #[.pointer (some ⟨w1.heap.size + 1, 0, none⟩)] (wr.drewN M) fun e w' => e = .returned (.int .i64 (wrap64 (off + (k : Int)))) ∧ ∃ n, w' = (wr.drewN M).drewN n := fun M => by
              have h := pool_lastIndex ⟨gn, cn, hV2.drewN M⟩
              rwa [hlen] at h
            have cx : ∀ i, i < k → wr.cell? ⟨gn, i, none⟩ = some (.string (s i)) := fun i hi => by
              have := hV2.at_ (i := i) (by rw [hlen]; exact hi)
              rwa [nth_range s hi] at this
            have CX := Lib.hid cx
            have R' := Lib.hid R
            clear cx hlen hV2 R
            go_wp2_with (go_at_call 18; refine c18.mono ?_; rintro e w4 ⟨rfl, rfl⟩)
            obtain ⟨wz, rfl⟩ : ∃ wz : World, wz = wr := ⟨_, rfl⟩
            go_loopw [8] (fun i wq => ∃ j : Nat, j ≤ k ∧ i = .int .i64 j ∧ ∃ M, wq = wz.drewN M) (fun i _ => k - (intOf i).toNat)
            case atStart => exact ⟨0, by omega, rfl, 0, rfl⟩
            case round =>
              obtain ⟨i, hi, rfl, M, rfl⟩ := hrel
              by_cases him : i < k
              · obtain ⟨g, hA, hgB, hgs, hrow⟩ := R'.out.arr.at_ him
                subst hA
                have d1 := CX.out i him
                have d2 := hrow.cell him
                have hne := ne_self (s i)
                clear hrow
                go_wp2
                go_quiet (fail)
                go_wp2
                go_roundw
                case rel => exact ⟨i + 1, by omega, by go_num, _, rfl⟩
                case measure => simp [intOf]; omega
              · go_wp2_with (go_at_call 20; refine (c20 _).mono ?_; rintro e w4 ⟨rfl, m4, rfl⟩)
                go_ret
                exact ⟨rfl, below_drewN R'.out.bel _⟩

theorem ru_found {w : World} {own : Nat → Prop} {p : Nat} {off : Int} {names : List ByteArray} (h : VPool w own p off names) (hn : names.length ≤ 1048576) (name : ByteArray) (j : Nat) (hj : j < names.length) (hyes : (nth names j).toList = name.toList) (hno : ∀ i, j < i → i < names.length → (nth names i).toList ≠ name.toList) (h0 : 0 ≤ off) (h1 : off + j ≤ 9223372036854775807) :
    Calls Try.prog 34 #[.pointer (some ⟨p, 0, none⟩), .string name] w fun e w' => e = .returned (.int .i64 (off + (j : Int))) ∧ w = w' := by
  have c21 := pool_find_yes h hn name j hj hyes hno
  have e1 : wrap64 ((j : Int) + off) = off + (j : Int) := by unfold wrap64; omega
  rw [e1] at c21
  clear e1
  go_enter Try.func34, Try.ntmps34
  go_wp2_with (go_at_call 21; refine c21.mono ?_; rintro e w' ⟨rfl, rfl⟩)
  go_ret
  exact ⟨rfl, rfl⟩
theorem ru_new {w : World} {own : Nat → Prop} {p : Nat} {off : Int} {names : List ByteArray} (h : VPool w own p off names) (hn : names.length ≤ 1048575) (name : ByteArray) (hno : ∀ i, i < names.length → (nth names i).toList ≠ name.toList) (h0 : 0 ≤ off) (h1 : off + names.length ≤ 9223372036854775807) :
    Calls Try.prog 34 #[.pointer (some ⟨p, 0, none⟩), .string name] w fun e w' => e = .returned (.int .i64 (off + (names.length : Int))) ∧ VPool w' (fun k => own k ∨ (w.heap.size ≤ k ∧ k < w'.heap.size)) p off (names ++ [name]) ∧ Fr own w w' := by
  have c21 := pool_find_no h (by omega) name hno
  have c25 : Calls Try.prog 25 #[.pointer (some ⟨p, 0, none⟩), .string name] w _ := pool_register h hn name
  have e1 : wrap64 ((names.length : Int) + off) = off + (names.length : Int) := by unfold wrap64; omega
  rw [e1] at c25
  obtain ⟨L, hL⟩ : ∃ L, names.length = L := ⟨_, rfl⟩
  rw [hL] at c25
  rw [hL]
  clear e1 h1 hn hL hno
  go_enter Try.func34, Try.ntmps34
  go_wp2_with (first | (go_at_call 21; refine c21.mono ?_; rintro e w' ⟨rfl, rfl⟩) | (go_at_call 25; refine c25.mono ?_; rintro e w' ⟨rfl, hv, hf⟩))
  go_ret
  exact ⟨rfl, hv, hf⟩
abbrev OS (w : World) (g n cap : Nat) (xs : List Value) : Prop := w.ownsRow 0 9 1 (.slice (some ⟨g, 0, none⟩) n cap) n xs
structure Rel9 (w : World) (A : Option Addr) (n : Nat) (s : Nat → ByteArray) (p : Nat) (off : Int) (B k : Nat) (wr : World) (own : Nat → Prop) (D : List ByteArray) (gd cd L : Nat) : Prop where
  pool : VPool wr own p off D
  dist : OS wr gd L cd (strsV D)
  len : D.length = L
  le : L ≤ k
  nodup : ∀ i j, i < j → j < L → (nth D i).toList ≠ (nth D j).toList
  bd : ∀ x, own x → B ≤ x ∧ x < wr.heap.size
  nog : ¬ own gd
  gB : B ≤ gd
  gz : gd < wr.heap.size
  arr : Own wr w.heap.size 9 A n (fun i => .string (s i))
  ga : ∀ g, A = some ⟨g, 0, none⟩ → g < B
  bel : Below w.heap.size w wr
  wB : w.heap.size ≤ B
  Bw : B ≤ wr.heap.size
theorem nth_append_left (D : List ByteArray) (x : ByteArray) {i : Nat} (h : i < D.length) : nth (D ++ [x]) i = nth D i := by
  simp [nth, List.getD, List.getElem?_append_left h]
theorem nth_append_last (D : List ByteArray) (x : ByteArray) : nth (D ++ [x]) D.length = x := by
  simp [nth, List.getD]
theorem rel9_start {w w1 w2 : World} {A : Option Addr} {n p : Nat} {s : Nat → ByteArray} {off : Int} (hA : Own w1 w.heap.size 9 A n (fun i => .string (s i))) (hb1 : Below w.heap.size w w1)
    (hst : VPool w2 (fun x => w1.heap.size ≤ x ∧ x < w2.heap.size) p off []) (hb2 : Below w1.heap.size w1 w2) (C : Array Value) (hC : C.size = n) (hn : n ≤ maxLen) :
    Rel9 w A n s p off w1.heap.size 0 (w2.alloc (.cells C 9)) (fun x => w1.heap.size ≤ x ∧ x < w2.heap.size) [] w2.heap.size n 0 := by
  have hz := hb2.size
  obtain ⟨gn, cn, hv⟩ := hst
  refine ⟨⟨gn, cn, ⟨hv.row.alloc _, hv.nm.alloc _, hv.op, hv.on⟩⟩, World.ownsRow_made (base := 0) (size := 1) w2 C n (Nat.zero_le _) hn (by rw [hC, Nat.mul_one]), rfl, Nat.le_refl _, fun i j _ h => by omega, fun x hx => ⟨hx.1, by simp; omega⟩, fun h => by omega, hz, by simp, own_below hA (hb2.alloc (by omega) _), own_lt hA, (hb1.trans (hb2.mono hb1.size)).alloc (by have := hb1.size; omega) _, hb1.size, by simp; omega⟩
theorem rel9_same {w : World} {A : Option Addr} {n : Nat} {s : Nat → ByteArray} {p : Nat} {off : Int} {B k : Nat} {wr : World} {own : Nat → Prop} {D : List ByteArray} {gd cd L : Nat} (R : Rel9 w A n s p off B k wr own D gd cd L) (M : Nat) : Rel9 w A n s p off B (k + 1) (wr.drewN M) own D gd cd L :=
  ⟨R.pool.drewN M, R.dist, R.len, by have := R.le; omega, R.nodup, R.bd, R.nog, R.gB, R.gz, R.arr, R.ga, below_drewN R.bel M, R.wB, R.Bw⟩
/-- The new name in the model, ahead of the pool's own. -/
theorem rel9_mid {w : World} {A : Option Addr} {n : Nat} {s : Nat → ByteArray} {p : Nat} {off : Int} {B k : Nat} {wr w4 : World} {own : Nat → Prop} {D : List ByteArray} {gd cd L : Nat} {x : ByteArray} (R : Rel9 w A n s p off B k wr own D gd cd L)
    (hg : (wr.alloc (.cells #[.string x] 9)).grownBy w4 (some gd)) : VPool w4 own p off D := by
  obtain ⟨gn, cn, hv⟩ := R.pool
  have f2 : Fr (fun t => t = gd) wr w4 := ((Fr.refl _ wr).alloc _).grown hg (fun k hk => by left; injection hk with hk; exact hk.symm)
  exact ⟨gn, cn, hv.fr f2 (fun y hy e => by subst e; exact R.nog hy)⟩
theorem rel9_new {w : World} {A : Option Addr} {n : Nat} {s : Nat → ByteArray} {p : Nat} {off : Int} {B k : Nat} {wr w4 w5 : World} {own : Nat → Prop} {D : List ByteArray} {gd cd L g4 c4 : Nat} {x : ByteArray} (R : Rel9 w A n s p off B k wr own D gd cd L)
    (ho : OS w4 g4 (L + 1) c4 (strsV D ++ [.string x])) (hg : (wr.alloc (.cells #[.string x] 9)).grownBy w4 (some gd)) (hat : some gd = some g4 ∨ g4 = (wr.alloc (.cells #[.string x] 9)).heap.size) (hlt : g4 < w4.heap.size)
    (hno : ∀ i, i < L → (nth D i).toList ≠ x.toList)
    (hv5 : VPool w5 (fun t => own t ∨ (w4.heap.size ≤ t ∧ t < w5.heap.size)) p off (D ++ [x])) (hf : Fr own w4 w5) :
    Rel9 w A n s p off B (k + 1) w5 (fun t => own t ∨ (w4.heap.size ≤ t ∧ t < w5.heap.size)) (D ++ [x]) g4 c4 (L + 1) := by
  have hz := hf.size
  have hz2 : wr.heap.size + 1 ≤ w4.heap.size := by have := hg.size; simpa using this
  have hgz := R.gz
  have e2 : g4 = gd ∨ g4 = wr.heap.size + 1 := by
    rcases hat with h | h
    · injection h with h; exact .inl h.symm
    · exact .inr (by simpa using h)
  have hngd := R.nog
  have f2 : Fr (fun t => t = gd) wr w4 := ((Fr.refl _ wr).alloc _).grown hg (fun k hk => by left; injection hk with hk; exact hk.symm)
  have ng4 : ¬ own g4 := by
    rcases e2 with rfl | rfl
    · exact hngd
    · intro h; have := R.bd _ h; omega
  have hb4 : B ≤ g4 := by
    rcases e2 with rfl | rfl
    · exact R.gB
    · have := R.Bw; omega
  refine ⟨hv5, ?_, by simp [R.len], by have := R.le; omega, ?_, ?_, ?_, hb4, by omega, ?_, R.ga, ?_, R.wB, by have := R.Bw; omega⟩
  · have := hf.own ho (fun t ht hx => by simp [Value.ownBlock] at ht; subst ht; exact ng4 hx)
    simpa [strsV] using this
  · intro i j hij hj
    have hl := R.len
    by_cases hjl : j < L
    · rw [nth_append_left _ _ (by omega), nth_append_left _ _ (by omega)]
      exact R.nodup i j hij hjl
    · obtain rfl : j = D.length := by omega
      rw [nth_append_left _ _ (by omega), nth_append_last]
      exact hno i (by omega)
  · rintro t (ht | ht)
    · have := R.bd t ht; exact ⟨this.1, by omega⟩
    · exact ⟨by have := R.Bw; omega, ht.2⟩
  · rintro (h | h)
    · exact ng4 h
    · omega
  · have h1 := R.arr.fr f2 (fun g hA hx => by have := R.ga g hA; have := R.gB; omega)
    exact h1.fr hf (fun g hA hx => by have := R.ga g hA; have := R.bd g hx; omega)
  · have b1 := R.bel.trans (f2.below R.bel.size (fun x hx => by have := R.gB; have := R.wB; omega))
    exact b1.trans (hf.below b1.size (fun x hx => by have := R.bd x hx; have := R.wB; omega))
theorem or_drewN9 {w : World} {g n cap : Nat} {l : List Value} (h : OS w g n cap l) (k : Nat) : OS (w.drewN k) g n cap l := h
theorem rel9_drewN {w : World} {A : Option Addr} {n : Nat} {s : Nat → ByteArray} {p : Nat} {off : Int} {B k : Nat} {wr : World} {own : Nat → Prop} {D : List ByteArray} {gd cd L : Nat} (R : Rel9 w A n s p off B k wr own D gd cd L) (M : Nat) : Rel9 w A n s p off B k (wr.drewN M) own D gd cd L :=
  ⟨R.pool.drewN M, R.dist, R.len, R.le, R.nodup, R.bd, R.nog, R.gB, R.gz, R.arr, R.ga, below_drewN R.bel M, R.wB, R.Bw⟩
theorem os_at {w : World} {gd L cd : Nat} {D : List ByteArray} (h : OS w gd L cd (strsV D)) (hl : D.length = L) {i : Nat} (hi : i < L) : w.cell? ⟨gd, i, none⟩ = some (.string (nth D i)) := by
  rw [World.ownsRow.cellAt h i (by omega), strsV, List.getElem?_map, List.getElem?_eq_getElem (by omega)]
  simp [nth, List.getD, List.getElem?_eq_getElem (show i < D.length by omega)]
theorem news_new (W : World) (v : Value) (e : TypeId) (H : Nat) (hH : W.heap.size = H) : ∀ j u, [v][j]? = some u → (W.alloc (.cells #[v] e)).cell? ((⟨H, 0, none⟩ : Addr).add j) = some u := by
  subst hH
  exact cell_one_new _ _ _

/-- The last of the indices i .. i + d that bear name i. -/
def lastEq (s : Nat → ByteArray) (i : Nat) : Nat → Nat
  | 0 => i
  | d + 1 => if (s (i + 1 + d)).toList = (s i).toList then i + 1 + d else lastEq s i d
theorem lastEq_le (s : Nat → ByteArray) (i d : Nat) : lastEq s i d ≤ i + d := by
  induction d with
  | zero => exact Nat.le_refl _
  | succ d ih => unfold lastEq; split <;> omega
theorem lastEq_key (s : Nat → ByteArray) (i d : Nat) : (s (lastEq s i d)).toList = (s i).toList := by
  induction d with
  | zero => rfl
  | succ d ih => unfold lastEq; split <;> assumption
theorem lastEq_after (s : Nat → ByteArray) (i d : Nat) : ∀ t, lastEq s i d < t → t ≤ i + d → (s t).toList ≠ (s i).toList := by
  induction d with
  | zero => intro t h1 h2; unfold lastEq at h1; omega
  | succ d ih =>
    intro t h1 h2
    unfold lastEq at h1
    split at h1
    · omega
    · rename_i hne
      by_cases ht : t = i + 1 + d
      · subst ht; exact hne
      · exact ih t h1 (by omega)
set_option maxRecDepth 100000 in
set_option maxHeartbeats 1000000 in
theorem law7 (off : Int) (A : Option Addr) (n c : Nat) (s : Nat → ByteArray) (w : World) (ha : Arr w A n c (fun i => .string (s i))) :
    Calls Try.prog 7 #[.int .i64 off, .slice A n c] w fun e w' => e = .returned (.bool true) ∧ Below w.heap.size w w' := by
  go_enter Try.func7, Try.ntmps7
  go_wp2_with fail
  refine (bytes31 off A n c s _ ha).mono ?_
  rintro e w' ⟨b, rfl, rfl, hb⟩
  cases b with
  | false =>
    clear hb
    go_wp2
    go_ret
    exact ⟨rfl, Below.refl _ _⟩
  | true =>
    have hs := hb rfl
    clear hb
    by_cases h2 : 4096 < n
    · go_wp2
      go_ret
      exact ⟨rfl, Below.refl _ _⟩
    · have h2' : n ≤ 4096 := by omega
      clear h2
      go_wp2_with fail
      refine (sbytes A n c s _ ha hs).mono ?_
      rintro e w' ⟨q, rfl, rfl⟩
      by_cases hq : 1048576 < q
      · go_wp2
        go_ret
        exact ⟨rfl, Below.refl _ _⟩
      · have hq' : q ≤ 1048576 := by omega
        clear hq
        go_wp2_with (first
          | (go_at_call 24; refine (cloneStrs _ _ _ _ _ ha hs).mono ?_; rintro e w1 ⟨A', rfl, hA', hb1⟩)
          | (go_at_call 17; refine (pool_newZ off _).mono ?_; rintro e w2 ⟨rfl, hV, hb2⟩))
        go_loopw [6] (fun i wr => ∃ k : Nat, k ≤ n ∧ i = .int .i64 k ∧ ∃ own, Rel5 w A' n s (w1.heap.size + 1) off w1.heap.size k wr own) (fun i _ => n - (intOf i).toNat)
        case atStart => exact ⟨0, Nat.zero_le _, rfl, _, rel5_start hA' hb1 hV hb2⟩
        case round =>
          obtain ⟨k, hk, rfl, own, R⟩ := hrel
          by_cases hkn : k < n
          · obtain ⟨g, hA, hgB, hgs, hrow⟩ := R.arr.at_ hkn
            have R' := Lib.hid R
            subst hA
            have c1 := hrow.cell hkn
            have c25 : Calls Try.prog 25 #[.pointer (some ⟨w1.heap.size + 1, 0, none⟩), .string (s k)] wr _ := pool_register R.pool (by simp; omega) (s k)
            clear R hrow
            go_wp2_with (go_at_call 25; refine c25.mono ?_; rintro e w4 ⟨rfl, hst4, hfr4⟩)
            go_roundw
            case rel => exact ⟨k + 1, by omega, by go_num, _, rel5_step R'.out hst4 hfr4⟩
            case measure => simp [intOf]; omega
          · have hkn' : k = n := by omega
            subst hkn'
            obtain ⟨gn, cn, hV2⟩ := R.pool
            have hlen : ((List.range k).map s).length = k := by simp
            have c18 := pool_names hV2
            rw [hlen] at c18
            have c19 := pool_list ⟨gn, cn, hV2⟩ (by rw [hlen]; omega)
            rw [hlen] at c19
            have cx : ∀ i, i < k → wr.cell? ⟨gn, i, none⟩ = some (.string (s i)) := fun i hi => by
              have := hV2.at_ (i := i) (by rw [hlen]; exact hi)
              rwa [nth_range s hi] at this
            have hgnz : gn < wr.heap.size := (R.bd gn hV2.on).2
            have CX := Lib.hid cx
            have R' := Lib.hid R
            have HV := Lib.hid hV2
            have HL := Lib.hid hlen
            clear cx hlen hV2 R
            go_wp2_with (first | (go_at_call 18; refine c18.mono ?_; rintro e w4 ⟨rfl, rfl⟩) | (go_at_call 19; refine c19.mono ?_; rintro e w5 ⟨rfl, hr5, hb5, hz5⟩; have HR5 := Lib.hid hr5; have HZ5 := Lib.hid hz5; clear hr5 hz5))
            obtain ⟨wo, rfl⟩ : ∃ wo : World, wo = wr := ⟨_, rfl⟩
            have c21 : ∀ M i, i < k → ∀ j, j < k → (s j).toList = (s i).toList → (∀ t, j < t → t < k → (s t).toList ≠ (s i).toList) → Calls Try.prog 21 #[.pointer (some ⟨w1.heap.size + 1, 0, none⟩), .string (s i)] (w5.drewN M) fun e w' => e = .returned (.int .i64 (wrap64 (off + (j : Int)))) ∧ w5.drewN M = w' := by
              intro M i hi j hj h1 h2
              have := pool_find_yes ⟨gn, cn, (HV.out.below hb5).drewN M⟩ (by rw [HL.out]; omega) (s i) j (by rw [HL.out]; exact hj) (by rw [nth_range s hj]; exact h1) (fun t ht1 ht2 => by rw [HL.out] at ht2; rw [nth_range s ht2]; exact h2 t ht1 ht2)
              rwa [Int.add_comm] at this
            have C21 := Lib.hid c21
            clear c21
            go_loopw [9] (fun i wq => ∃ j : Nat, j ≤ k ∧ i = .int .i64 j ∧ ∃ M, wq = w5.drewN M) (fun i _ => k - (intOf i).toNat)
            case atStart => exact ⟨0, by omega, rfl, 0, rfl⟩
            case round =>
              obtain ⟨i, hi, rfl, M, rfl⟩ := hrel
              by_cases hik : i < k
              · obtain ⟨g, hA, hgB, hgs, hrow⟩ := R'.out.arr.at_ hik
                subst hA
                have d0 := (hb5.cell (p := ⟨gn, i, none⟩) hgnz).trans (CX.out i hik)
                have cg : ∀ t, t < k → w5.cell? ⟨g, t, none⟩ = some (.string (s t)) := fun t ht => (hb5.cell (p := ⟨g, t, none⟩) hgs).trans (hrow.cell ht)
                have d1 := cg i hik
                have p0 : w5.cell? ⟨wo.heap.size, i * 2, none⟩ = some (.int .i64 (wrap64 (off + (i : Int)))) := by
                  rw [HR5.out.cell (i := i * 2) (by omega), pairF, if_pos (by omega), show i * 2 / 2 = i by omega, Int.add_comm]
                have p1 : w5.cell? ⟨wo.heap.size, i * 2 + 1, none⟩ = some (.string (s i)) := by
                  rw [HR5.out.cell (i := i * 2 + 1) (by omega), pairF, if_neg (by omega), show (i * 2 + 1) / 2 = i by omega, nth_range s hik]
                have hne := ne_self (s i)
                have CG := Lib.hid cg
                clear cg hrow
                go_wp2
                go_quiet (fail)
                go_wp2
                go_loopw [10, 11] (fun l jj wq => ∃ d : Nat, i + 1 + d ≤ k ∧ jj = .int .i64 ((i + 1 + d : Nat) : Int) ∧ l = .int .i64 (lastEq s i d : Nat) ∧ ∃ M, wq = w5.drewN M) (fun _ jj _ => k - (intOf jj).toNat)
                case atStart => exact ⟨0, by omega, rfl, rfl, _, rfl⟩
                case round =>
                  obtain ⟨d, hd, rfl, rfl, M2, rfl⟩ := hrel
                  by_cases hdk : i + 1 + d < k
                  · obtain ⟨j, hj⟩ : ∃ j, i + 1 + d = j := ⟨_, rfl⟩
                    have hle := lastEq_le s i d
                    have q0 := CG.out j (by omega)
                    have q1 := CG.out i hik
                    obtain ⟨l, hl⟩ : ∃ l, lastEq s i d = l := ⟨_, rfl⟩
                    rw [hj, hl]
                    rw [hl] at hle
                    have HJ := Lib.hid hj
                    have HL2 := Lib.hid hl
                    have hjk : j < k := by omega
                    clear hj hl hdk
                    by_cases hkey : (s j).toList = (s i).toList
                    · have hb : ((s j).toList == (s i).toList) = true := by rw [hkey]; simp
                      have KE := Lib.hid hkey
                      clear hkey
                      go_wp2
                      go_quiet (fail)
                      go_wp2
                      go_roundw
                      case rel =>
                        have e1 : lastEq s i (d + 1) = j := by
                          have h1 := HJ.out
                          have h2 := KE.out
                          rw [← h1] at h2 ⊢
                          unfold lastEq
                          rw [if_pos h2]
                        exact ⟨d + 1, by have := HJ.out; omega, by have := HJ.out; go_num, by rw [e1], _, rfl⟩
                      case measure => simp [intOf]; omega
                    · have hb : ((s j).toList == (s i).toList) = false := beq_eq_false_iff_ne.2 hkey
                      have KE := Lib.hid hkey
                      clear hkey
                      go_wp2
                      go_quiet (fail)
                      go_wp2
                      go_roundw
                      case rel =>
                        have e1 : lastEq s i (d + 1) = l := by
                          have h1 := HJ.out
                          have h2 := KE.out
                          rw [← h1] at h2
                          rw [← HL2.out, lastEq, if_neg h2]
                        exact ⟨d + 1, by have := HJ.out; omega, by have := HJ.out; go_num, by rw [e1], _, rfl⟩
                      case measure => simp [intOf]; omega
                  · have hle := lastEq_le s i d
                    have hkey := lastEq_key s i d
                    have haft : ∀ t, lastEq s i d < t → t < k → (s t).toList ≠ (s i).toList := fun t h1 h2 => lastEq_after s i d t h1 (by omega)
                    have hltk : lastEq s i d < k := by omega
                    have c21 := C21.out M2 i hik (lastEq s i d) hltk hkey haft
                    obtain ⟨l, hl⟩ : ∃ l, lastEq s i d = l := ⟨_, rfl⟩
                    obtain ⟨j, hj⟩ : ∃ j, i + 1 + d = j := ⟨_, rfl⟩
                    rw [hj, hl]
                    rw [hl] at c21 hle hltk
                    have hjk : k ≤ j := by omega
                    clear hj hl hdk hkey haft
                    go_wp2_with (go_at_call 21; refine c21.mono ?_; rintro e w9 ⟨rfl, rfl⟩)
                    go_roundw
                    case rel => exact ⟨i + 1, by omega, by go_num, _, rfl⟩
                    case measure => simp [intOf]; omega
              · go_wp2
                go_ret
                exact ⟨rfl, below_drewN (R'.out.bel.trans (hb5.mono R'.out.bel.size)) _⟩
set_option maxRecDepth 100000 in
set_option maxHeartbeats 1000000 in
theorem law9 (off : Int) (hf0 : -9223372036854775808 ≤ off) (hf1 : off ≤ 9223372036854775807) (A : Option Addr) (n c : Nat) (s : Nat → ByteArray) (w : World) (ha : Arr w A n c (fun i => .string (s i))) :
    Calls Try.prog 9 #[.int .i64 off, .slice A n c] w fun e w' => e = .returned (.bool true) ∧ Below w.heap.size w w' := by
  go_enter Try.func9, Try.ntmps9
  go_wp2_with fail
  refine (bytes33 off A n c s _ ha).mono ?_
  rintro e w' ⟨b, rfl, rfl, hb⟩
  cases b with
  | false =>
    clear hb
    go_wp2
    go_ret
    exact ⟨rfl, Below.refl _ _⟩
  | true =>
    have hs := hb rfl
    clear hb
    by_cases h2 : 4096 < n
    · go_wp2
      go_ret
      exact ⟨rfl, Below.refl _ _⟩
    · have h2' : n ≤ 4096 := by omega
      clear h2
      go_wp2_with fail
      refine (sbytes A n c s _ ha hs).mono ?_
      rintro e w' ⟨q, rfl, rfl⟩
      by_cases hq : 1048576 < q
      · go_wp2
        go_ret
        exact ⟨rfl, Below.refl _ _⟩
      · have hq' : q ≤ 1048576 := by omega
        clear hq
        by_cases ho1 : off < 0
        · go_wp2
          go_ret
          exact ⟨rfl, Below.refl _ _⟩
        · by_cases ho2 : 9223372036854771711 < off
          · go_wp2
            go_ret
            exact ⟨rfl, Below.refl _ _⟩
          · have ho1' : 0 ≤ off := by omega
            have ho2' : off ≤ 9223372036854771711 := by omega
            clear ho1 ho2
            obtain ⟨C, hC, hmk⟩ := pool_make_cap (P := Try.prog) 33 9 (.string ByteArray.empty) 16 Try.underlying33 pool_info rfl n (by omega) (by omega)
            have HC := Lib.hid hC
            clear hC
            go_wp2_with (first
              | (go_at_call 24; refine (cloneStrs _ _ _ _ _ ha hs).mono ?_; rintro e w1 ⟨A', rfl, hA', hb1⟩)
              | (go_at_call 17; refine (pool_newZ off _).mono ?_; rintro e w2 ⟨rfl, hV, hb2⟩))
            go_loopw [6, 7] (fun v i wr => ∃ k : Nat, k ≤ n ∧ i = .int .i64 k ∧ ∃ own D gd cd L, v = .slice (some ⟨gd, 0, none⟩) L cd ∧ Rel9 w A' n s (w1.heap.size + 1) off w1.heap.size k wr own D gd cd L) (fun _ i _ => n - (intOf i).toNat)
            case atStart => exact ⟨0, Nat.zero_le _, rfl, _, _, _, _, _, rfl, rel9_start hA' hb1 hV hb2 C HC.out (by unfold maxLen; omega)⟩
            case round =>
              obtain ⟨k, hk, rfl, own, D, gd, cd, L, rfl, R⟩ := hrel
              by_cases hkn : k < n
              · obtain ⟨g, hA, hgB, hgs, hrow⟩ := R.arr.at_ hkn
                have c1 := hrow.cell hkn
                have hgo : ¬ own g := fun hx => by have := R.ga g hA; have := R.bd g hx; omega
                have hggd : g ≠ gd := by have := R.ga g hA; have := R.gB; omega
                have hLk : L ≤ 4096 := by have := R.le; omega
                have R' := Lib.hid R
                subst hA
                clear hrow R hmk
                obtain ⟨wo, rfl⟩ : ∃ wo : World, wo = wr := ⟨_, rfl⟩
                by_cases hex : ∃ j, j < L ∧ (nth D j).toList = (s k).toList
                · obtain ⟨j0, hj0, hje⟩ := hex
                  have hlt0 : ∀ i, i < j0 → (nth D i).toList ≠ (s k).toList := fun i hi => by rw [← hje]; exact R'.out.nodup i j0 hi hj0
                  have hgt0 : ∀ i, j0 < i → i < D.length → (nth D i).toList ≠ (s k).toList := fun i hi hi2 => by rw [← hje]; exact fun e => R'.out.nodup j0 i hi (by rw [R'.out.len] at hi2; exact hi2) e.symm
                  have c34 := fun M => ru_found (R'.out.pool.drewN M) (by rw [R'.out.len]; omega) (s k) j0 (by rw [R'.out.len]; exact hj0) hje hgt0 ho1' (by omega)
                  have LT := Lib.hid hlt0
                  have JE := Lib.hid hje
                  clear hlt0 hgt0 hje
                  go_wp2
                  go_loopw [9] (fun i wq => ∃ j : Nat, j ≤ j0 ∧ i = .int .i64 j ∧ ∃ M, wq = wo.drewN M) (fun i _ => j0 - (intOf i).toNat)
                  case atStart => exact ⟨0, Nat.zero_le _, rfl, 0, rfl⟩
                  case round =>
                    obtain ⟨j, hj, rfl, M, rfl⟩ := hrel
                    have d1 := os_at R'.out.dist R'.out.len (show j < L by omega)
                    by_cases hjj : j < j0
                    · have hb : ((nth D j).toList == (s k).toList) = false := beq_eq_false_iff_ne.2 (LT.out j hjj)
                      go_wp2
                      go_quiet (fail)
                      go_wp2
                      go_roundw
                      case rel => exact ⟨j + 1, by omega, by go_num, _, rfl⟩
                      case measure => simp [intOf]; omega
                    · obtain rfl : j = j0 := by omega
                      have hb : ((nth D j).toList == (s k).toList) = true := by rw [JE.out]; simp
                      go_wp2
                      go_quiet (fail)
                      go_wp2_with (go_at_call 34; refine (c34 _).mono ?_; rintro e w9 ⟨rfl, rfl⟩)
                      go_roundw
                      case rel => exact ⟨k + 1, by omega, by go_num, _, _, _, _, _, rfl, rel9_same R'.out _⟩
                      case measure => simp [intOf]; omega
                · have hno : ∀ i, i < L → (nth D i).toList ≠ (s k).toList := fun i hi e => hex ⟨i, hi, e⟩
                  obtain ⟨i0, hi0, hz0, hz1, hz2⟩ := info_parts pool_info
                  have NO := Lib.hid hno
                  clear hex hno
                  go_wp2
                  go_loopw [8, 9] (fun v i wq => ∃ j : Nat, j ≤ L ∧ i = .int .i64 j ∧ v = .int .i64 (-1) ∧ ∃ M, wq = wo.drewN M) (fun _ i _ => L - (intOf i).toNat)
                  case atStart => exact ⟨0, Nat.zero_le _, rfl, rfl, 0, rfl⟩
                  case round =>
                    obtain ⟨j, hj, rfl, rfl, M, rfl⟩ := hrel
                    by_cases hjj : j < L
                    · have d1 := os_at R'.out.dist R'.out.len hjj
                      have hb : ((nth D j).toList == (s k).toList) = false := beq_eq_false_iff_ne.2 (NO.out j hjj)
                      go_wp2
                      go_quiet (fail)
                      go_wp2
                      go_roundw
                      case rel => exact ⟨j + 1, by omega, by go_num, rfl, _, rfl⟩
                      case measure => simp [intOf]; omega
                    · have hdist := or_drewN9 R'.out.dist M
                      have hgz : gd < (wo.drewN M).heap.size := R'.out.gz
                      have R2 : Rel9 w (some ⟨g, 0, none⟩) n s (w1.heap.size + 1) off w1.heap.size k (wo.drewN M) own D gd cd L := rel9_drewN R'.out M
                      have RR := Lib.hid R2
                      clear R2
                      go_wp2_with (first
                        | (at_builtin; refine wpList_append_lies _ rfl (.tmp 61) (.tmp 66) 33 rfl 0 9 i0 (.string ByteArray.empty) 1 16 Try.underlying33 hi0 hz0 hz1 hz2 rfl (by decide) _ _ (strsV D) rfl (World.ownsRow.alloc hdist _) ⟨wo.heap.size, 0, none⟩ 1 1 [.string (s k)] rfl rfl (news_new _ _ _ _ rfl) (by intro u hu; simp at hu; subst hu; rfl) (by omega) (by unfold maxLen; omega) (by omega) (Nat.zero_le _) _ rfl ?_; intro g4 c4 w4 hown4 hgr4 hat4 hlt4; have d4 : w4.cell? ⟨g, k, none⟩ = some (.string (s k)) := (hgr4.cell_far ⟨g, k, none⟩ (by simp; omega) (fun e => hggd (Option.some.inj e))).trans ((World.cell?_alloc_lt (wo.drewN M) _ ⟨g, k, none⟩ hgs).trans c1); have c34 := ru_new (rel9_mid RR.out hgr4) (by rw [RR.out.len]; omega) (s k) (fun i hi => NO.out i (by rw [RR.out.len] at hi; exact hi)) ho1' (by rw [RR.out.len]; omega); rw [RR.out.len] at c34)
                        | (go_at_call 34; refine c34.mono ?_; rintro e w9 ⟨rfl, hv9, hf9⟩))
                      go_roundw
                      case rel => exact ⟨k + 1, by omega, by go_num, _, _, _, _, _, rfl, rel9_new RR.out hown4 hgr4 hat4 hlt4 NO.out hv9 hf9⟩
                      case measure => simp [intOf]; omega
              · have hkn' : k = n := by omega
                subst hkn'
                obtain ⟨gn, cn, hV2⟩ := R.pool
                have hLk : L ≤ 4096 := by have := R.le; omega
                have c18 := pool_names hV2
                rw [R.len] at c18
                have c20 : ∀ M, Calls Try.prog 20 #[.pointer (some ⟨w1.heap.size + 1, 0, none⟩)] (wr.drewN M) fun e w' => e = .returned (.int .i64 (off + (L : Int))) ∧ ∃ n, w' = (wr.drewN M).drewN n := fun M => by
                  have h := pool_lastIndex ⟨gn, cn, hV2.drewN M⟩
                  rw [R.len] at h
                  have e1 : wrap64 (off + (L : Int)) = off + (L : Int) := by unfold wrap64; omega
                  rwa [e1] at h
                have cx : ∀ i, i < L → wr.cell? ⟨gn, i, none⟩ = some (.string (nth D i)) := fun i hi => hV2.at_ (by rw [R.len]; exact hi)
                have cy : ∀ i, i < L → wr.cell? ⟨gd, i, none⟩ = some (.string (nth D i)) := fun i hi => os_at R.dist R.len hi
                have CX := Lib.hid cx
                have CY := Lib.hid cy
                have R' := Lib.hid R
                clear cx cy hV2 R hmk
                go_wp2_with (go_at_call 18; refine c18.mono ?_; rintro e w4 ⟨rfl, rfl⟩)
                obtain ⟨wz, rfl⟩ : ∃ wz : World, wz = wr := ⟨_, rfl⟩
                go_loopw [11] (fun i wq => ∃ j : Nat, j ≤ L ∧ i = .int .i64 j ∧ ∃ M, wq = wz.drewN M) (fun i _ => L - (intOf i).toNat)
                case atStart => exact ⟨0, by omega, rfl, 0, rfl⟩
                case round =>
                  obtain ⟨i, hi, rfl, M, rfl⟩ := hrel
                  by_cases him : i < L
                  · have d1 := CX.out i him
                    have d2 := CY.out i him
                    have hne := ne_self (nth D i)
                    go_wp2
                    go_quiet (fail)
                    go_wp2
                    go_roundw
                    case rel => exact ⟨i + 1, by omega, by go_num, _, rfl⟩
                    case measure => simp [intOf]; omega
                  · go_wp2_with (go_at_call 20; refine (c20 _).mono ?_; rintro e w4 ⟨rfl, m4, rfl⟩)
                    go_ret
                    exact ⟨rfl, below_drewN R'.out.bel _⟩
end Go.Proofs.Ytphbmhffkemkkaa
