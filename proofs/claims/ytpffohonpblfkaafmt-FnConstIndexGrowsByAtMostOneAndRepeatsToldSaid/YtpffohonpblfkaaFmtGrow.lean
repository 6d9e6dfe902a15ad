/- The exports over the table of constants; what one step answers, and its repeat. -/
import Derived.Test.YtpffohonpblfkaaFmtConst
import Derived.Test.YtpffohonpblfkaaFmtHelp
namespace Go.Proofs.YtpffohonpblfkaaFmt
open Go.RowKit Go.ChangeShapes Go.Deep
@[go_sem] theorem store_f (P : Program) (w : World) (a : Addr) (m : Mode) (b : Nat) : (store a (.float .f64 b) m).run P w = stored P w a (.float .f64 b) m := run_store P w a _ m rfl
theorem bytes3 (A0 : Option Addr) (n0 c0 : Nat) (z0 : Nat → Bool) (A1 : Option Addr) (n1 c1 : Nat) (z1 : Nat → Nat) (A2 : Option Addr) (n2 c2 : Nat) (z2 : Nat → ByteArray) (w : World) (h0 : Arr w A0 n0 c0 (fun i => .bool (z0 i))) (h1 : Arr w A1 n1 c1 (fun i => .float .f64 (z1 i))) (h2 : Arr w A2 n2 c2 (fun i => .string (z2 i))) :
    Calls Tryf.prog 8 #[.slice A0 n0 c0, .slice A1 n1 c1, .slice A2 n2 c2] w (SomeB (n0 ≤ 1048576 ∧ n1 ≤ 1048576 ∧ n2 ≤ 1048576) w) := by
  have m0 := h0.len
  unfold maxLen at m0
  have m1 := h1.len
  unfold maxLen at m1
  have m2 := h2.len
  unfold maxLen at m2
  by_cases b0 : 1048576 < n0
  · go_enter Tryf.func8, Tryf.ntmps8
    go_wp2
    go_ret
    exact ⟨false, rfl, rfl, fun h => by cases h⟩
  · have e0 : n0 ≤ 1048576 := by omega
    by_cases b1 : 1048576 < n1
    · go_enter Tryf.func8, Tryf.ntmps8
      go_wp2
      go_ret
      exact ⟨false, rfl, rfl, fun h => by cases h⟩
    · have e1 : n1 ≤ 1048576 := by omega
      by_cases d1 : 1048576 < (n0 : Int) + (n1 : Int)
      · go_enter Tryf.func8, Tryf.ntmps8
        go_wp2
        go_ret
        exact ⟨false, rfl, rfl, fun h => by cases h⟩
      · have g1 : (n0 : Int) + (n1 : Int) ≤ 1048576 := by omega
        by_cases b2 : 1048576 < n2
        · go_enter Tryf.func8, Tryf.ntmps8
          go_wp2
          go_ret
          exact ⟨false, rfl, rfl, fun h => by cases h⟩
        · have e2 : n2 ≤ 1048576 := by omega
          by_cases d2 : 1048576 < (n0 : Int) + (n1 : Int) + (n2 : Int)
          · go_enter Tryf.func8, Tryf.ntmps8
            go_wp2
            go_ret
            exact ⟨false, rfl, rfl, fun h => by cases h⟩
          · have g2 : (n0 : Int) + (n1 : Int) + (n2 : Int) ≤ 1048576 := by omega
            go_enter Tryf.func8, Tryf.ntmps8
            go_wp2
            go_loop [7, 8] (fun t i => ∃ (k : Nat) (q : Int), k ≤ n2 ∧ i = .int .i64 k ∧ t = .int .i64 q ∧ 0 ≤ q ∧ q ≤ 1048576) (fun _ i => n2 - (intOf i).toNat)
            case atStart => exact ⟨0, _, Nat.zero_le _, rfl, rfl, by omega, by omega⟩
            case round =>
              obtain ⟨k2, q2, hk2, rfl, rfl, hq2, hr2⟩ := hrel
              by_cases hkn2 : k2 < n2
              · obtain ⟨b, off, hx, _, hc⟩ := h2.at_ hkn2
                subst hx
                by_cases u1 : 1048576 < (z2 k2).size
                · go_wp2
                  go_ret
                  exact ⟨false, rfl, rfl, fun h => by cases h⟩
                · have u1' : (z2 k2).size ≤ 1048576 := by omega
                  by_cases u2 : 1048576 < q2 + ((z2 k2).size : Int)
                  · go_wp2
                    go_ret
                    exact ⟨false, rfl, rfl, fun h => by cases h⟩
                  · have u2' : q2 + ((z2 k2).size : Int) ≤ 1048576 := by omega
                    go_wp2
                    go_round
                    case rel => exact ⟨k2 + 1, _, by omega, by go_num, rfl, by omega, by omega⟩
                    case measure => simp [intOf]; omega
              · have hke2 : ¬ k2 < n2 := hkn2
                go_wp2
                go_ret
                exact ⟨true, rfl, rfl, fun _ => by first | trivial | omega⟩


theorem clone_floats_info : (Tryf.prog.info? 34).map (fun i => (i.zero, i.size, i.bytes)) = some (some (.float .f64 0), 1, 8) := by kernel_rfl
set_option maxHeartbeats 400000 in
theorem clone_floats (A : Option Addr) (n c : Nat) (z : Nat → Nat) (w : World) (ha : Arr w A n c (fun i => .float .f64 (z i))) (hn : n ≤ 1048576) :
    Calls Tryf.prog 11 #[.slice A n c] w fun e w' => ∃ A', e = .returned (.slice A' n n) ∧ Own w' w.heap.size 34 A' n (fun i => .float .f64 (z i)) ∧ Below w.heap.size w w' := by
  have hnil := fun w => Lib.run_eql_slice_nil (P := Tryf.prog) w 23 34 A n c 0 0 Tryf.underlying23
  rcases ha.some_ with ⟨rfl, rfl, rfl⟩ | ⟨x, rfl⟩
  · go_enter Tryf.func11, Tryf.ntmps11
    go_wp2
    go_ret
    exact ⟨none, rfl, .inl ⟨rfl, rfl⟩, Below.refl _ _⟩
  · have hmk := run_make_row' (P := Tryf.prog) 23 34 (.float .f64 0) 8 Tryf.underlying23 clone_floats_info rfl .i64 .i64 n (by omega) (by omega)
    go_enter Tryf.func11, Tryf.ntmps11
    go_wp2
    go_loopw [4] (fun i wr => ∃ k : Nat, k ≤ n ∧ i = .int .i64 k ∧ wr.rowIs w.heap.size 34 n (fun j => .float .f64 (if j < k then z j else 0)) ∧ Below w.heap.size w wr) (fun i _ => n - (intOf i).toNat)
    case atStart => exact ⟨0, Nat.zero_le _, rfl, World.rowIs_made w _ n 34, by go_grown⟩
    case round =>
      obtain ⟨k, hk, rfl, hrow, hb⟩ := hrel
      by_cases hkn : k < n
      · obtain ⟨b, off, hx, hlt, hc⟩ := ha.at_ hkn
        injection hx with hx
        subst hx
        have c1 : wr.cell? ⟨b, off + k, none⟩ = some (.float .f64 (z k)) := (hb.cell (p := ⟨b, off + k, none⟩) hlt).trans hc
        have c2 := hrow.cell hkn
        simp only [Nat.lt_irrefl, if_false] at c2
        have c3 := hrow.frozen k
        have hrow' := (hrow.set k (.float .f64 (z k))).congr (g := fun j => .float .f64 (if j < k + 1 then z j else 0)) (fun i hi => by
          by_cases h1 : i = k
          · subst h1; simp
          · by_cases h2 : i < k
            · simp [h1, h2, show i < k + 1 by omega]
            · simp [h1, h2, show ¬ i < k + 1 by omega])
        have hb' := hb.setCell (p := ⟨w.heap.size, k, none⟩) (Nat.le_refl _) (.float .f64 (z k))
        have H1 := Lib.hid hrow'
        have H2 := Lib.hid hb'
        clear hrow' hb' hrow hb hc ha hnil hmk
        go_wp2
        go_roundw
        case rel => exact ⟨k + 1, by omega, by go_num, H1.out, H2.out⟩
        case measure => simp [intOf]; omega
      · have hkn' : k = n := by omega
        subst hkn'
        clear hnil hmk
        go_wp2
        go_ret
        exact ⟨_, rfl, .inr ⟨_, rfl, Nat.le_refl _, hrow.congr (fun i hi => by simp [hi])⟩, hb⟩


theorem bself (s : ByteArray) : (s == s) = true := by
  cases s with
  | mk d =>
    show ByteArray.beq { data := d } { data := d } = true
    unfold ByteArray.beq
    simp
theorem flt_nan {a b : Nat} (h : Op.floatEq .f64 b b = false) : Op.floatEq .f64 a b = false := by
  unfold Op.floatEq Ieee.Format.order at *
  generalize FloatKind.f64.format.read a = x
  generalize hy : FloatKind.f64.format.read b = y at h ⊢
  cases y with
  | nan => cases x <;> simp [Ieee.Datum.order]
  | infinity s => simp [Ieee.Datum.order] at h
  | number s m i => simp [Ieee.Datum.order] at h
theorem eqk_nan {c k : KV} (h : eqk k k = false) : eqk c k = false := by
  cases k with
  | num b => cases c with
    | num a => exact flt_nan h
    | str t => rfl
  | str s => rw [show eqk (.str s) (.str s) = true from bself s] at h; cases h
def Hit (cs : List KV) (k : KV) (j : Nat) : Prop := ∃ c0, cs[j]? = some c0 ∧ eqk c0 k = true ∧ ∀ (i : Nat) c, i < j → cs[i]? = some c → eqk c k = false
def Miss (cs : List KV) (k : KV) : Prop := ∀ (i : Nat) c, cs[i]? = some c → eqk c k = false
theorem find_k (cs : List KV) (k : KV) : (∃ j, Hit cs k j) ∨ Miss cs k := by
  induction cs with
  | nil => exact .inr (fun i c h => by simp at h)
  | cons x cs ih =>
    cases hx : eqk x k
    · rcases ih with ⟨j, c0, h1, h2, h3⟩ | h
      · refine .inl ⟨j + 1, c0, by simpa using h1, h2, fun i c hi hc => ?_⟩
        cases i with
        | zero => simp at hc; subst hc; exact hx
        | succ i => exact h3 i c (by omega) (by simpa using hc)
      · refine .inr (fun i c hc => ?_)
        cases i with
        | zero => simp at hc; subst hc; exact hx
        | succ i => exact h i c (by simpa using hc)
    · exact .inl ⟨0, x, rfl, hx, fun i c hi => by omega⟩
theorem Hit.uniq {cs : List KV} {k : KV} {i j : Nat} (h1 : Hit cs k i) (h2 : Hit cs k j) : i = j := by
  obtain ⟨a, a1, a2, a3⟩ := h1
  obtain ⟨b, b1, b2, b3⟩ := h2
  by_cases h : i < j
  · have := b3 i a h a1; rw [a2] at this; cases this
  · by_cases h' : j < i
    · have := a3 j b h' b1; rw [b2] at this; cases this
    · omega
theorem Hit.lt {cs : List KV} {k : KV} {j : Nat} (h : Hit cs k j) : j < cs.length := by
  obtain ⟨_, h1, _⟩ := h
  exact (List.getElem?_eq_some_iff.1 h1).1
theorem Hit.notMiss {cs : List KV} {k : KV} {j : Nat} (h : Hit cs k j) (m : Miss cs k) : False := by
  obtain ⟨a, a1, a2, a3⟩ := h
  have := m j a a1
  rw [a2] at this; cases this
/-- One call: the index r, the table behind it. -/
def Found (cs : List KV) (k : KV) (r : Int) (cs' : List KV) : Prop := (∃ j : Nat, r = j ∧ Hit cs k j ∧ cs' = cs) ∨ (r = cs.length ∧ Miss cs k ∧ cs' = cs ++ [k])
theorem miss_hit {cs : List KV} {k : KV} (h : Miss cs k) (hk : eqk k k = true) : Hit (cs ++ [k]) k cs.length := by
  refine ⟨k, by simp, hk, fun i c hi hc => h i c ?_⟩
  rwa [List.getElem?_append_left hi] at hc
theorem Hit.self {cs : List KV} {k : KV} {j : Nat} (h : Hit cs k j) : eqk k k = true := by
  obtain ⟨a, a1, a2, a3⟩ := h
  cases e : eqk k k
  · rw [eqk_nan e] at a2; cases a2
  · rfl
/-- What a call and its repeat answer: L, L1, L2 the lengths. -/
def Twice (L r L1 r2 L2 : Int) (same : Bool) : Prop := 0 ≤ r ∧ r2 ≤ L1 ∧ ((r < L ∧ L1 = L ∧ r2 = r ∧ L2 = L1 ∧ same = true) ∨ (r = L ∧ L1 = L + 1 ∧ r2 = r ∧ L2 = L1 ∧ same = true) ∨ (r = L ∧ L1 = L + 1 ∧ r2 = L1 ∧ L2 = L1 + 1 ∧ same = false))
theorem found_twice {cs cs1 cs2 : List KV} {k : KV} {r r2 : Int} (h1 : Found cs k r cs1) (h2 : Found cs1 k r2 cs2) : Twice cs.length r cs1.length r2 cs2.length (eqk k k) := by
  rcases h1 with ⟨j, rfl, h1, rfl⟩ | ⟨rfl, h1, rfl⟩
  · have hl := h1.lt
    rcases h2 with ⟨i, rfl, h2, rfl⟩ | ⟨rfl, h2, rfl⟩
    · obtain rfl := h1.uniq h2
      exact ⟨by omega, by omega, .inl ⟨by omega, rfl, rfl, rfl, h1.self⟩⟩
    · exact (h1.notMiss h2).elim
  · cases e : eqk k k
    · rcases h2 with ⟨i, rfl, h2, rfl⟩ | ⟨rfl, h2, rfl⟩
      · have := h2.self; rw [e] at this; cases this
      · exact ⟨by omega, by omega, .inr (.inr ⟨rfl, by simp, rfl, by simp <;> omega, rfl⟩)⟩
    · have hh := miss_hit h1 e
      rcases h2 with ⟨i, rfl, h2, rfl⟩ | ⟨rfl, h2, rfl⟩
      · obtain rfl := hh.uniq h2
        exact ⟨by omega, by simp <;> omega, .inr (.inl ⟨rfl, by simp, rfl, rfl, rfl⟩)⟩
      · exact (hh.notMiss h2).elim
theorem found_len {cs cs1 : List KV} {k : KV} {r : Int} (h : Found cs k r cs1) : cs1.length ≤ cs.length + 1 := by
  rcases h with ⟨j, rfl, h1, rfl⟩ | ⟨rfl, h1, rfl⟩
  · omega
  · simp
theorem KPost.drewN {w0 w : World} {f : Nat} {cs : List KV} (h : KPost w0 f cs w) (n : Nat) : KPost w0 f cs (w.drewN n) := by
  obtain ⟨pr, gc, cc, h⟩ := h
  exact ⟨pr, gc, cc, h.row, h.prw, h.ow, ⟨h.bel.os, h.bel.tape, h.bel.output, h.bel.size, h.bel.block⟩, h.lp, h.lg⟩
theorem KPost.bel {w0 w : World} {f : Nat} {cs : List KV} (h : KPost w0 f cs w) : Below w0.heap.size w0 w := by
  obtain ⟨pr, gc, cc, h⟩ := h
  exact h.bel
def NewK (w : World) (e : Ending) (w' : World) : Prop := ∃ f, e = .returned (.pointer (some ⟨f, 0, none⟩)) ∧ KPost w f [] w'
theorem newk13 (w : World) : Calls Tryf.prog 13 #[] w (NewK w) := by
  have c := ctx_new ByteArray.empty w
  go_enter Tryf.func13, Tryf.ntmps13
  go_wp2_with fail
  refine c.mono ?_
  rintro e w' hF
  obtain ⟨f, w1, q, rfl, h1, h2, h3, rfl⟩ := hF
  have H : Hid (KPost w f [] _) := Lib.hid (kx_new (q := q) h1 h2)
  clear h1 h2 h3 c
  obtain ⟨w2, hw2⟩ : ∃ w2, (w1.setCell ⟨f, 5, none⟩ (.slice (some ⟨w1.heap.size, 0, none⟩) 1 1)).alloc (.cells #[.pointer q] 54) = w2 := ⟨_, rfl⟩
  rw [hw2] at H ⊢
  clear hw2
  go_wp2
  go_ret
  exact ⟨f, rfl, H.out⟩
theorem count14 {w0 w : World} {f : Nat} {cs : List KV} (h : KPost w0 f cs w) {L : Int} (hL : L = cs.length) (_hb : cs.length ≤ 20000) : Calls Tryf.prog 14 #[.pointer (some ⟨f, 0, none⟩)] w fun e w' => e = .returned (.int .i64 L) ∧ w = w' := by
  obtain ⟨pr, gc, cc, h⟩ := h
  obtain ⟨F, r1, r0⟩ := h.row
  obtain ⟨FP, p1, p8⟩ := h.prw
  have k0 := r1.cell (i := 0) (by omega)
  have k8 := p1.cell (i := 8) (by omega)
  rw [r0] at k0
  rw [p8] at k8
  obtain ⟨n, hn⟩ : ∃ n, cs.length = n := ⟨_, rfl⟩
  rw [hn] at k8 hL
  subst hL
  clear h r1 p1 r0 p8 hn
  go_enter Tryf.func14, Tryf.ntmps14
  go_wp2
  go_ret
  exact ⟨rfl, rfl⟩
def CI (w0 : World) (f : Nat) (cs : List KV) (k : KV) (e : Ending) (w' : World) : Prop := ∃ r cs', e = .returned (.int .i64 r) ∧ Found cs k r cs' ∧ KPost w0 f cs' w'
theorem ci32n {w0 w : World} {f : Nat} {cs : List KV} (h : KPost w0 f cs w) (hn : cs.length ≤ 20000) (b : Nat) : Calls Tryf.prog 32 #[.pointer (some ⟨f, 0, none⟩), .iface 61 (.float .f64 b)] w (CI w0 f cs (.num b)) := by
  obtain ⟨pr, gc, cc, hx⟩ := h
  rcases find_k cs (.num b) with ⟨j, hj⟩ | hm
  · have hj' := hj
    obtain ⟨c0, h1, h2, h3⟩ := hj
    refine (ci_hit_n hx b hn h1 h2 h3).mono ?_
    rintro e w' ⟨rfl, rfl⟩
    exact ⟨_, _, rfl, .inl ⟨j, rfl, hj', rfl⟩, pr, gc, cc, hx⟩
  · refine (ci_miss_n hx b hn hm).mono ?_
    rintro e w' ⟨rfl, hk⟩
    exact ⟨_, _, rfl, .inr ⟨rfl, hm, rfl⟩, hk⟩
theorem ci15 {w0 w : World} {f : Nat} {cs : List KV} (h : KPost w0 f cs w) (hn : cs.length ≤ 20000) (b : Nat) : Calls Tryf.prog 15 #[.pointer (some ⟨f, 0, none⟩), .float .f64 b] w (CI w0 f cs (.num b)) := by
  have c := ci32n h hn b
  clear h
  go_enter Tryf.func15, Tryf.ntmps15
  go_wp2_with fail
  refine c.mono ?_
  rintro e w' hC
  obtain ⟨r, cs', rfl, h1, h2⟩ := hC
  have H1 := Lib.hid h1
  have H2 := Lib.hid h2
  clear h1 h2 c
  go_wp2
  go_ret
  exact ⟨r, cs', rfl, H1.out, H2.out⟩
theorem ci32s {w0 w : World} {f : Nat} {cs : List KV} (h : KPost w0 f cs w) (hn : cs.length ≤ 20000) (s : ByteArray) : Calls Tryf.prog 32 #[.pointer (some ⟨f, 0, none⟩), .iface 62 (.string s)] w (CI w0 f cs (.str s)) := by
  obtain ⟨pr, gc, cc, hx⟩ := h
  rcases find_k cs (.str s) with ⟨j, hj⟩ | hm
  · have hj' := hj
    obtain ⟨c0, h1, h2, h3⟩ := hj
    refine (ci_hit_s hx s hn h1 h2 h3).mono ?_
    rintro e w' ⟨rfl, rfl⟩
    exact ⟨_, _, rfl, .inl ⟨j, rfl, hj', rfl⟩, pr, gc, cc, hx⟩
  · refine (ci_miss_s hx s hn hm).mono ?_
    rintro e w' ⟨rfl, hk⟩
    exact ⟨_, _, rfl, .inr ⟨rfl, hm, rfl⟩, hk⟩
theorem ci16 {w0 w : World} {f : Nat} {cs : List KV} (h : KPost w0 f cs w) (hn : cs.length ≤ 20000) (s : ByteArray) : Calls Tryf.prog 16 #[.pointer (some ⟨f, 0, none⟩), .string s] w (CI w0 f cs (.str s)) := by
  have c := ci32s h hn s
  clear h
  go_enter Tryf.func16, Tryf.ntmps16
  go_wp2_with fail
  refine c.mono ?_
  rintro e w' hC
  obtain ⟨r, cs', rfl, h1, h2⟩ := hC
  have H1 := Lib.hid h1
  have H2 := Lib.hid h2
  clear h1 h2 c
  go_wp2
  go_ret
  exact ⟨r, cs', rfl, H1.out, H2.out⟩
theorem neqF (b : Nat) (w : World) : (binOp .neq 34 (.float .f64 b) (.float .f64 b)).run Tryf.prog w = .ok (.bool (!Op.floatEq .f64 b b)) w := by kernel_rfl
end Go.Proofs.YtpffohonpblfkaaFmt
