/- The laws on the code store: what is added is last, a pop and an add replace, pops truncate, a script is a stack. -/
import Derived.Test.YtphbmhffkemkkaaStore
import Derived.WalkSmall
namespace Go.Proofs.Ytphbmhffkemkkaa
open Go.RowKit Go.ChangeShapes Go.Deep
theorem bytes11_no (A : Option Addr) (n c : Nat) (w : World) (h : 1048576 < n) (hm : n ≤ 9223372036854775807) :
    Calls Try.prog 11 #[.slice A n c] w fun e w' => e = .returned (.bool false) ∧ w = w' := by
  go_enter Try.func11, Try.ntmps11
  go_wp2
  go_ret
  exact ⟨rfl, rfl⟩
theorem bytes11_yes (A : Option Addr) (n c : Nat) (w : World) (h : n ≤ 1048576) :
    Calls Try.prog 11 #[.slice A n c] w fun e w' => e = .returned (.bool true) ∧ w = w' := by
  go_enter Try.func11, Try.ntmps11
  go_wp2
  go_ret
  exact ⟨rfl, rfl⟩
/-- In the loop of the law: what has been added so far. -/
def Rel3 (w : World) (A : Option Addr) (n : Nat) (z : Nat → Int) (p : Nat) (B : Nat) (k : Nat) (wr : World) : Prop :=
  ∃ own, CStore wr own p ((List.range k).map z) ((List.range k).map Int.ofNat) k ∧ (∀ x, own x → B ≤ x ∧ x < wr.heap.size) ∧ Own wr w.heap.size 27 A n (fun i => .int .u32 (z i)) ∧ (∀ g, A = some ⟨g, 0, none⟩ → g < B) ∧ Below w.heap.size w wr ∧ w.heap.size ≤ B ∧ B ≤ wr.heap.size
theorem below_drewN {B : Nat} {a w : World} (h : Below B a w) (n : Nat) : Below B a (w.drewN n) := ⟨h.os, h.tape, h.output, h.size, h.block⟩
theorem rel3_step {w : World} {A : Option Addr} {n : Nat} {z : Nat → Int} {p B k : Nat} {wr w' : World} {own : Nat → Prop}
    (hown : ∀ x, own x → B ≤ x ∧ x < wr.heap.size) (ha : Own wr w.heap.size 27 A n (fun i => .int .u32 (z i))) (hg : ∀ g, A = some ⟨g, 0, none⟩ → g < B) (hb : Below w.heap.size w wr) (hB : w.heap.size ≤ B)
    (hc : CStore w' (fun x => own x ∨ (wr.heap.size ≤ x ∧ x < w'.heap.size)) p ((List.range k).map z ++ [z k]) ((List.range k).map Int.ofNat ++ [(k : Int)]) (k + 1)) (hf : Fr own wr w') (m : Nat) (hBw : B ≤ wr.heap.size) : Rel3 w A n z p B (k + 1) (w'.drewN m) := by
  refine ⟨fun x => own x ∨ (wr.heap.size ≤ x ∧ x < w'.heap.size), ?_, ?_, ?_, hg, ?_, hB, Nat.le_trans hBw hf.size⟩
  · have := hc.drewN m
    simpa [List.range_succ] using this
  · rintro x (hx | hx)
    · have := hown x hx; have := hf.size; exact ⟨by omega, by show x < w'.heap.size; omega⟩
    · exact ⟨by omega, hx.2⟩
  · have h2 := ha.fr hf (fun g hA hx => by have := hg g hA; have := hown g hx; omega)
    exact h2
  · exact (below_drewN (hb.trans (hf.below (B := w.heap.size) hb.size (fun x hx => by have := hown x hx; omega))) m)
theorem rel3_start {w w1 w2 : World} {A : Option Addr} {n p : Nat} {z : Nat → Int} (hA : Own w1 w.heap.size 27 A n (fun i => .int .u32 (z i))) (hb1 : Below w.heap.size w w1)
    (hst : CStore w2 (fun x => w1.heap.size ≤ x ∧ x < w2.heap.size) p [] [] 0) (hb2 : Below w1.heap.size w1 w2) (m : Nat) : Rel3 w A n z p w1.heap.size 0 (w2.drewN m) := by
  refine ⟨_, hst.drewN m, fun x hx => hx, hA.below (below_drewN hb2 m) (Nat.le_refl _), fun g hg => ?_, below_drewN (hb1.trans (hb2.mono hb1.size)) m, hb1.size, hb2.size⟩
  rcases hA with ⟨h, _⟩ | ⟨g', h, _, hr⟩
  · rw [h] at hg; cases hg
  · rw [h] at hg; injection hg with hg; injection hg with hg; subst hg; exact hr.lt
theorem map_range_length (z : Nat → Int) (k : Nat) : ((List.range k).map z).length = k := by simp
theorem law3 (A : Option Addr) (n c : Nat) (z : Nat → Int) (w : World) (ha : Arr w A n c (fun i => .int .u32 (z i))) :
    Calls Try.prog 3 #[.slice A n c] w fun e w' => e = .returned (.bool true) ∧ Below w.heap.size w w' := by
  have hm := ha.len
  unfold maxLen at hm
  by_cases h1 : 1048576 < n
  · go_enter Try.func3, Try.ntmps3
    go_wp2_with (go_at_call 11; refine (bytes11_no _ _ _ _ h1 hm).mono ?_; rintro e w' ⟨rfl, rfl⟩)
    go_ret
    exact ⟨rfl, Below.refl _ _⟩
  · have h1' : n ≤ 1048576 := by omega
    by_cases h2 : 131072 < n
    · go_enter Try.func3, Try.ntmps3
      go_wp2_with (go_at_call 11; refine (bytes11_yes _ _ _ _ h1').mono ?_; rintro e w' ⟨rfl, rfl⟩)
      go_ret
      exact ⟨rfl, Below.refl _ _⟩
    · have h2' : n ≤ 131072 := by omega
      go_enter Try.func3, Try.ntmps3
      go_wp2_with (first
        | (go_at_call 11; refine (bytes11_yes _ _ _ _ h1').mono ?_; rintro e w' ⟨rfl, rfl⟩)
        | (go_at_call 12; refine (cloneU32 _ _ _ _ _ ha h1').mono ?_; rintro e w1 ⟨A', rfl, hA', hb1⟩)
        | (go_at_call 13; refine (cs_new _).mono ?_; rintro e w2 ⟨p, rfl, hst, hb2⟩)
        | (go_at_call 14; refine (cstore_last hst (by simp)).mono ?_; rintro e w3 ⟨rfl, m, rfl⟩; have hl := lastOf_nil))
      go_loopw [4] (fun i wr => ∃ k : Nat, k ≤ n ∧ i = .int .i64 k ∧ Rel3 w A' n z p w1.heap.size k wr) (fun i _ => n - (intOf i).toNat)
      case atStart => exact ⟨0, Nat.zero_le _, rfl, rel3_start hA' hb1 hst hb2 m⟩
      case round =>
        obtain ⟨k, hk, rfl, own, hcs, hown, hAr, hg, hb, hB, hBw⟩ := hrel
        by_cases hkn : k < n
        · obtain ⟨g, hA, hgB, hgs, hrow⟩ := hAr.at_ hkn
          have hgo : ¬ own g := fun hx => by have := hg g hA; have := hown g hx; omega
          have H1 := Lib.hid hAr
          have H2 := Lib.hid hg
          clear hAr hg
          subst hA
          have c1 := hrow.cell hkn
          go_wp2_with (go_at_call 15; refine (cs_add hcs (by omega) _ _).mono ?_; rintro e w4 ⟨rfl, hst4, hfr4⟩; have c2 : w4.cell? ⟨g, k, none⟩ = some (.int .u32 (z k)) := (hfr4.cell (p := ⟨g, k, none⟩) hgs hgo).trans c1)
          have c14 : ∀ m, Calls Try.prog 14 #[.pointer (some ⟨p, 0, none⟩)] (w4.drewN m) fun e w' => e = .returned (.int .u32 (z k)) ∧ ∃ n, w' = (w4.drewN m).drewN n := fun m => by
            have h := cstore_last (hst4.drewN m) (by simp; omega)
            rwa [lastOf_snoc] at h
          go_quiet ((go_at_call 14; exact Calls.quiet_of (c14 _)))
          go_wp2
          go_roundw
          case rel => exact ⟨k + 1, by omega, by go_num, rel3_step hown H1.out H2.out hb hB hst4 hfr4 _ hBw⟩
          case measure => simp [intOf]; omega
        · have hkn' : k = n := by omega
          subst hkn'
          go_wp2
          go_ret
          exact ⟨rfl, hb⟩

theorem CS.drewN {w : World} {own : Nat → Prop} {p : Nat} {live ll : List Int} {gc cc gl cl : Nat} {xs ys : List Int} (h : CS w own p live ll gc cc gl cl xs ys) (k : Nat) : CS (w.drewN k) own p live ll gc cc gl cl xs ys :=
  ⟨h.row, h.codes, h.lines, h.len, h.le, h.lenl, h.tx, h.ty, h.op, h.oc, h.ol⟩
theorem bytes26_no (A : Option Addr) (n c : Nat) (x y : Int) (w : World) (h : 1048576 < n) (hm : n ≤ 9223372036854775807) :
    Calls Try.prog 26 #[.slice A n c, .int .u32 x, .int .i64 y] w fun e w' => e = .returned (.bool false) ∧ w = w' := by
  go_enter Try.func26, Try.ntmps26
  go_wp2
  go_ret
  exact ⟨rfl, rfl⟩
theorem bytes26_yes (A : Option Addr) (n c : Nat) (x y : Int) (w : World) (h : n ≤ 1048576) :
    Calls Try.prog 26 #[.slice A n c, .int .u32 x, .int .i64 y] w fun e w' => e = .returned (.bool true) ∧ w = w' := by
  go_enter Try.func26, Try.ntmps26
  go_wp2
  go_ret
  exact ⟨rfl, rfl⟩
theorem getD_map_range (z : Nat → Int) {n i : Nat} (h : i < n) : ((List.range n).map z).getD i 0 = z i := by
  simp [List.getD, List.getElem?_map, List.getElem?_range h]
theorem getD_swap (z : Nat → Int) {n i : Nat} (x : Int) (h : i + 1 < n) : (((List.range n).map z).dropLast ++ [x]).getD i 0 = z i := by
  have h2 : i < ((List.range n).map z).dropLast.length := by simp; omega
  rw [List.getD, List.getElem?_append_left h2, List.getElem?_dropLast]
  simp [List.getElem?_range (show i < n by omega), show i < n - 1 by omega]
theorem getD_last (z : Nat → Int) {n : Nat} (x : Int) : (((List.range n).map z).dropLast ++ [x]).getD (n - 1) 0 = x := by
  have h2 : ((List.range n).map z).dropLast.length = n - 1 := by simp
  rw [List.getD, List.getElem?_append_right (by omega), h2]
  simp
set_option maxRecDepth 100000 in
set_option maxHeartbeats 1000000 in
theorem law6 (A : Option Addr) (n c : Nat) (z : Nat → Int) (x y : Int) (w : World) (ha : Arr w A n c (fun i => .int .u32 (z i))) :
    Calls Try.prog 6 #[.slice A n c, .int .u32 x, .int .i64 y] w fun e w' => e = .returned (.bool true) ∧ Below w.heap.size w w' := by
  have hm := ha.len
  unfold maxLen at hm
  by_cases h1 : 1048576 < n
  · go_enter Try.func6, Try.ntmps6
    go_wp2_with (go_at_call 26; refine (bytes26_no _ _ _ _ _ _ h1 hm).mono ?_; rintro e w' ⟨rfl, rfl⟩)
    go_ret
    exact ⟨rfl, Below.refl _ _⟩
  · have h1' : n ≤ 1048576 := by omega
    by_cases h2 : 131072 < n
    · go_enter Try.func6, Try.ntmps6
      go_wp2_with (go_at_call 26; refine (bytes26_yes _ _ _ _ _ _ h1').mono ?_; rintro e w' ⟨rfl, rfl⟩)
      go_ret
      exact ⟨rfl, Below.refl _ _⟩
    · have h2' : n ≤ 131072 := by omega
      by_cases h0 : n = 0
      · have hz : ((n : Int) == 0) = true := by rw [h0]; rfl
        clear h0
        go_enter Try.func6, Try.ntmps6
        go_wp2_with (go_at_call 26; refine (bytes26_yes _ _ _ _ _ _ h1').mono ?_; rintro e w' ⟨rfl, rfl⟩)
        go_ret
        exact ⟨rfl, Below.refl _ _⟩
      · have hz : ((n : Int) == 0) = false := beq_eq_false_iff_ne.2 (by omega)
        have h0' : 1 ≤ n := by omega
        clear h0
        go_enter Try.func6, Try.ntmps6
        go_wp2_with (first
          | (go_at_call 26; refine (bytes26_yes _ _ _ _ _ _ h1').mono ?_; rintro e w' ⟨rfl, rfl⟩)
          | (go_at_call 12; refine (cloneU32 _ _ _ _ _ ha h1').mono ?_; rintro e w1 ⟨A', rfl, hA', hb1⟩)
          | (go_at_call 13; refine (cs_new _).mono ?_; rintro e w2 ⟨p, rfl, hst, hb2⟩))
        go_loopw [8] (fun i wr => ∃ k : Nat, k ≤ n ∧ i = .int .i64 k ∧ Rel3 w A' n z p w1.heap.size k wr) (fun i _ => n - (intOf i).toNat)
        case atStart => exact ⟨0, Nat.zero_le _, rfl, rel3_start hA' hb1 hst hb2 0⟩
        case round =>
          obtain ⟨k, hk, rfl, own, hcs, hown, hAr, hg, hb, hB, hBw⟩ := hrel
          by_cases hkn : k < n
          · obtain ⟨g, hA, hgB, hgs, hrow⟩ := hAr.at_ hkn
            have H1 := Lib.hid hAr
            have H2 := Lib.hid hg
            clear hAr hg
            subst hA
            have c1 := hrow.cell hkn
            go_wp2_with (go_at_call 15; refine (cs_add hcs (by omega) _ _).mono ?_; rintro e w4 ⟨rfl, hst4, hfr4⟩)
            go_roundw
            case rel => exact ⟨k + 1, by omega, by go_num, rel3_step hown H1.out H2.out hb hB hst4 hfr4 0 hBw⟩
            case measure => simp [intOf]; omega
          · have hkn' : k = n := by omega
            subst hkn'
            obtain ⟨g, hA, hgB, hgs, hrow⟩ := hAr.at_ (show 0 < k by omega)
            have hgo : ¬ own g := fun hx => by have := hg g hA; have := hown g hx; omega
            clear hAr hg
            subst hA
            go_wp2_with (first
              | (go_at_call 27; refine (cs_pop hcs (by simp; omega) (by simp; omega)).mono ?_; rintro e w5 ⟨rfl, hst5, hfr5⟩))
            refine (cs_add hst5 (by omega) _ _).mono ?_
            rintro e w6 ⟨rfl, ⟨gc, cc, gl, cl, xs, ys, hCS, hN⟩, hfr6⟩
            have hlen6 : ((List.map z (List.range k)).dropLast ++ [x]).length = k := by simp only [List.length_append, List.length_dropLast, List.length_map, List.length_range, List.length_cons, List.length_nil]; omega
            have hl7 := cs_list hCS
            rw [hlen6] at hl7
            have hl8 : ∀ m, Calls Try.prog 29 #[.pointer (some ⟨p, 0, none⟩)] (w6.drewN m) fun e w' => e = .returned (.slice (some ⟨gl, 0, none⟩) k cl) ∧ ∃ n, w' = (w6.drewN m).drewN n := fun m => by
              have := cs_posList (hCS.drewN m)
              rwa [hlen6] at this
            have K := Lib.hid hlen6
            clear hlen6
            go_wp2_with (first
              | (go_at_call 28; refine hl7.mono ?_; rintro e w7 ⟨rfl, m7, rfl⟩)
              | (go_at_call 29; refine (hl8 _).mono ?_; rintro e w8 ⟨rfl, m8, rfl⟩))
            have hgo6 : ¬ (own g ∨ (wr.heap.size ≤ g ∧ g < w6.heap.size)) := fun h => by rcases h with h | h; exact hgo h; omega
            have cg : ∀ i, i < k → w6.cell? ⟨g, i, none⟩ = some (.int .u32 (z i)) := fun i hi =>
              (hfr6.cell (p := ⟨g, i, none⟩) (Nat.lt_of_lt_of_le hgs hfr5.size) hgo).trans ((hfr5.cell (p := ⟨g, i, none⟩) hgs hgo).trans (hrow.cell hi))
            have cc1 : ∀ i, i + 1 < k → w6.cell? ⟨gc, i, none⟩ = some (.int .u32 (z i)) := fun i hi => by
              have := hCS.code_at (i := i) (by rw [K.out]; omega)
              rwa [getD_swap z x hi] at this
            have cl1 : ∀ i, i + 1 < k → w6.cell? ⟨gl, i, none⟩ = some (.int .i64 (i : Int)) := fun i hi => by
              have := hCS.line_at (i := i) (by rw [K.out]; omega)
              rwa [getD_swap Int.ofNat y hi] at this
            have cc2 : w6.cell? ⟨gc, k - 1, none⟩ = some (.int .u32 x) := by
              have := hCS.code_at (i := k - 1) (by rw [K.out]; omega)
              rwa [getD_last z x] at this
            have cl2 : w6.cell? ⟨gl, k - 1, none⟩ = some (.int .i64 y) := by
              have := hCS.line_at (i := k - 1) (by rw [K.out]; omega)
              rwa [getD_last Int.ofNat y] at this
            have CG := Lib.hid cg
            have CC1 := Lib.hid cc1
            have CL1 := Lib.hid cl1
            clear cg cc1 cl1 hrow hl8 hl7
            go_loopw [12] (fun i wq => ∃ j : Nat, j + 1 ≤ k ∧ i = .int .i64 j ∧ ∃ m, wq = w6.drewN m) (fun i _ => k - (intOf i).toNat)
            case atStart => exact ⟨0, by omega, rfl, _, rfl⟩
            case round =>
              obtain ⟨j, hj, rfl, m, rfl⟩ := hrel
              by_cases hjk : j + 1 < k
              · have d1 := CG.out j (by omega)
                have d2 := CC1.out j hjk
                have d3 := CL1.out j hjk
                go_wp2
                go_quiet (fail)
                go_wp2
                go_roundw
                case rel => exact ⟨j + 1, by omega, by go_num, _, rfl⟩
                case measure => simp [intOf]; omega
              · have hj' : j + 1 = k := by omega
                have hlast : lastOf ((List.map z (List.range k)).dropLast ++ [x]) = x := lastOf_snoc _ _
                have c14 : ∀ m, Calls Try.prog 14 #[.pointer (some ⟨p, 0, none⟩)] (w6.drewN m) fun e w' => e = .returned (.int .u32 x) ∧ ∃ n, w' = (w6.drewN m).drewN n := fun m => by
                  have h := cs_last (hCS.drewN m) (by rw [K.out]; omega)
                  rwa [lastOf_snoc] at h
                have c30 : ∀ m, Calls Try.prog 30 #[.pointer (some ⟨p, 0, none⟩)] (w6.drewN m) fun e w' => e = .returned (.int .i64 ((k : Int) - 1)) ∧ w6.drewN m = w' := fun m => by
                  have h := cs_lastPC (hCS.drewN m) (by rw [K.out]; omega)
                  rwa [K.out] at h
                clear hj' hlast
                go_wp2_with (first | (go_at_call 14; refine (c14 _).mono ?_; rintro e w9 ⟨rfl, m9, rfl⟩) | (go_at_call 30; refine (c30 _).mono ?_; rintro e w9 ⟨rfl, rfl⟩))
                go_ret
                refine ⟨rfl, below_drewN ?_ _⟩
                exact (hb.trans (hfr5.below hb.size (fun x hx => by have := hown x hx; omega))).trans (hfr6.below (Nat.le_trans hb.size hfr5.size) (fun x hx => by have := hown x hx; omega))
theorem bytes35_no (A : Option Addr) (n c : Nat) (x : Int) (w : World) (h : 1048576 < n) (hm : n ≤ 9223372036854775807) :
    Calls Try.prog 35 #[.slice A n c, .int .i64 x] w fun e w' => e = .returned (.bool false) ∧ w = w' := by
  go_enter Try.func35, Try.ntmps35
  go_wp2
  go_ret
  exact ⟨rfl, rfl⟩
theorem bytes35_yes (A : Option Addr) (n c : Nat) (x : Int) (w : World) (h : n ≤ 1048576) :
    Calls Try.prog 35 #[.slice A n c, .int .i64 x] w fun e w' => e = .returned (.bool true) ∧ w = w' := by
  go_enter Try.func35, Try.ntmps35
  go_wp2
  go_ret
  exact ⟨rfl, rfl⟩
theorem dropLast_range {α : Type} (f : Nat → α) (m : Nat) : ((List.range (m + 1)).map f).dropLast = (List.range m).map f := by
  rw [List.range_succ, List.map_append]; simp
set_option maxRecDepth 100000 in
set_option maxHeartbeats 1000000 in
theorem law10 (A : Option Addr) (n c : Nat) (z : Nat → Int) (x : Int) (hx0 : -9223372036854775808 ≤ x) (hx1 : x ≤ 9223372036854775807) (w : World) (ha : Arr w A n c (fun i => .int .u32 (z i))) :
    Calls Try.prog 10 #[.slice A n c, .int .i64 x] w fun e w' => e = .returned (.bool true) ∧ Below w.heap.size w w' := by
  have hm := ha.len
  unfold maxLen at hm
  by_cases h1 : 1048576 < n
  · go_enter Try.func10, Try.ntmps10
    go_wp2_with (go_at_call 35; refine (bytes35_no _ _ _ _ _ h1 hm).mono ?_; rintro e w' ⟨rfl, rfl⟩)
    go_ret
    exact ⟨rfl, Below.refl _ _⟩
  · have h1' : n ≤ 1048576 := by omega
    by_cases h2 : 131072 < n
    · go_enter Try.func10, Try.ntmps10
      go_wp2_with (go_at_call 35; refine (bytes35_yes _ _ _ _ _ h1').mono ?_; rintro e w' ⟨rfl, rfl⟩)
      go_ret
      exact ⟨rfl, Below.refl _ _⟩
    · have h2' : n ≤ 131072 := by omega
      by_cases hneg : x < 0
      · go_enter Try.func10, Try.ntmps10
        go_wp2_with (go_at_call 35; refine (bytes35_yes _ _ _ _ _ h1').mono ?_; rintro e w' ⟨rfl, rfl⟩)
        go_ret
        exact ⟨rfl, Below.refl _ _⟩
      · by_cases hbig : (n : Int) < x
        · go_enter Try.func10, Try.ntmps10
          go_wp2_with (go_at_call 35; refine (bytes35_yes _ _ _ _ _ h1').mono ?_; rintro e w' ⟨rfl, rfl⟩)
          go_ret
          exact ⟨rfl, Below.refl _ _⟩
        · obtain ⟨q, rfl⟩ : ∃ q : Nat, x = (q : Int) := ⟨x.toNat, by omega⟩
          have hq : q ≤ n := by omega
          clear hneg hbig
          go_enter Try.func10, Try.ntmps10
          go_wp2_with (first
            | (go_at_call 35; refine (bytes35_yes _ _ _ _ _ h1').mono ?_; rintro e w' ⟨rfl, rfl⟩)
            | (go_at_call 12; refine (cloneU32 _ _ _ _ _ ha h1').mono ?_; rintro e w1 ⟨A', rfl, hA', hb1⟩)
            | (go_at_call 13; refine (cs_new _).mono ?_; rintro e w2 ⟨p, rfl, hst, hb2⟩))
          go_loopw [6] (fun i wr => ∃ k : Nat, k ≤ n ∧ i = .int .i64 k ∧ Rel3 w A' n z p w1.heap.size k wr) (fun i _ => n - (intOf i).toNat)
          case atStart => exact ⟨0, Nat.zero_le _, rfl, rel3_start hA' hb1 hst hb2 0⟩
          case round =>
            obtain ⟨k, hk, rfl, own, hcs, hown, hAr, hg, hb, hB, hBw⟩ := hrel
            by_cases hkn : k < n
            · obtain ⟨g, hA, hgB, hgs, hrow⟩ := hAr.at_ hkn
              have H1 := Lib.hid hAr
              have H2 := Lib.hid hg
              clear hAr hg
              subst hA
              have c1 := hrow.cell hkn
              go_wp2_with (go_at_call 15; refine (cs_add hcs (by omega) _ _).mono ?_; rintro e w4 ⟨rfl, hst4, hfr4⟩)
              go_roundw
              case rel => exact ⟨k + 1, by omega, by go_num, rel3_step hown H1.out H2.out hb hB hst4 hfr4 0 hBw⟩
              case measure => simp [intOf]; omega
            · have hkn' : k = n := by omega
              subst hkn'
              obtain ⟨wo, rfl⟩ : ∃ wo : World, wo = wr := ⟨_, rfl⟩
              go_wp2
              go_loopw [7] (fun i wq => ∃ j : Nat, j ≤ q ∧ i = .int .i64 j ∧ CStore wq own p ((List.range (k - j)).map z) ((List.range (k - j)).map Int.ofNat) k ∧ Fr own wo wq) (fun i _ => q - (intOf i).toNat)
              case atStart => exact ⟨0, by omega, rfl, hcs, Fr.refl _ _⟩
              case round =>
                obtain ⟨j, hj, rfl, hcs2, hfr2⟩ := hrel
                by_cases hjq : j < q
                · go_wp2_with (go_at_call 27; refine (cs_pop hcs2 (by simp; omega) (by simp; omega)).mono ?_; rintro e w5 ⟨rfl, hst5, hfr5⟩)
                  go_roundw
                  case rel =>
                    refine ⟨j + 1, by omega, by go_num, ?_, hfr2.trans hfr5 (fun x hx => .inl hx)⟩
                    have e1 : k - j = (k - (j + 1)) + 1 := by omega
                    rw [e1, dropLast_range, dropLast_range] at hst5
                    exact hst5
                  case measure => simp [intOf]; omega
                · have hjq' : j = q := by omega
                  subst hjq'
                  obtain ⟨m, hmm⟩ : ∃ m : Nat, k - j = m := ⟨_, rfl⟩
                  rw [hmm] at hcs2
                  have hmk : ((k : Int) - (j : Int)) = (m : Int) := by omega
                  have hmle : m ≤ k := by omega
                  have hlen : (List.map z (List.range m)).length = m := by simp
                  obtain ⟨gc, cc, gl, cl, xs, ys, hCS, hN⟩ := hcs2
                  have hfb : ∀ M, Below w.heap.size w (wr.drewN M) := fun M => below_drewN (hb.trans (hfr2.below hb.size (fun x hx => by have := hown x hx; omega))) M
                  have FB := Lib.hid hfb
                  clear hfb hmm
                  have c14 : ∀ M, Calls Try.prog 14 #[.pointer (some ⟨p, 0, none⟩)] (wr.drewN M) fun e w' => e = .returned (.int .u32 (lastOf (List.map z (List.range m)))) ∧ ∃ n, w' = (wr.drewN M).drewN n := fun M =>
                    cs_last (hCS.drewN M) (by rw [hlen]; omega)
                  have c28 : ∀ M, Calls Try.prog 28 #[.pointer (some ⟨p, 0, none⟩)] (wr.drewN M) fun e w' => e = .returned (.slice (some ⟨gc, 0, none⟩) m cc) ∧ ∃ n, w' = (wr.drewN M).drewN n := fun M => by
                    have h := cs_list (hCS.drewN M)
                    rwa [hlen] at h
                  have c29 : ∀ M, Calls Try.prog 29 #[.pointer (some ⟨p, 0, none⟩)] (wr.drewN M) fun e w' => e = .returned (.slice (some ⟨gl, 0, none⟩) m cl) ∧ ∃ n, w' = (wr.drewN M).drewN n := fun M => by
                    have h := cs_posList (hCS.drewN M)
                    rwa [hlen] at h
                  have c30 : Calls Try.prog 30 #[.pointer (some ⟨p, 0, none⟩)] wr fun e w' => e = .returned (.int .i64 ((m : Int) - 1)) ∧ wr = w' := by
                    have h := cs_lastPC hCS (by rw [hlen]; omega)
                    rwa [hlen] at h
                  have cx : ∀ i, i < m → wr.cell? ⟨gc, i, none⟩ = some (.int .u32 (z i)) := fun i hi => by
                    have := hCS.code_at (i := i) (by rw [hlen]; exact hi)
                    rwa [getD_map_range z hi] at this
                  have cy : ∀ i, i < m → wr.cell? ⟨gl, i, none⟩ = some (.int .i64 (i : Int)) := fun i hi => by
                    have := hCS.line_at (i := i) (by rw [hlen]; exact hi)
                    rwa [getD_map_range Int.ofNat hi] at this
                  have CX := Lib.hid cx
                  have CY := Lib.hid cy
                  clear cx cy hlen
                  by_cases hm0 : 0 < m
                  · obtain ⟨g, hA, hgB, hgs, hrow⟩ := hAr.at_ (show 0 < k by omega)
                    have hgo : ¬ own g := fun hx => by have := hg g hA; have := hown g hx; omega
                    have cg : ∀ i, i < k → wr.cell? ⟨g, i, none⟩ = some (.int .u32 (z i)) := fun i hi => (hfr2.cell (p := ⟨g, i, none⟩) hgs hgo).trans (hrow.cell hi)
                    have CG := Lib.hid cg
                    have cgm := cg (m - 1) (by omega)
                    have el : lastOf (List.map z (List.range m)) = z (m - 1) := by
                      obtain ⟨m', rfl⟩ : ∃ m', m = m' + 1 := ⟨m - 1, by omega⟩
                      rw [List.range_succ, List.map_append]
                      exact lastOf_snoc _ _
                    rw [el] at c14
                    clear cg el hAr hg hrow
                    subst hA
                    go_wp2_with (first | (go_at_call 30; refine c30.mono ?_; rintro e w9 ⟨rfl, rfl⟩) | (go_at_call 14; refine (c14 0).mono ?_; rintro e w9 ⟨rfl, m9, rfl⟩) | (go_at_call 28; refine (c28 _).mono ?_; rintro e w9 ⟨rfl, m8, rfl⟩))
                    obtain ⟨wz, rfl⟩ : ∃ wz : World, wz = wr := ⟨_, rfl⟩
                    go_loopw [11] (fun i wq => ∃ j : Nat, j ≤ m ∧ i = .int .i64 j ∧ ∃ M, wq = wz.drewN M) (fun i _ => m - (intOf i).toNat)
                    case atStart => exact ⟨0, by omega, rfl, _, rfl⟩
                    case round =>
                      obtain ⟨i, hi, rfl, M, rfl⟩ := hrel
                      by_cases him : i < m
                      · have d1 := CX.out i him
                        have d2 := CG.out i (by omega)
                        go_wp2
                        go_quiet (fail)
                        go_wp2
                        go_roundw
                        case rel => exact ⟨i + 1, by omega, by go_num, _, rfl⟩
                        case measure => simp [intOf]; omega
                      · go_wp2_with (go_at_call 29; refine (c29 _).mono ?_; rintro e w9 ⟨rfl, m8, rfl⟩)
                        go_loopw [13] (fun i wq => ∃ j : Nat, j ≤ m ∧ i = .int .i64 j ∧ ∃ M, wq = wz.drewN M) (fun i _ => m - (intOf i).toNat)
                        case atStart => exact ⟨0, by omega, rfl, _, rfl⟩
                        case round =>
                          obtain ⟨l, hl, rfl, M, rfl⟩ := hrel
                          by_cases hlm : l < m
                          · have d1 := CY.out l hlm
                            go_wp2
                            go_roundw
                            case rel => exact ⟨l + 1, by omega, by go_num, _, rfl⟩
                            case measure => simp [intOf]; omega
                          · go_wp2
                            go_ret
                            exact ⟨rfl, FB.out _⟩
                  · obtain rfl : m = 0 := by omega
                    have el : lastOf (List.map z (List.range 0)) = 4294967295 := rfl
                    rw [el] at c14
                    simp only [Int.natCast_zero, Int.zero_sub] at hmk c30
                    clear el hAr hg CX CY
                    go_wp2_with (first | (go_at_call 30; refine c30.mono ?_; rintro e w9 ⟨rfl, rfl⟩) | (go_at_call 14; refine (c14 0).mono ?_; rintro e w9 ⟨rfl, m9, rfl⟩) | (go_at_call 28; refine (c28 _).mono ?_; rintro e w9 ⟨rfl, m8, rfl⟩) | (go_at_call 29; refine (c29 _).mono ?_; rintro e w9 ⟨rfl, m8, rfl⟩))
                    obtain ⟨wz, rfl⟩ : ∃ wz : World, wz = wr := ⟨_, rfl⟩
                    go_loopw [11] (fun i wq => i = .int .i64 0 ∧ ∃ M, wq = wz.drewN M) (fun _ _ => 0)
                    case atStart => exact ⟨rfl, _, rfl⟩
                    case round =>
                      obtain ⟨rfl, M, rfl⟩ := hrel
                      go_wp2_with (go_at_call 29; refine (c29 _).mono ?_; rintro e w9 ⟨rfl, m8, rfl⟩)
                      go_loopw [13] (fun i wq => i = .int .i64 0 ∧ ∃ M, wq = wz.drewN M) (fun _ _ => 0)
                      case atStart => exact ⟨rfl, _, rfl⟩
                      case round =>
                        obtain ⟨rfl, M, rfl⟩ := hrel
                        go_wp2
                        go_ret
                        exact ⟨rfl, FB.out _⟩
theorem bytes32_no (A : Option Addr) (n c : Nat) (w : World) (h : 1048576 < n) (hm : n ≤ 9223372036854775807) :
    Calls Try.prog 32 #[.slice A n c] w fun e w' => e = .returned (.bool false) ∧ w = w' := by
  go_enter Try.func32, Try.ntmps32
  go_wp2
  go_ret
  exact ⟨rfl, rfl⟩
theorem bytes32_yes (A : Option Addr) (n c : Nat) (w : World) (h : n ≤ 1048576) :
    Calls Try.prog 32 #[.slice A n c] w fun e w' => e = .returned (.bool true) ∧ w = w' := by
  go_enter Try.func32, Try.ntmps32
  go_wp2
  go_ret
  exact ⟨rfl, rfl⟩
/-- The store and the model side by side, behind k steps. -/
structure Rel8 (w : World) (A : Option Addr) (n : Nat) (z : Nat → Int) (p B : Nat) (k : Nat) (wr : World) (own : Nat → Prop) (gm cm L : Nat) (ml ll : List Int) : Prop where
  store : CStore wr own p ml ll k
  model : OR wr 27 gm L cm (u32s ml)
  len : ml.length = L
  le : L ≤ k
  bd : ∀ x, own x → B ≤ x ∧ x < wr.heap.size
  nog : ¬ own gm
  gB : B ≤ gm
  gz : gm < wr.heap.size
  arr : Own wr w.heap.size 27 A n (fun i => .int .u32 (z i))
  ga : ∀ g, A = some ⟨g, 0, none⟩ → g < B
  bel : Below w.heap.size w wr
  wB : w.heap.size ≤ B
  Bw : B ≤ wr.heap.size

theorem own_drewN {w : World} {B n : Nat} {e : TypeId} {A : Option Addr} {f : Nat → Value} (h : Own w B e A n f) (k : Nat) : Own (w.drewN k) B e A n f := h
theorem or_drewN {w : World} {e : TypeId} {g n cap : Nat} {l : List Value} (h : OR w e g n cap l) (k : Nat) : OR (w.drewN k) e g n cap l := h
theorem CStore.more {w : World} {own : Nat → Prop} {p : Nat} {live ll : List Int} {N N' : Nat} (h : CStore w own p live ll N) (ho : N ≤ N') : CStore w own p live ll N' := by
  obtain ⟨gc, cc, gl, cl, xs, ys, h, hN⟩ := h
  exact ⟨gc, cc, gl, cl, xs, ys, h, by omega⟩
theorem or_cap {w : World} {e : TypeId} {g n cap : Nat} {l : List Value} (h : OR w e g n cap l) : n ≤ cap ∧ cap ≤ maxLen := by
  obtain ⟨_, h1 | ⟨g', cap', cur, h1, _, _, hc, hm, _⟩⟩ := h
  · simp at h1
  · simp at h1; obtain ⟨_, rfl⟩ := h1; exact ⟨hc, hm⟩
theorem rel8_start {w w1 w2 : World} {A : Option Addr} {n p : Nat} {z : Nat → Int} (hA : Own w1 w.heap.size 27 A n (fun i => .int .u32 (z i))) (hb1 : Below w.heap.size w w1)
    (hst : CStore w2 (fun x => w1.heap.size ≤ x ∧ x < w2.heap.size) p [] [] 0) (hb2 : Below w1.heap.size w1 w2) (C : Array Value) (hC : C.size = n) (hn : n ≤ maxLen) :
    Rel8 w A n z p w1.heap.size 0 (w2.alloc (.cells C 27)) (fun x => w1.heap.size ≤ x ∧ x < w2.heap.size) w2.heap.size n 0 [] [] := by
  have hz := hb2.size
  refine ⟨?_, World.ownsRow_made (base := 0) (size := 1) w2 C n (Nat.zero_le _) hn (by rw [hC, Nat.mul_one]), rfl, Nat.le_refl _, fun x hx => ⟨hx.1, by simp; omega⟩, fun h => by omega, hz, by simp, ?_, fun g hg => ?_, ?_, hb1.size, by simp; omega⟩
  · obtain ⟨gc, cc, gl, cl, xs, ys, h, hN⟩ := hst
    exact ⟨gc, cc, gl, cl, xs, ys, ⟨World.rowIs.alloc h.row _, World.ownsRow.alloc h.codes _, World.ownsRow.alloc h.lines _, h.len, h.le, h.lenl, h.tx, h.ty, h.op, h.oc, h.ol⟩, hN⟩
  · exact hA.below (hb2.alloc (by omega) _) (Nat.le_refl _)
  · rcases hA with ⟨h, _⟩ | ⟨g', h, _, hr⟩
    · rw [h] at hg; cases hg
    · rw [h] at hg; injection hg with hg; injection hg with hg; subst hg; exact hr.lt
  · exact (hb1.trans (hb2.mono hb1.size)).alloc (by have := hb1.size; omega) _
theorem rel8_pop {w : World} {A : Option Addr} {n : Nat} {z : Nat → Int} {p B k : Nat} {wr w' : World} {own : Nat → Prop} {gm cm L : Nat} {ml ll : List Int} (R : Rel8 w A n z p B k wr own gm cm (L + 1) ml ll)
    (hst : CStore w' own p ml.dropLast ll.dropLast k) (hf : Fr own wr w') (M : Nat) : Rel8 w A n z p B (k + 1) (w'.drewN M) own gm cm L ml.dropLast ll.dropLast := by
  have hz := hf.size
  refine ⟨(hst.more (by omega)).drewN M, ?_, by rw [List.length_dropLast, R.len]; rfl, by have := R.le; omega, fun x hx => ⟨(R.bd x hx).1, Nat.lt_of_lt_of_le (R.bd x hx).2 hz⟩, R.nog, R.gB, Nat.lt_of_lt_of_le R.gz hz,
    own_drewN (R.arr.fr hf (fun g hA hx => by have := R.ga g hA; have := R.bd g hx; omega)) M, R.ga, below_drewN (R.bel.trans (hf.below R.bel.size (fun x hx => by have := R.bd x hx; have := R.wB; omega))) M, R.wB, Nat.le_trans R.Bw hz⟩
  have h1 : OR w' 27 gm (L + 1) cm (u32s ml) := hf.own R.model (fun k hk hx => by simp [Value.ownBlock] at hk; subst hk; exact R.nog hx)
  have hne : ml ≠ [] := by have := R.len; intro h; rw [h] at this; simp at this
  have e : u32s ml = u32s ml.dropLast ++ [.int .u32 (ml.getLast hne)] := by
    conv => lhs; rw [← List.dropLast_concat_getLast hne]
    simp [u32s]
  rw [e] at h1
  exact ownsRow_pop (n := L) (size := 1) (xs := u32s ml.dropLast) (by simp [u32s, R.len]) h1
theorem rel8_add {w : World} {A : Option Addr} {n : Nat} {z : Nat → Int} {p B k : Nat} {wr w' w5 : World} {own : Nat → Prop} {gm cm L g2 cap2 : Nat} {ml ll : List Int} {x y : Int} (R : Rel8 w A n z p B k wr own gm cm L ml ll)
    (hst : CStore w' (fun t => own t ∨ (wr.heap.size ≤ t ∧ t < w'.heap.size)) p (ml ++ [x]) (ll ++ [y]) (k + 1)) (hf : Fr own wr w')
    (ho : OR w5 27 g2 (L + 1) cap2 (u32s ml ++ [.int .u32 x])) (hg : (w'.alloc (.cells #[.int .u32 x] 27)).grownBy w5 (some gm)) (hat : some gm = some g2 ∨ g2 = (w'.alloc (.cells #[.int .u32 x] 27)).heap.size) (hlt : g2 < w5.heap.size) (M : Nat) :
    Rel8 w A n z p B (k + 1) (w5.drewN M) (fun t => own t ∨ (wr.heap.size ≤ t ∧ t < w'.heap.size)) g2 cap2 (L + 1) (ml ++ [x]) (ll ++ [y]) := by
  have hz := hf.size
  have hz2 : w'.heap.size + 1 ≤ w5.heap.size := by have := hg.size; simpa using this
  have hgz := R.gz
  have e2 : g2 = gm ∨ g2 = w'.heap.size + 1 := by
    rcases hat with h | h
    · injection h with h; exact .inl h.symm
    · exact .inr (by simpa using h)
  have hgm := R.nog
  have f2 : Fr (fun t => t = gm) w' w5 := ((Fr.refl _ w').alloc _).grown hg (fun k hk => by left; injection hk with hk; exact hk.symm)
  have ngm : ¬ (own gm ∨ (wr.heap.size ≤ gm ∧ gm < w'.heap.size)) := fun h => by rcases h with h | h; exact hgm h; omega
  refine ⟨CStore.drewN ?_ M, or_drewN (by simpa [u32s] using ho) M, by simp [R.len], by have := R.le; omega, ?_, ?_, ?_, hlt, ?_, R.ga, ?_, R.wB, ?_⟩
  · obtain ⟨gc, cc, gl, cl, xs, ys, h, hN⟩ := hst
    have np : p ≠ gm := fun e => ngm (e ▸ h.op)
    have nc : gc ≠ gm := fun e => ngm (e ▸ h.oc)
    have nl : gl ≠ gm := fun e => ngm (e ▸ h.ol)
    exact ⟨gc, cc, gl, cl, xs, ys, ⟨f2.row h.row np, f2.own h.codes (fun k hk => by simp [Value.ownBlock] at hk; omega), f2.own h.lines (fun k hk => by simp [Value.ownBlock] at hk; omega), h.len, h.le, h.lenl, h.tx, h.ty, h.op, h.oc, h.ol⟩, hN⟩
  · rintro t (ht | ht)
    · have := R.bd t ht; exact ⟨this.1, by show t < w5.heap.size; omega⟩
    · exact ⟨by have := R.Bw; omega, by show t < w5.heap.size; omega⟩
  · rcases e2 with rfl | rfl
    · exact ngm
    · rintro (h | h)
      · have := R.bd _ h; omega
      · omega
  · rcases e2 with rfl | rfl
    · exact R.gB
    · have := R.Bw; omega
  · have h1 := R.arr.fr hf (fun g hA hx => by have := R.ga g hA; have := R.bd g hx; omega)
    exact own_drewN (h1.fr f2 (fun g hA hx => by have := R.ga g hA; have := R.gB; omega)) M
  · have b1 := R.bel.trans (hf.below R.bel.size (fun x hx => by have := R.bd x hx; have := R.wB; omega))
    exact below_drewN (b1.trans (f2.below b1.size (fun x hx => by have := R.gB; have := R.wB; omega))) M
  · show B ≤ w5.heap.size; have := R.Bw; omega
theorem lastOf_at {ml : List Int} {w : World} {gm cm L : Nat} (h : OR w 27 gm (L + 1) cm (u32s ml)) (hl : ml.length = L + 1) : w.cell? ⟨gm, L, none⟩ = some (.int .u32 (lastOf ml)) := by
  rw [World.ownsRow.cellAt h L (by omega), u32s, List.getElem?_map, List.getElem?_eq_getElem (by omega)]
  simp [lastOf, List.getLast?_eq_getElem?, hl]
set_option maxRecDepth 100000 in
set_option maxHeartbeats 1000000 in
theorem law8 (A : Option Addr) (n c : Nat) (z : Nat → Int) (w : World) (ha : Arr w A n c (fun i => .int .u32 (z i))) :
    Calls Try.prog 8 #[.slice A n c] w fun e w' => e = .returned (.bool true) ∧ Below w.heap.size w w' := by
  have hm := ha.len
  unfold maxLen at hm
  by_cases h1 : 1048576 < n
  · go_enter Try.func8, Try.ntmps8
    go_wp2_with (go_at_call 32; refine (bytes32_no _ _ _ _ h1 hm).mono ?_; rintro e w' ⟨rfl, rfl⟩)
    go_ret
    exact ⟨rfl, Below.refl _ _⟩
  · have h1' : n ≤ 1048576 := by omega
    by_cases h2 : 131072 < n
    · go_enter Try.func8, Try.ntmps8
      go_wp2_with (go_at_call 32; refine (bytes32_yes _ _ _ _ h1').mono ?_; rintro e w' ⟨rfl, rfl⟩)
      go_ret
      exact ⟨rfl, Below.refl _ _⟩
    · have h2' : n ≤ 131072 := by omega
      have hmk : ∀ W : World, (Instr.makeSlice 22 (.int .i64 0) (.int .i64 (n : Int))).run Try.prog W = .ok (.slice (some ⟨W.heap.size, 0, none⟩) 0 n) (W.alloc (.cells (madeCells #[.int .u32 0] n) 27)) :=
        fun W => run_make_cap (P := Try.prog) 22 27 (.int .u32 0) 4 Try.underlying22 info27 rfl .i64 .i64 0 n (by omega) (by omega) (by omega) W
      go_enter Try.func8, Try.ntmps8
      go_wp2_with (first
        | (go_at_call 32; refine (bytes32_yes _ _ _ _ h1').mono ?_; rintro e w' ⟨rfl, rfl⟩)
        | (go_at_call 12; refine (cloneU32 _ _ _ _ _ ha h1').mono ?_; rintro e w1 ⟨A', rfl, hA', hb1⟩)
        | (go_at_call 13; refine (cs_new _).mono ?_; rintro e w2 ⟨p, rfl, hst, hb2⟩))
      go_loopw [4, 5] (fun v i wr => ∃ k : Nat, k ≤ n ∧ i = .int .i64 k ∧ ∃ own gm cm L ml ll, v = .slice (some ⟨gm, 0, none⟩) L cm ∧ Rel8 w A' n z p w1.heap.size k wr own gm cm L ml ll) (fun _ i _ => n - (intOf i).toNat)
      case atStart => exact ⟨0, Nat.zero_le _, rfl, _, _, _, _, _, _, rfl, rel8_start hA' hb1 hst hb2 _ (size_madeCells _ _) (by unfold maxLen; omega)⟩
      case round =>
        obtain ⟨k, hk, rfl, own, gm, cm, L, ml, ll, rfl, R⟩ := hrel
        by_cases hkn : k < n
        · obtain ⟨g, hA, hgB, hgs, hrow⟩ := R.arr.at_ hkn
          have c1 := hrow.cell hkn
          have R' := Lib.hid R
          have hgo : ¬ own g := fun hx => by have := R.ga g hA; have := R.bd g hx; omega
          have hgm : g ≠ gm := by have := R.ga g hA; have := R.gB; omega
          have hLk : L ≤ 131072 := by have := R.le; omega
          clear hrow R
          subst hA
          obtain ⟨i0, hi0, hz0, hz1, hz2⟩ := info_parts info27
          by_cases hb : ((z k).tmod 4 == 0) = true
          · match L, hLk, R' with
            | 0, hLk, R' =>
              go_wp2_with (first
                | (go_at_call 15; refine (cs_add R'.out.store (by omega) _ _).mono ?_; rintro e w4 ⟨rfl, hst4, hfr4⟩; have hmo := Fr.own hfr4 R'.out.model (fun k hk hx => by (simp [Value.ownBlock] at hk; subst hk; exact R'.out.nog hx)); have hgz4 : gm < w4.heap.size := Nat.lt_of_lt_of_le R'.out.gz hfr4.size)
                | (at_builtin; refine wpList_append_lies _ rfl (.tmp 51) (.tmp 53) 22 rfl 0 27 i0 (.int .u32 0) 1 4 Try.underlying22 hi0 hz0 hz1 hz2 rfl (by decide) _ _ (u32s ml) rfl (World.ownsRow.alloc hmo _) ⟨w4.heap.size, 0, none⟩ 1 1 [.int .u32 (z k)] rfl rfl (news_new _ _ _ _ rfl) (by intro u hu; simp at hu; subst hu; rfl) (by omega) (by unfold maxLen; omega) (by omega) (Nat.zero_le _) _ rfl ?_; intro g2 cap2 w5 hown5 hgr5 hat5 hlt5; simp only [Nat.zero_add] at hown5; have RA := rel8_add R'.out hst4 hfr4 hown5 hgr5 hat5 hlt5; have hlm : (ml ++ [z k]).length = 1 := (RA 0).len; have d1 : w5.cell? ⟨g2, 0, none⟩ = some (.int .u32 (z k)) := (lastOf_at (RA 0).model hlm).trans (by rw [lastOf_snoc]); have c14 := fun M => cstore_last (RA M).store (by rw [hlm]; omega); rw [lastOf_snoc] at c14; have c30 := fun M => cstore_lastPC (RA M).store (by rw [hlm]; omega); rw [hlm] at c30; have RAH := Lib.hid RA; have HLM := Lib.hid hlm; clear RA hlm hmo hst4)
                | (go_at_call 14; refine (c14 0).mono ?_; rintro e w6 ⟨rfl, m6, rfl⟩)
                | (go_at_call 30; refine (c30 _).mono ?_; rintro e w7 ⟨rfl, rfl⟩))
              go_roundw
              case rel => exact ⟨k + 1, by omega, by go_num, _, _, _, _, _, _, rfl, RAH.out _⟩
              case measure => simp [intOf]; omega
            | 1, hLk, R' =>
              have hcm := (or_cap R'.out.model).1
              clear hi0 hz0 hz1 hz2
              go_wp2_with (first
                | (go_at_call 27; refine (cs_pop R'.out.store (by rw [R'.out.len]; omega) (by rw [R'.out.len]; omega)).mono ?_; rintro e w5 ⟨rfl, hst5, hfr5⟩; have RP := rel8_pop R'.out hst5 hfr5; have hl5 : ml.dropLast.length = 0 := (RP 0).len; have he5 : lastOf ml.dropLast = 4294967295 := (by rw [List.eq_nil_of_length_eq_zero hl5]; rfl); have c14 := fun M => cstore_last (RP M).store (by rw [hl5]; omega); rw [he5] at c14; have c30 := fun M => cstore_lastPC (RP M).store (by rw [hl5]; omega); rw [hl5] at c30; simp only [Int.natCast_zero, Int.zero_sub] at c30; have RAH := Lib.hid RP; clear RP hl5 he5 hst5)
                | (go_at_call 14; refine (c14 0).mono ?_; rintro e w6 ⟨rfl, m6, rfl⟩)
                | (go_at_call 30; refine (c30 _).mono ?_; rintro e w7 ⟨rfl, rfl⟩))
              go_roundw
              case rel => exact ⟨k + 1, by omega, by go_num, _, _, _, _, _, _, rfl, RAH.out _⟩
              case measure => simp [intOf]; omega
            | L2 + 2, hLk, R' =>
              have hcm := (or_cap R'.out.model).1
              clear hi0 hz0 hz1 hz2
              go_wp2_with (first
                | (go_at_call 27; refine (cs_pop R'.out.store (by rw [R'.out.len]; omega) (by rw [R'.out.len]; omega)).mono ?_; rintro e w5 ⟨rfl, hst5, hfr5⟩; have RP := rel8_pop R'.out hst5 hfr5; have hl5 : ml.dropLast.length = L2 + 1 := (RP 0).len; have d1 : w5.cell? ⟨gm, L2, none⟩ = some (.int .u32 (lastOf ml.dropLast)) := lastOf_at (RP 0).model hl5; have c14 := fun M => cstore_last (RP M).store (by rw [hl5]; omega); have c30 := fun M => cstore_lastPC (RP M).store (by rw [hl5]; omega); rw [hl5] at c30; have RAH := Lib.hid RP; clear RP hl5 hst5)
                | (go_at_call 14; refine (c14 0).mono ?_; rintro e w6 ⟨rfl, m6, rfl⟩)
                | (go_at_call 30; refine (c30 _).mono ?_; rintro e w7 ⟨rfl, rfl⟩))
              go_roundw
              case rel => exact ⟨k + 1, by omega, by go_num, _, _, _, _, _, _, rfl, RAH.out _⟩
              case measure => simp [intOf]; omega
          · have hb' : ((z k).tmod 4 == 0) = false := by simpa using hb
            clear hb
            match L, hLk, R' with
            | 0, hLk, R' =>
              go_wp2_with (first
                | (go_at_call 15; refine (cs_add R'.out.store (by omega) _ _).mono ?_; rintro e w4 ⟨rfl, hst4, hfr4⟩; have hmo := Fr.own hfr4 R'.out.model (fun k hk hx => by (simp [Value.ownBlock] at hk; subst hk; exact R'.out.nog hx)); have hgz4 : gm < w4.heap.size := Nat.lt_of_lt_of_le R'.out.gz hfr4.size)
                | (at_builtin; refine wpList_append_lies _ rfl (.tmp 51) (.tmp 53) 22 rfl 0 27 i0 (.int .u32 0) 1 4 Try.underlying22 hi0 hz0 hz1 hz2 rfl (by decide) _ _ (u32s ml) rfl (World.ownsRow.alloc hmo _) ⟨w4.heap.size, 0, none⟩ 1 1 [.int .u32 (z k)] rfl rfl (news_new _ _ _ _ rfl) (by intro u hu; simp at hu; subst hu; rfl) (by omega) (by unfold maxLen; omega) (by omega) (Nat.zero_le _) _ rfl ?_; intro g2 cap2 w5 hown5 hgr5 hat5 hlt5; simp only [Nat.zero_add] at hown5; have RA := rel8_add R'.out hst4 hfr4 hown5 hgr5 hat5 hlt5; have hlm : (ml ++ [z k]).length = 1 := (RA 0).len; have d1 : w5.cell? ⟨g2, 0, none⟩ = some (.int .u32 (z k)) := (lastOf_at (RA 0).model hlm).trans (by rw [lastOf_snoc]); have c14 := fun M => cstore_last (RA M).store (by rw [hlm]; omega); rw [lastOf_snoc] at c14; have c30 := fun M => cstore_lastPC (RA M).store (by rw [hlm]; omega); rw [hlm] at c30; have RAH := Lib.hid RA; have HLM := Lib.hid hlm; clear RA hlm hmo hst4)
                | (go_at_call 14; refine (c14 0).mono ?_; rintro e w6 ⟨rfl, m6, rfl⟩)
                | (go_at_call 30; refine (c30 _).mono ?_; rintro e w7 ⟨rfl, rfl⟩))
              go_roundw
              case rel => exact ⟨k + 1, by omega, by go_num, _, _, _, _, _, _, rfl, RAH.out _⟩
              case measure => simp [intOf]; omega
            | L1 + 1, hLk, R' =>
              go_wp2_with (first
                | (go_at_call 15; refine (cs_add R'.out.store (by omega) _ _).mono ?_; rintro e w4 ⟨rfl, hst4, hfr4⟩; have hmo := Fr.own hfr4 R'.out.model (fun k hk hx => by (simp [Value.ownBlock] at hk; subst hk; exact R'.out.nog hx)); have hgz4 : gm < w4.heap.size := Nat.lt_of_lt_of_le R'.out.gz hfr4.size)
                | (at_builtin; refine wpList_append_lies _ rfl (.tmp 51) (.tmp 53) 22 rfl 0 27 i0 (.int .u32 0) 1 4 Try.underlying22 hi0 hz0 hz1 hz2 rfl (by decide) _ _ (u32s ml) rfl (World.ownsRow.alloc hmo _) ⟨w4.heap.size, 0, none⟩ 1 1 [.int .u32 (z k)] rfl rfl (news_new _ _ _ _ rfl) (by intro u hu; simp at hu; subst hu; rfl) (by omega) (by unfold maxLen; omega) (by omega) (Nat.zero_le _) _ rfl ?_; intro g2 cap2 w5 hown5 hgr5 hat5 hlt5;  have RA := rel8_add R'.out hst4 hfr4 hown5 hgr5 hat5 hlt5; have hlm : (ml ++ [z k]).length = (L1 + 1) + 1 := (RA 0).len; have d1 : w5.cell? ⟨g2, (L1 + 1), none⟩ = some (.int .u32 (z k)) := (lastOf_at (RA 0).model hlm).trans (by rw [lastOf_snoc]); have c14 := fun M => cstore_last (RA M).store (by rw [hlm]; omega); rw [lastOf_snoc] at c14; have c30 := fun M => cstore_lastPC (RA M).store (by rw [hlm]; omega); rw [hlm] at c30; have RAH := Lib.hid RA; have HLM := Lib.hid hlm; clear RA hlm hmo hst4)
                | (go_at_call 14; refine (c14 0).mono ?_; rintro e w6 ⟨rfl, m6, rfl⟩)
                | (go_at_call 30; refine (c30 _).mono ?_; rintro e w7 ⟨rfl, rfl⟩))
              go_roundw
              case rel => exact ⟨k + 1, by omega, by go_num, _, _, _, _, _, _, rfl, RAH.out _⟩
              case measure => simp [intOf]; omega
        · have hkn' : k = n := by omega
          subst hkn'
          obtain ⟨gc, cc, gl, cl, xs, ys, hCS, hN⟩ := R.store
          have hLk : L ≤ 131072 := by have := R.le; omega
          have hl := R.len
          have c28 := cs_list hCS
          rw [hl] at c28
          have cx : ∀ i, i < L → wr.cell? ⟨gc, i, none⟩ = some (.int .u32 (ml.getD i 0)) := fun i hi => hCS.code_at (by rw [hl]; exact hi)
          have cm1 : ∀ i, i < L → wr.cell? ⟨gm, i, none⟩ = some (.int .u32 (ml.getD i 0)) := fun i hi => by
            rw [World.ownsRow.cellAt R.model i (by omega), u32s, List.getElem?_map, List.getElem?_eq_getElem (by omega)]
            simp [List.getD, List.getElem?_eq_getElem (show i < ml.length by omega)]
          have CX := Lib.hid cx
          have CM := Lib.hid cm1
          have FB := Lib.hid R.bel
          clear cx cm1 hl R hCS hN
          go_wp2_with (go_at_call 28; refine c28.mono ?_; rintro e w9 ⟨rfl, m9, rfl⟩)
          obtain ⟨wz, rfl⟩ : ∃ wz : World, wz = wr := ⟨_, rfl⟩
          go_loopw [9] (fun i wq => ∃ j : Nat, j ≤ L ∧ i = .int .i64 j ∧ ∃ M, wq = wz.drewN M) (fun i _ => L - (intOf i).toNat)
          case atStart => exact ⟨0, by omega, rfl, _, rfl⟩
          case round =>
            obtain ⟨i, hi, rfl, M, rfl⟩ := hrel
            by_cases him : i < L
            · have d1 := CX.out i him
              have d2 := CM.out i him
              obtain ⟨v, hv⟩ : ∃ v, ml.getD i 0 = v := ⟨_, rfl⟩
              rw [hv] at d1 d2
              clear hv
              go_wp2
              go_quiet (fail)
              go_wp2
              go_roundw
              case rel => exact ⟨i + 1, by omega, by go_num, _, rfl⟩
              case measure => simp [intOf]; omega
            · go_wp2
              go_ret
              exact ⟨rfl, below_drewN FB.out _⟩
end Go.Proofs.Ytphbmhffkemkkaa
