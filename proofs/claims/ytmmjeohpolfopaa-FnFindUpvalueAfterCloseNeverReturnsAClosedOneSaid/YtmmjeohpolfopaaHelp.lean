/- The helpers of the laws: clones, bounds, the register's size, a fresh state, a script of lookups, the sorted distinct list, the comparison with the cache. -/
import Derived.Test.YtmmjeohpolfopaaUv
namespace Go.Proofs.Ytmmjeohpolfopaa
open Go.RowKit Go.ChangeShapes Go.Deep
theorem clone_ints_info : (Try.prog.info? 3).map (fun i => (i.zero, i.size, i.bytes)) = some (some (.int .i64 0), 1, 8) := by kernel_rfl
set_option maxHeartbeats 400000 in
theorem clone_ints (A : Option Addr) (n c : Nat) (z : Nat → Int) (w : World) (ha : Arr w A n c (fun i => .int .i64 (z i))) (hn : n ≤ 1048576) :
    Calls Try.prog 9 #[.slice A n c] w fun e w' => ∃ A', e = .returned (.slice A' n n) ∧ Own w' w.heap.size 3 A' n (fun i => .int .i64 (z i)) ∧ Below w.heap.size w w' := by
  have hnil := fun w => Lib.run_eql_slice_nil (P := Try.prog) w 22 3 A n c 0 0 Try.underlying22
  rcases ha.some_ with ⟨rfl, rfl, rfl⟩ | ⟨x, rfl⟩
  · go_enter Try.func9, Try.ntmps9
    go_wp2
    go_ret
    exact ⟨none, rfl, .inl ⟨rfl, rfl⟩, Below.refl _ _⟩
  · have hmk := run_make_row' (P := Try.prog) 22 3 (.int .i64 0) 8 Try.underlying22 clone_ints_info rfl .i64 .i64 n (by omega) (by omega)
    go_enter Try.func9, Try.ntmps9
    go_wp2
    go_loopw [4] (fun i wr => ∃ k : Nat, k ≤ n ∧ i = .int .i64 k ∧ wr.rowIs w.heap.size 3 n (fun j => .int .i64 (if j < k then z j else 0)) ∧ Below w.heap.size w wr) (fun i _ => n - (intOf i).toNat)
    case atStart => exact ⟨0, Nat.zero_le _, rfl, World.rowIs_made w _ n 3, by go_grown⟩
    case round =>
      obtain ⟨k, hk, rfl, hrow, hb⟩ := hrel
      by_cases hkn : k < n
      · obtain ⟨b, off, hx, hlt, hc⟩ := ha.at_ hkn
        injection hx with hx
        subst hx
        have c1 : wr.cell? ⟨b, off + k, none⟩ = some (.int .i64 (z k)) := (hb.cell (p := ⟨b, off + k, none⟩) hlt).trans hc
        have c2 := hrow.cell hkn
        simp only [Nat.lt_irrefl, if_false] at c2
        have c3 := hrow.frozen k
        have hrow' := (hrow.set k (.int .i64 (z k))).congr (g := fun j => .int .i64 (if j < k + 1 then z j else 0)) (fun i hi => by
          by_cases h1 : i = k
          · subst h1; simp
          · by_cases h2 : i < k
            · simp [h1, h2, show i < k + 1 by omega]
            · simp [h1, h2, show ¬ i < k + 1 by omega])
        have hb' := hb.setCell (p := ⟨w.heap.size, k, none⟩) (Nat.le_refl _) (.int .i64 (z k))
        have H1 := Lib.hid hrow'
        have H2 := Lib.hid hb'
        clear hrow' hb' hrow hb hc ha hnil hmk
        go_wp2
        go_roundw
        case rel => exact ⟨k + 1, by omega, by go_num, H1.out, H2.out⟩
        case measure => simp [intOf]; omega
      · have hkn' : k = n := by omega
        subst hkn'
        clear hnil hmk
        go_wp2
        go_ret
        exact ⟨_, rfl, .inr ⟨_, rfl, Nat.le_refl _, hrow.congr (fun i hi => by simp [hi])⟩, hb⟩

theorem bytes3 (A0 : Option Addr) (n0 c0 : Nat) (z0 : Nat → Int) (w : World) (h0 : Arr w A0 n0 c0 (fun i => .int .i64 (z0 i))) :
    Calls Try.prog 7 #[.slice A0 n0 c0] w (SomeB (n0 ≤ 1048576) w) := by
  have m0 := h0.len
  unfold maxLen at m0
  by_cases b0 : 1048576 < n0
  · go_enter Try.func7, Try.ntmps7
    go_wp2
    go_ret
    exact ⟨false, rfl, rfl, fun h => by cases h⟩
  · have e0 : n0 ≤ 1048576 := by omega
    go_enter Try.func7, Try.ntmps7
    go_wp2
    go_ret
    exact ⟨true, rfl, rfl, fun _ => by first | trivial | omega⟩

theorem bytes4 (A0 : Option Addr) (n0 c0 : Nat) (z0 : Nat → Int) (a1 : Int) (w : World) (h0 : Arr w A0 n0 c0 (fun i => .int .i64 (z0 i))) :
    Calls Try.prog 16 #[.slice A0 n0 c0, .int .i64 a1] w (SomeB (n0 ≤ 1048576) w) := by
  have m0 := h0.len
  unfold maxLen at m0
  by_cases b0 : 1048576 < n0
  · go_enter Try.func16, Try.ntmps16
    go_wp2
    go_ret
    exact ⟨false, rfl, rfl, fun h => by cases h⟩
  · have e0 : n0 ≤ 1048576 := by omega
    go_enter Try.func16, Try.ntmps16
    go_wp2
    go_ret
    exact ⟨true, rfl, rfl, fun _ => by first | trivial | omega⟩

theorem bytes5 (A0 : Option Addr) (n0 c0 : Nat) (z0 : Nat → Int) (a1 : Int) (a2 : Int) (w : World) (h0 : Arr w A0 n0 c0 (fun i => .int .i64 (z0 i))) :
    Calls Try.prog 18 #[.slice A0 n0 c0, .int .i64 a1, .int .i64 a2] w (SomeB (n0 ≤ 1048576) w) := by
  have m0 := h0.len
  unfold maxLen at m0
  by_cases b0 : 1048576 < n0
  · go_enter Try.func18, Try.ntmps18
    go_wp2
    go_ret
    exact ⟨false, rfl, rfl, fun h => by cases h⟩
  · have e0 : n0 ≤ 1048576 := by omega
    go_enter Try.func18, Try.ntmps18
    go_wp2
    go_ret
    exact ⟨true, rfl, rfl, fun _ => by first | trivial | omega⟩

theorem bytes6 (A0 : Option Addr) (n0 c0 : Nat) (z0 : Nat → Int) (a1 : Int) (a2 : Int) (w : World) (h0 : Arr w A0 n0 c0 (fun i => .int .i64 (z0 i))) :
    Calls Try.prog 19 #[.slice A0 n0 c0, .int .i64 a1, .int .i64 a2] w (SomeB (n0 ≤ 1048576) w) := by
  have m0 := h0.len
  unfold maxLen at m0
  by_cases b0 : 1048576 < n0
  · go_enter Try.func19, Try.ntmps19
    go_wp2
    go_ret
    exact ⟨false, rfl, rfl, fun h => by cases h⟩
  · have e0 : n0 ≤ 1048576 := by omega
    go_enter Try.func19, Try.ntmps19
    go_wp2
    go_ret
    exact ⟨true, rfl, rfl, fun _ => by first | trivial | omega⟩

def zl (z : Nat → Int) (n : Nat) : List Int := (List.range n).map z
theorem zl_succ (z : Nat → Int) (n : Nat) : zl z (n + 1) = zl z n ++ [z n] := by simp [zl, List.range_succ]
theorem zl_len (z : Nat → Int) (n : Nat) : (zl z n).length = n := by simp [zl]
theorem zl_mem {z : Nat → Int} {n : Nat} {x : Int} : x ∈ zl z n ↔ ∃ i, i < n ∧ z i = x := by simp [zl]
/-- The distinct numbers below a mark, ascending. -/
def sd (m : Int) (l : List Int) : List Int := insAll [] (under m l)
theorem sd_asc (m : Int) (l : List Int) : Asc (sd m l) := asc_insAll (by simp [Asc])
theorem sd_skip {m v : Int} {l : List Int} (h : m ≤ v) : sd m (l ++ [v]) = sd m l := by
  have : ¬ v < m := by omega
  simp [sd, under, this]
theorem sd_add {m v : Int} {l : List Int} (h : v < m) : sd m (l ++ [v]) = ins v (sd m l) := by
  unfold sd
  have e : under m (l ++ [v]) = under m l ++ [v] := by simp [under, h]
  rw [e, insAll_snoc]
theorem ins_len (v : Int) (l : List Int) : (ins v l).length ≤ l.length + 1 := by
  induction l with
  | nil => simp [ins]
  | cons y l ih =>
    unfold ins
    split
    · simp; omega
    · split <;> simp
theorem insAll_len (l xs : List Int) : (insAll l xs).length ≤ l.length + xs.length := by
  induction xs generalizing l with
  | nil => simp [insAll]
  | cons x xs ih =>
    have e : insAll l (x :: xs) = insAll (ins x l) xs := rfl
    have := ih (ins x l)
    have := ins_len x l
    rw [e]
    simp
    omega
theorem sd_len (m : Int) (l : List Int) : (sd m l).length ≤ l.length := by
  have h1 := insAll_len [] (under m l)
  have h2 : (under m l).length ≤ l.length := List.length_filter_le _ _
  unfold sd
  simp at h1
  omega
abbrev vals (l : List Int) : List Value := l.map (Value.int .i64)
/-! ### The shift -/
def shf (l : List Int) (v : Int) (t : Nat) : List Int := (l ++ [v]).take (t + 1) ++ l.drop t
theorem shf_top (l : List Int) (v : Int) : shf l v l.length = l ++ [v] := by
  simp only [shf, List.drop_length, List.append_nil]
  exact List.take_of_length_le (by simp)
theorem shf_at {l : List Int} {v : Int} {t j : Nat} (hj : j ≤ t) (hl : j < l.length) : (shf l v t)[j]? = l[j]? := by
  unfold shf
  rw [List.getElem?_append_left (by simp; omega), List.getElem?_take, if_pos (by omega), List.getElem?_append_left hl]
theorem shf_step {l : List Int} {v x : Int} {t : Nat} (ht : 0 < t) (hl : t ≤ l.length) (hx : l[t - 1]? = some x) : (shf l v t).set t x = shf l v (t - 1) := by
  apply List.ext_getElem?
  intro j
  rw [List.getElem?_set]
  unfold shf
  have l1 : ((l ++ [v]).take (t + 1)).length = t + 1 := by simp; omega
  have l2 : ((l ++ [v]).take (t - 1 + 1)).length = t := by simp; omega
  by_cases h1 : t = j
  · subst h1
    rw [if_pos rfl, if_pos (by simp; omega), List.getElem?_append_right (by omega), l2, List.getElem?_drop]
    rw [show t - 1 + (t - t) = t - 1 by omega, hx]
  · rw [if_neg h1]
    by_cases h2 : j < t
    · rw [List.getElem?_append_left (by omega), List.getElem?_append_left (by omega), List.getElem?_take, List.getElem?_take, if_pos (by omega), if_pos (by omega)]
    · rw [List.getElem?_append_right (by omega), List.getElem?_append_right (by omega), l1, l2, List.getElem?_drop, List.getElem?_drop]
      congr 1
      omega
theorem shf_end {l : List Int} {v : Int} {q : Nat} (hq : q ≤ l.length) : (shf l v q).set q v = l.take q ++ v :: l.drop q := by
  unfold shf
  have e : (l ++ [v]).take (q + 1) = l.take q ++ ((l ++ [v])[q]?).toList := by
    rw [List.take_add_one, List.take_append_of_le_length hq]
  obtain ⟨x, hx⟩ : ∃ x, (l ++ [v])[q]? = some x := ⟨_, List.getElem?_eq_getElem (by simp; omega)⟩
  rw [e, hx]
  have hl : (l.take q).length = q := by simp; omega
  rw [List.append_assoc, List.set_append_right _ _ (by omega), hl]
  simp
theorem lead_at {v x : Int} {l : List Int} {j : Nat} (hj : j < lead v l) (hx : l[j]? = some x) : x < v := by
  induction l generalizing j with
  | nil => simp at hx
  | cons y l ih =>
    by_cases hy : y < v
    · cases j with
      | zero => simp at hx; omega
      | succ j =>
        refine ih (j := j) ?_ (by simpa using hx)
        simpa [lead, hy] using hj
    · simp [lead, hy] at hj
theorem lead_stop {v x : Int} {l : List Int} (hx : l[lead v l]? = some x) : ¬ x < v := by
  intro h
  unfold lead at hx
  induction l with
  | nil => simp at hx
  | cons y l ih =>
    by_cases hy : y < v
    · simp [hy] at hx
      exact ih hx
    · simp [hy] at hx
      omega
theorem info3 : (Try.prog.info? 3).map (fun i => (i.zero, i.size, i.bytes)) = some (some (.int .i64 0), 1, 8) := by kernel_rfl
def Sorted (w : World) (l : List Int) (e : Ending) (w' : World) : Prop := ∃ g cap, e = .returned (.slice (some ⟨g, 0, none⟩) l.length cap) ∧ OR w' 3 g l.length cap (vals l) ∧ w.heap.size ≤ g ∧ Below w.heap.size w w'
set_option maxHeartbeats 2000000 in
set_option maxRecDepth 100000 in
theorem sorted_ok (A : Option Addr) (n c : Nat) (z : Nat → Int) (m : Int) (w : World) (ha : Arr w A n c (fun i => .int .i64 (z i))) (hn : n ≤ 65536) :
    Calls Try.prog 11 #[.slice A n c, .int .i64 m] w (Sorted w (sd m (zl z n))) := by
  obtain ⟨C, hC, hmk⟩ := or_make (P := Try.prog) 22 3 (.int .i64 0) 8 Try.underlying22 info3 rfl n (by omega) (by omega)
  obtain ⟨i0, hi0, hz0, hz1, hz2⟩ := or_parts info3
  have HA := Lib.hid ha
  have HC := Lib.hid hC
  clear ha hC
  go_enter Try.func11, Try.ntmps11
  go_wp2
  have HMK := Lib.hid hmk
  clear hmk
  go_loopw [5, 6] (fun v5 v6 wr => ∃ (k g cap : Nat) (l : List Int), k ≤ n ∧ v6 = .int .i64 k ∧ v5 = .slice (some ⟨g, 0, none⟩) l.length cap ∧ Hid (l = sd m (zl z k) ∧ OR wr 3 g l.length cap (vals l) ∧ w.heap.size ≤ g ∧ Below w.heap.size w wr)) (fun _ v6 _ => n - (intOf v6).toNat)
  case atStart =>
    refine ⟨0, w.heap.size, n, [], Nat.zero_le _, rfl, rfl, Lib.hid ⟨rfl, ⟨rfl, .inr ⟨_, n, C, rfl, Nat.zero_le _, blk_alloc_new _ _, Nat.zero_le _, by unfold maxLen; omega, by rw [HC.out]; omega, rfl⟩⟩, Nat.le_refl _, by go_grown⟩⟩
  case round =>
    obtain ⟨k, g, cap, l, hk, rfl, rfl, hh⟩ := hrel
    have HH := Lib.hid hh.out
    clear hh
    by_cases hkn : k < n
    · obtain ⟨b, off, hx, hlt, hc⟩ := (HA.out.below HH.out.2.2.2).at_ hkn
      subst hx
      obtain ⟨v, hv⟩ : ∃ v, z k = v := ⟨_, rfl⟩
      rw [hv] at hc
      have HV := Lib.hid hv
      have hL : l.length ≤ k := by
        have := sd_len m (zl z k)
        rw [← HH.out.1, zl_len] at this
        exact this
      clear hv
      by_cases hvm : m ≤ v
      · have H1 : Hid (l = sd m (zl z (k + 1))) := Lib.hid (by rw [zl_succ, HV.out, sd_skip hvm, HH.out.1])
        go_wp2
        go_roundw
        case rel => exact ⟨k + 1, g, cap, l, by omega, by go_num, rfl, Lib.hid ⟨H1.out, HH.out.2⟩⟩
        case measure => simp [intOf]; omega
      · have H1 : Hid (sd m (zl z (k + 1)) = ins v l) := Lib.hid (by rw [zl_succ, HV.out, sd_add (by omega), HH.out.1])
        obtain ⟨q, hq⟩ : ∃ q, lead v l = q := ⟨_, rfl⟩
        have hql : q ≤ l.length := hq ▸ lead_le v l
        have HQ := Lib.hid hq
        clear hq
        have hcell : Hid (∀ (j : Nat) x, l[j]? = some x → wr.cell? ⟨g, j, none⟩ = some (.int .i64 x)) := Lib.hid (fun j x hj => HH.out.2.1.at_ (List.getElem?_eq_some_iff.1 hj).1 (by simp [hj]))
        obtain ⟨L, hLe⟩ : ∃ L, l.length = L := ⟨_, rfl⟩
        have HL := Lib.hid hLe
        rw [hLe] at hL hql ⊢
        clear hLe
        obtain ⟨wo, hwo⟩ : ∃ wo : World, wo = wr := ⟨_, rfl⟩
        subst hwo
        go_wp2
        go_loop [8] (fun v8 => ∃ p : Nat, p ≤ q ∧ v8 = .int .i64 p) (fun v8 => q - (intOf v8).toNat)
        case atStart => exact ⟨0, Nat.zero_le _, rfl⟩
        case round =>
          obtain ⟨p, hp, rfl⟩ := hrel
          by_cases hpq : p < q
          · obtain ⟨x, hx⟩ : ∃ x, l[p]? = some x := ⟨_, List.getElem?_eq_getElem (by rw [HL.out]; omega)⟩
            have cx := hcell.out p x hx
            have lx := lead_at (by rw [HQ.out]; exact hpq) hx
            have hpL : p < L := by omega
            clear hx hc
            go_wp2
            go_round
            case rel => exact ⟨p + 1, by omega, by go_num⟩
            case measure => simp [intOf]; omega
          · obtain rfl : p = q := by omega
            have hown := HH.out.2.1
            rw [HL.out] at hown
            have HOW := Lib.hid hown
            clear hown
            by_cases hf : l[p]? = some v
            · have cx := hcell.out p v hf
              have H2 : Hid (l = sd m (zl z (k + 1))) := Lib.hid (by rw [H1.out, ins_lead, HQ.out, if_pos hf])
              have hpL : p < L := by have := (List.getElem?_eq_some_iff.1 hf).1; rw [HL.out] at this; exact this
              have ev : (v == v) = true := by simp
              clear hf hc
              go_wp2
              go_roundw
              case rel => exact ⟨k + 1, g, cap, l, by omega, by go_num, by rw [HL.out], Lib.hid ⟨H2.out, HH.out.2⟩⟩
              case measure => simp [intOf]; omega
            · have H2 : Hid (l.take p ++ v :: l.drop p = sd m (zl z (k + 1))) := Lib.hid (by rw [H1.out, ins_lead, HQ.out, if_neg hf])
              have hlen : Hid ((l.take p ++ v :: l.drop p).length = L + 1) := Lib.hid (by
                have := HL.out
                simp; omega)
              rcases hx : l[p]? with _ | x
              case' none =>
                have hpL : ¬ p < L := by rw [List.getElem?_eq_none_iff] at hx; rw [← HL.out]; omega
                have hown := HOW.out
              case' some =>
                have cx := hcell.out p x hx
                have hpL : p < L := by have := (List.getElem?_eq_some_iff.1 hx).1; rw [HL.out] at this; exact this
                have lx : ¬ x < v := lead_stop (by rw [HQ.out]; exact hx)
                have ex : (x == v) = false := beq_eq_false_iff_ne.2 (fun e => hf (by rw [hx, e]))
                have hown := HOW.out
              all_goals
                have hwl : w.heap.size ≤ wo.heap.size := HH.out.2.2.2.size
                have hg := HH.out.2.2.1
                clear hx hf hc
                go_wp2_with (at_builtin; refine wpList_append_lies _ rfl (.tmp 52) (.tmp 54) 22 rfl 0 3 i0 (.int .i64 0) 1 8 Try.underlying22 hi0 hz0 hz1 hz2 rfl (by decide) _ _ _ rfl (World.ownsRow.alloc hown _) ⟨wo.heap.size, 0, none⟩ 1 1 [.int .i64 v] rfl rfl (or_news _ _ _ _ rfl) (by intro u hu; simp at hu; subst hu; rfl) (by omega) (by unfold maxLen; omega) (by omega) (Nat.zero_le _) _ rfl ?_; intro g4 c4 w5 hown4 hgr4 hat4 hlt4)
                have hg4 : w.heap.size ≤ g4 := by
                  rcases hat4 with h | h
                  · have : g = g4 := Option.some.inj h
                    omega
                  · simp at h; omega
                have S4 : Hid (OR w5 3 g4 (L + 1) c4 (vals (shf l v L)) ∧ Below w.heap.size w w5) := Lib.hid (by
                  have e : shf l v L = l ++ [v] := by rw [← HL.out]; exact shf_top l v
                  rw [e]
                  exact ⟨by simpa [vals] using hown4, below_app HH.out.2.2.2 hwl hgr4 hg⟩)
                clear hown4 hgr4 hat4 hown
                go_loopw [9] (fun v9 wr => ∃ t : Nat, p ≤ t ∧ t ≤ L ∧ v9 = .int .i64 t ∧ Hid (OR wr 3 g4 (L + 1) c4 (vals (shf l v t)) ∧ Below w.heap.size w wr)) (fun v9 _ => (intOf v9).toNat)
                case atStart => exact ⟨L, by omega, Nat.le_refl _, by first | rfl | go_num, S4⟩
                case round =>
                  obtain ⟨t, htp, htL, rfl, h5⟩ := hrel
                  have H5 := Lib.hid h5.out
                  clear h5
                  obtain ⟨y, hy⟩ : ∃ y, (shf l v t)[t]? = some y := ⟨_, List.getElem?_eq_getElem (by have := HL.out; simp [shf]; omega)⟩
                  have ct := H5.out.1.at_ (i := t) (v := .int .i64 y) (by omega) (by simp only [vals, List.getElem?_map, hy]; rfl)
                  have ft := World.ownsRow.frozenAt H5.out.1 t
                  have lt5 := H5.out.1.lt'
                  clear hy
                  by_cases htq : p < t
                  · try (exfalso; omega)
                    all_goals
                      obtain ⟨x', hx'⟩ : ∃ x', l[t - 1]? = some x' := ⟨_, List.getElem?_eq_getElem (by rw [HL.out]; omega)⟩
                      have cx' := H5.out.1.at_ (i := t - 1) (v := .int .i64 x') (by omega) (by simp only [vals, List.getElem?_map]; rw [shf_at (by omega) (by rw [HL.out]; omega), hx']; rfl)
                      obtain ⟨r, hr⟩ : ∃ r : Int, (t : Int) = r := ⟨_, rfl⟩
                      have HR := Lib.hid hr
                      have a0 : 0 ≤ r := by omega
                      have a1 : r < L + 1 := by omega
                      have a2 : r.toNat = t := by omega
                      have b0 : 0 ≤ r - 1 := by omega
                      have b1 : r - 1 < L + 1 := by omega
                      have b2 : (r - 1).toNat = t - 1 := by omega
                      have b3 : (p : Int) < r := by omega
                      rw [hr]
                      clear hr
                      have S5 : Hid (OR (wr.setCell ⟨g4, t, none⟩ (.int .i64 x')) 3 g4 (L + 1) c4 (vals (shf l v (t - 1))) ∧ Below w.heap.size w (wr.setCell ⟨g4, t, none⟩ (.int .i64 x'))) := Lib.hid (by
                        have h6 := (World.ownsRow.stored H5.out.1 t (.int .i64 x')).1
                        rw [← List.map_set, shf_step (by omega) (by rw [HL.out]; omega) hx'] at h6
                        exact ⟨h6, H5.out.2.setCell (p := ⟨g4, t, none⟩) hg4 _⟩)
                      clear hx'
                      go_wp2
                      go_roundw
                      case rel => exact ⟨t - 1, by omega, by omega, by have := HR.out; congr 1; omega, S5⟩
                      case measure => have := HR.out; simp [intOf]; omega
                  · obtain rfl : t = p := by omega
                    have S6 : Hid (OR (wr.setCell ⟨g4, t, none⟩ (.int .i64 v)) 3 g4 (L + 1) c4 (vals (l.take t ++ v :: l.drop t)) ∧ Below w.heap.size w (wr.setCell ⟨g4, t, none⟩ (.int .i64 v))) := Lib.hid (by
                      have h6 := (World.ownsRow.stored H5.out.1 t (.int .i64 v)).1
                      rw [← List.map_set, shf_end (by rw [HL.out]; omega)] at h6
                      exact ⟨h6, H5.out.2.setCell (p := ⟨g4, t, none⟩) hg4 _⟩)
                    go_wp2
                    go_roundw
                    case rel => exact ⟨k + 1, g4, c4, l.take t ++ v :: l.drop t, by omega, by go_num, by rw [hlen.out], Lib.hid ⟨H2.out, by rw [hlen.out]; exact S6.out.1, hg4, S6.out.2⟩⟩
                    case measure => simp [intOf]; omega
    · obtain rfl : k = n := by omega
      go_wp2
      go_ret
      obtain ⟨rfl, h2, h3, h4⟩ := HH.out
      exact ⟨g, cap, rfl, h2, h3, h4⟩
end Go.Proofs.Ytmmjeohpolfopaa
