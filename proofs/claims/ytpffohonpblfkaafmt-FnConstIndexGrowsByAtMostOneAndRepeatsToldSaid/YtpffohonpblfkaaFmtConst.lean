/- The table of constants: what ConstIndex answers and leaves. -/
import Derived.Test.YtpffohonpblfkaaFmtNew
namespace Go.Proofs.YtpffohonpblfkaaFmt
open Go.RowKit Go.ChangeShapes Go.Deep
inductive KV where
  | num (b : Nat)
  | str (s : ByteArray)
def kv : KV → Value
  | .num b => .iface 61 (.float .f64 b)
  | .str s => .iface 62 (.string s)
def eqk : KV → KV → Bool
  | .num a, .num b => Op.floatEq .f64 a b
  | .str s, .str t => s == t
  | _, _ => false
theorem ty96 (a : Nat) (w : World) : Calls Tryf.prog 96 #[.float .f64 a] w fun e w' => e = .returned (.int .i64 2) ∧ w = w' := by
  go_enter Tryf.func96, Tryf.ntmps96
  go_wp2
  go_ret
  exact ⟨rfl, rfl⟩
theorem ty101 (a : ByteArray) (w : World) : Calls Tryf.prog 101 #[.string a] w fun e w' => e = .returned (.int .i64 3) ∧ w = w' := by
  go_enter Tryf.func101, Tryf.ntmps101
  go_wp2
  go_ret
  exact ⟨rfl, rfl⟩
theorem eq61 (a b : Nat) (w : World) : (binOp .eql 77 (.iface 61 (.float .f64 a)) (.iface 61 (.float .f64 b))).run Tryf.prog w = .ok (.bool (Op.floatEq .f64 a b)) w := by kernel_rfl
theorem eq62 (a b : ByteArray) (w : World) : (binOp .eql 77 (.iface 62 (.string a)) (.iface 62 (.string b))).run Tryf.prog w = .ok (.bool (a == b)) w := by kernel_rfl
structure KX (w0 w : World) (f pr gc cc : Nat) (cs : List KV) : Prop where
  row : ∃ F, w.rowIs f 59 11 F ∧ F 0 = .pointer (some ⟨pr, 0, none⟩)
  prw : ∃ FP, w.rowIs pr 50 15 FP ∧ FP 8 = .slice (some ⟨gc, 0, none⟩) cs.length cc
  ow : OR w 77 gc cs.length cc (cs.map kv)
  bel : Below w0.heap.size w0 w
  lp : w0.heap.size ≤ pr
  lg : w0.heap.size ≤ gc
theorem kx_new {w w1 : World} {f : Nat} {q : Option Addr} (hc : Ctx0 w f w1) (hb : Below w.heap.size w w1) : ∃ pr gc cc, KX w ((w1.setCell ⟨f, 5, none⟩ (.slice (some ⟨w1.heap.size, 0, none⟩) 1 1)).alloc (.cells #[.pointer q] 54)) f pr gc cc [] := by
  obtain ⟨F, lf, f1, pr, co, b, p, h0, h1, h4, h6, h9, ⟨gd, gc, FP, lp, lgd, lgc, p1, p8, p11, oc, od⟩, _, _⟩ := hc
  have A : Fr (fun x => x = f) w1 ((w1.setCell ⟨f, 5, none⟩ (.slice (some ⟨w1.heap.size, 0, none⟩) 1 1)).alloc (.cells #[.pointer q] 54)) := (Fr.setCell (o := fun x => x = f) (Fr.refl _ w1) (p := ⟨f, 5, none⟩) (.inl rfl) _).alloc _
  exact ⟨pr, gc, 32, ⟨_, (f1.set 5 _).alloc _, by simpa using h0⟩, ⟨_, A.row p1 (row_ne p1 f1 (by decide)), p8⟩, OR.fr oc A (OR.ne oc f1 (by decide)), hb.trans (A.below hb.size (fun x hx => by subst hx; exact lf)), lp, lgc⟩
def KPost (w0 : World) (f : Nat) (cs : List KV) (w' : World) : Prop := ∃ pr gc cc, KX w0 w' f pr gc cc cs
def V32n (f pr gc n cc : Nat) (b : Nat) (xs : List Value) (w0 : World) (i : Nat) (v : Value) (w : World) : Prop := match i with
  | 0 => v = .pointer (some ⟨f, 0, none⟩)
  | 1 => v = .pointer (some ⟨f, 0, none⟩)
  | 2 => v = .pointer (some ⟨f, 0, none⟩)
  | 3 => v = .pointer (some ⟨pr, 0, none⟩)
  | 4 => v = .pointer (some ⟨f, 0, none⟩)
  | 5 => v = .pointer (some ⟨f, 0, none⟩)
  | 6 => v = .pointer (some ⟨f, 0, none⟩)
  | 7 => v = .pointer (some ⟨pr, 0, none⟩)
  | 8 => v = .pointer (some ⟨pr, 0, none⟩)
  | 9 => v = .pointer (some ⟨pr, 8, none⟩)
  | 10 => v = .slice (some ⟨gc, 0, none⟩) n cc
  | 11 => v = .iface 61 (.float .f64 b)
  | 12 => ∃ g, v = .slice (some ⟨g, 0, none⟩) 1 1 ∧ w0.heap.size ≤ g ∧ w.cell? ⟨g, 0, none⟩ = some (.iface 61 (.float .f64 b))
  | 13 => ∃ g cap, v = .slice (some ⟨g, 0, none⟩) (n + 1) cap ∧ OR w 77 g (n + 1) cap (xs ++ [.iface 61 (.float .f64 b)]) ∧ (g = gc ∨ w0.heap.size ≤ g)
  | 14 => v = .pointer (some ⟨pr, 0, none⟩)
  | 15 => v = .pointer (some ⟨pr, 8, none⟩)
  | _ => True
theorem V32n.stable {f pr gc n cc : Nat} {b : Nat} {xs : List Value} {w0 : World} (hgd : gc < w0.heap.size) : ∀ i j v w w', i ≠ j → V32n f pr gc n cc b xs w0 i v w → FrA 13 (fun x => x = gc) j w w' → V32n f pr gc n cc b xs w0 i v w' := by
  intro i j v w w' hij h hfr
  match i, h with
  | 0, h => exact h
  | 1, h => exact h
  | 2, h => exact h
  | 3, h => exact h
  | 4, h => exact h
  | 5, h => exact h
  | 6, h => exact h
  | 7, h => exact h
  | 8, h => exact h
  | 9, h => exact h
  | 10, h => exact h
  | 11, h => exact h
  | 12, h => exact by obtain ⟨g, h1, h3, h4⟩ := h; exact ⟨g, h1, h3, (hfr.fr.cell (p := ⟨g, 0, none⟩) (World.block_lt_of_cell? w _ h4) (show ¬ g = gc by omega)).trans h4⟩
  | 13, h => exact by obtain ⟨g, cap, h1, h2, h3⟩ := h; have hb : Below w.heap.size w w' := (by unfold FrA at hfr; rwa [if_neg (fun e => hij e.symm)] at hfr); exact ⟨g, cap, h1, OR.below h2 hb h2.lt', h3⟩
  | 14, h => exact h
  | 15, h => exact h
  | n + 16, h => exact h
set_option maxHeartbeats 4000000 in
set_option maxRecDepth 100000 in
theorem ci_hit_n {w0 w : World} {f pr gc cc : Nat} {cs : List KV} (h : KX w0 w f pr gc cc cs) (b : Nat) (hlen : cs.length ≤ 20000) {j : Nat} {c0 : KV} (hj : cs[j]? = some c0) (hjt : eqk c0 (.num b) = true) (hjf : ∀ (i : Nat) c, i < j → cs[i]? = some c → eqk c (.num b) = false) :
    Calls Tryf.prog 32 #[.pointer (some ⟨f, 0, none⟩), .iface 61 (.float .f64 b)] w fun e w' => e = .returned (.int .i64 j) ∧ w = w' := by
  obtain ⟨F, r1, r0⟩ := h.row
  obtain ⟨FP, p1, p8⟩ := h.prw
  have d2 := h.ow
  have k0 := r1.cell (i := 0) (by omega)
  have k8 := p1.cell (i := 8) (by omega)
  rw [r0] at k0
  rw [p8] at k8
  obtain ⟨n, hn⟩ : ∃ n, cs.length = n := ⟨_, rfl⟩
  rw [hn] at k8 d2 hlen
  have D2 := Lib.hid d2
  have H := Lib.hid h
  have HN := Lib.hid hn
  have HR := Lib.hid (And.intro r1 p1)
  have e61 := fun a b w => eq61 a b w
  have e62 := fun a b w => eq62 a b w
  have hjn : j < n := by rw [← hn]; exact (List.getElem?_eq_some_iff.1 hj).1
  have HJ := Lib.hid (And.intro hj (And.intro hjt hjf))
  clear h r1 r0 p1 p8 d2 hn hj hjt hjf
  go_enter Tryf.func32, Tryf.ntmps32
  go_wp2_with (first | (go_at_call 96; refine (ty96 _ _).mono ?_; rintro e w' ⟨rfl, rfl⟩) | (go_at_call 101; refine (ty101 _ _).mono ?_; rintro e w' ⟨rfl, rfl⟩))
  go_loopg [19] n (fun gk v19 wr => ∃ i : Nat, i + gk = n ∧ i ≤ j ∧ v19 = .int .i64 i ∧ wr = w)
  case atStart => exact ⟨0, by omega, Nat.zero_le _, by first | rfl | go_num, rfl⟩
  case round =>
    obtain ⟨i, hi, hij, rfl, rfl⟩ := hrel
    have hin : i < n := by omega
    obtain ⟨c, hc⟩ : ∃ c, cs[i]? = some c := ⟨_, List.getElem?_eq_getElem (by rw [HN.out]; exact hin)⟩
    have cv := D2.out.at_ (i := i) (v := kv c) hin (by simp [hc])
    by_cases hlt : i < j
    · have hf := HJ.out.2.2 i c hlt hc
      clear hc
      cases c with
      | num t =>
        simp only [kv] at cv
        simp only [eqk] at hf
        go_wp2_with (first | (go_at_call 96; refine (ty96 _ _).mono ?_; rintro e w' ⟨rfl, rfl⟩) | (go_at_call 101; refine (ty101 _ _).mono ?_; rintro e w' ⟨rfl, rfl⟩))
        go_roundg (n - (i + 1))
        case measure => omega
        case rel => exact ⟨i + 1, by omega, by omega, by go_num, rfl⟩
      | str t =>
        simp only [kv] at cv
        simp only [eqk] at hf
        go_wp2_with (first | (go_at_call 96; refine (ty96 _ _).mono ?_; rintro e w' ⟨rfl, rfl⟩) | (go_at_call 101; refine (ty101 _ _).mono ?_; rintro e w' ⟨rfl, rfl⟩))
        go_roundg (n - (i + 1))
        case measure => omega
        case rel => exact ⟨i + 1, by omega, by omega, by go_num, rfl⟩
    · obtain rfl : i = j := by omega
      have hf := HJ.out.2.1
      have e := HJ.out.1
      rw [hc] at e
      cases e
      clear hc
      cases c0 with
      | num t =>
        simp only [kv] at cv
        simp only [eqk] at hf
        go_wp2_with (first | (go_at_call 96; refine (ty96 _ _).mono ?_; rintro e w' ⟨rfl, rfl⟩) | (go_at_call 101; refine (ty101 _ _).mono ?_; rintro e w' ⟨rfl, rfl⟩))
        go_ret
        exact ⟨rfl, rfl⟩
      | str t =>
        simp only [kv] at cv
        simp only [eqk] at hf
        cases hf
set_option maxHeartbeats 4000000 in
set_option maxRecDepth 100000 in
theorem ci_miss_n {w0 w : World} {f pr gc cc : Nat} {cs : List KV} (h : KX w0 w f pr gc cc cs) (b : Nat) (hlen : cs.length ≤ 20000) (hno : ∀ (i : Nat) c, cs[i]? = some c → eqk c (.num b) = false) :
    Calls Tryf.prog 32 #[.pointer (some ⟨f, 0, none⟩), .iface 61 (.float .f64 b)] w fun e w' => e = .returned (.int .i64 cs.length) ∧ KPost w0 f (cs ++ [.num b]) w' := by
  obtain ⟨F, r1, r0⟩ := h.row
  obtain ⟨FP, p1, p8⟩ := h.prw
  have d2 := h.ow
  have k0 := r1.cell (i := 0) (by omega)
  have k8 := p1.cell (i := 8) (by omega)
  rw [r0] at k0
  rw [p8] at k8
  obtain ⟨n, hn⟩ : ∃ n, cs.length = n := ⟨_, rfl⟩
  rw [hn] at k8 d2 hlen
  have D2 := Lib.hid d2
  have H := Lib.hid h
  have HN := Lib.hid hn
  have HR := Lib.hid (And.intro r1 p1)
  have e61 := fun a b w => eq61 a b w
  have e62 := fun a b w => eq62 a b w
  have HNO := Lib.hid hno
  have ld := d2.lt'
  have n1 : ¬ f = gc := fun e => OR.ne d2 r1 (by decide) e.symm
  have n2 : ¬ pr = gc := fun e => OR.ne d2 p1 (by decide) e.symm
  have n4 : f ≠ pr := row_ne r1 p1 (by decide)
  obtain ⟨i0, hi0, hz0, hz1, hz2⟩ := or_parts info77
  rw [hn]
  clear h r1 r0 p1 p8 d2 hn hno
  go_enter Tryf.func32, Tryf.ntmps32
  go_wp2_with (first | (go_at_call 96; refine (ty96 _ _).mono ?_; rintro e w' ⟨rfl, rfl⟩) | (go_at_call 101; refine (ty101 _ _).mono ?_; rintro e w' ⟨rfl, rfl⟩))
  go_loopg [19] n (fun gk v19 wr => ∃ i : Nat, i + gk = n ∧ v19 = .int .i64 i ∧ wr = w)
  case atStart => exact ⟨0, by omega, by first | rfl | go_num, rfl⟩
  case round =>
    obtain ⟨i, hi, rfl, rfl⟩ := hrel
    by_cases hin : i < n
    · obtain ⟨c, hc⟩ : ∃ c, cs[i]? = some c := ⟨_, List.getElem?_eq_getElem (by rw [HN.out]; exact hin)⟩
      have cv := D2.out.at_ (i := i) (v := kv c) hin (by simp [hc])
      have hf := HNO.out i c hc
      clear hc
      cases c with
      | num t =>
        simp only [kv] at cv
        simp only [eqk] at hf
        go_wp2_with (first | (go_at_call 96; refine (ty96 _ _).mono ?_; rintro e w' ⟨rfl, rfl⟩) | (go_at_call 101; refine (ty101 _ _).mono ?_; rintro e w' ⟨rfl, rfl⟩))
        go_roundg (n - (i + 1))
        case measure => omega
        case rel => exact ⟨i + 1, by omega, by go_num, rfl⟩
      | str t =>
        simp only [kv] at cv
        simp only [eqk] at hf
        go_wp2_with (first | (go_at_call 96; refine (ty96 _ _).mono ?_; rintro e w' ⟨rfl, rfl⟩) | (go_at_call 101; refine (ty101 _ _).mono ?_; rintro e w' ⟨rfl, rfl⟩))
        go_roundg (n - (i + 1))
        case measure => omega
        case rel => exact ⟨i + 1, by omega, by go_num, rfl⟩
    · obtain rfl : i = n := by omega
      obtain ⟨w, hww⟩ : ∃ w : World, w = wr := ⟨_, rfl⟩
      subst hww
      have d2 := D2.out
      obtain ⟨xs, hxs⟩ : ∃ xs, cs.map kv = xs := ⟨_, rfl⟩
      rw [hxs] at d2
      obtain ⟨n, hnn⟩ : ∃ n, n = i := ⟨_, rfl⟩
      subst hnn
      clear e61 e62 hin hi
      go_wp2
      refine wp_region_tail (o := _) 16 (fun x => x = gc) 13 (V32n f pr gc n cc b xs w) (by kernel_rfl) rfl rfl (by kernel_rfl) (by kernel_rfl) rfl (by kernel_rfl) (V32n.stable ld) ?_ ?_
      · refine ⟨?_, ?_, ?_, ?_, ?_, ?_, ?_, ?_, ?_, ?_, ?_, ?_, ?_, ?_, ?_, ?_, trivial⟩
        · intro a w1 hm _ hd
          have h0 : a.tmps[0]?.getD undef = .pointer (some ⟨f, 0, none⟩) := hm.free' 0 (by decide)
          clear hm hd
          go_simp
          exact ⟨_, rfl, rfl, FrA.same _⟩
        · intro a w1 hm _ hd
          have h0 : a.tmps[35]?.getD undef = .pointer (some ⟨f, 0, none⟩) := hd 0 (by decide)
          clear hm hd
          go_simp
          exact ⟨_, rfl, rfl, FrA.same _⟩
        · intro a w1 hm _ hd
          have h0 : a.tmps[36]?.getD undef = .pointer (some ⟨f, 0, none⟩) := hd 1 (by decide)
          clear hm hd
          go_simp
          exact ⟨_, rfl, rfl, FrA.same _⟩
        · intro a w1 hm _ hd
          have h0 : a.tmps[37]?.getD undef = .pointer (some ⟨f, 0, none⟩) := hd 2 (by decide)
          have c0 : w1.cell? ⟨f, 0, none⟩ = some (.pointer (some ⟨pr, 0, none⟩)) := hm.cell k0 n1
          clear hm hd
          go_simp
          exact ⟨_, rfl, rfl, FrA.same _⟩
        · intro a w1 hm _ hd
          have h0 : a.tmps[0]?.getD undef = .pointer (some ⟨f, 0, none⟩) := hm.free' 0 (by decide)
          clear hm hd
          go_simp
          exact ⟨_, rfl, rfl, FrA.same _⟩
        · intro a w1 hm _ hd
          have h0 : a.tmps[39]?.getD undef = .pointer (some ⟨f, 0, none⟩) := hd 4 (by decide)
          clear hm hd
          go_simp
          exact ⟨_, rfl, rfl, FrA.same _⟩
        · intro a w1 hm _ hd
          have h0 : a.tmps[40]?.getD undef = .pointer (some ⟨f, 0, none⟩) := hd 5 (by decide)
          clear hm hd
          go_simp
          exact ⟨_, rfl, rfl, FrA.same _⟩
        · intro a w1 hm _ hd
          have h0 : a.tmps[41]?.getD undef = .pointer (some ⟨f, 0, none⟩) := hd 6 (by decide)
          have c0 : w1.cell? ⟨f, 0, none⟩ = some (.pointer (some ⟨pr, 0, none⟩)) := hm.cell k0 n1
          clear hm hd
          go_simp
          exact ⟨_, rfl, rfl, FrA.same _⟩
        · intro a w1 hm _ hd
          have h0 : a.tmps[42]?.getD undef = .pointer (some ⟨pr, 0, none⟩) := hd 7 (by decide)
          clear hm hd
          go_simp
          exact ⟨_, rfl, rfl, FrA.same _⟩
        · intro a w1 hm _ hd
          have h0 : a.tmps[43]?.getD undef = .pointer (some ⟨pr, 0, none⟩) := hd 8 (by decide)
          clear hm hd
          go_simp
          exact ⟨_, rfl, rfl, FrA.same _⟩
        · intro a w1 hm _ hd
          have h0 : a.tmps[44]?.getD undef = .pointer (some ⟨pr, 8, none⟩) := hd 9 (by decide)
          have c0 : w1.cell? ⟨pr, 8, none⟩ = some (.slice (some ⟨gc, 0, none⟩) n cc) := hm.cell k8 n2
          clear hm hd
          go_simp
          exact ⟨_, rfl, rfl, FrA.same _⟩
        · intro a w1 hm _ hd
          have h0 : a.tmps[1]?.getD undef = .iface 61 (.float .f64 b) := hm.free' 1 (by decide)
          clear hm hd
          go_simp
          exact ⟨_, rfl, rfl, FrA.same _⟩
        · intro a w1 hm _ hd
          have h0 : a.tmps[46]?.getD undef = .iface 61 (.float .f64 b) := hd 11 (by decide)
          have hs := hm.fr.size
          clear hm hd
          go_simp
          have hbel : Below w1.heap.size w1 (w1.alloc (.cells #[.iface 61 (.float .f64 b)] 77)) := by go_grown
          refine ⟨_, rfl, ⟨_, rfl, hs, ?_⟩, FrA.new hbel⟩
          simp
        · intro a w1 hm hb hd
          have hb := hb rfl
          have h1 : a.tmps[45]?.getD undef = .slice (some ⟨gc, 0, none⟩) n cc := hd 10 (by decide)
          obtain ⟨g, h2, hg, hc⟩ : V32n f pr gc n cc b xs w 12 (a.tmps[47]?.getD undef) w1 := hd 12 (by decide)
          have hs := hb.size
          refine wp_append_lies w1 (.tmp 45) (.tmp 47) 44 rfl 0 77 i0 .nilIface 1 16 Tryf.underlying44 hi0 hz0 hz1 hz2 rfl (by decide) (.slice (some ⟨gc, 0, none⟩) n cc) n xs (by simpa [Act.eval] using h1) (OR.below d2 hb ld) ⟨g, 0, none⟩ 1 1 [.iface 61 (.float .f64 b)] (by simpa [Act.eval] using h2) rfl (fun j u hj => ?_) (by intro u hu; simp at hu; subst hu; rfl) (by omega) (by unfold maxLen; omega) (by omega) (Nat.zero_le _) _ rfl ?_
          · cases j with
            | zero => simp at hj; subst hj; simpa [Addr.add] using hc
            | succ j => simp at hj
          · intro g1 cap1 w3 own1 gr1 at1 lt1
            have hfr : Fr (fun x => x = gc) w1 w3 := Fr.grown (Fr.refl _ _) gr1 (fun k hk => by simp [Value.ownBlock] at hk; exact .inl hk.symm)
            refine ⟨_, rfl, ⟨g1, cap1, rfl, own1, ?_⟩, by unfold FrA; rw [if_pos rfl]; exact hfr⟩
            rcases at1 with h | h
            · simp [Value.ownBlock] at h; exact .inl h.symm
            · right; omega
        · intro a w1 hm _ hd
          have h0 : a.tmps[38]?.getD undef = .pointer (some ⟨pr, 0, none⟩) := hd 3 (by decide)
          clear hm hd
          go_simp
          exact ⟨_, rfl, rfl, FrA.same _⟩
        · intro a w1 hm _ hd
          have h0 : a.tmps[49]?.getD undef = .pointer (some ⟨pr, 0, none⟩) := hd 14 (by decide)
          clear hm hd
          go_simp
          exact ⟨_, rfl, rfl, FrA.same _⟩

      · intro a w1 hm hv
        have h50 : a.tmps[50]?.getD undef = .pointer (some ⟨pr, 8, none⟩) := hv 15 (by decide)
        obtain ⟨g, cap, h48, ho, hg⟩ : V32n f pr gc n cc b xs w 13 (a.tmps[48]?.getD undef) w1 := hv 13 (by decide)
        have s0 : a.tmps[0]?.getD undef = .pointer (some ⟨f, 0, none⟩) := hm.free' 0 (by decide)
        have hsz : a.tmps.size = 72 := hm.size
        have hdf : a.defers = [] := hm.defers
        have p2 := hm.fr.row HR.out.2 n2
        have f2 := hm.fr.row HR.out.1 n1
        have q8 := p2.cell (i := 8) (by omega)
        have z8 := p2.frozen 8
        have f3 := f2.setOther (a := ⟨pr, 8, none⟩) n4 (.slice (some ⟨g, 0, none⟩) (n + 1) cap)
        have p3 := p2.set 8 (.slice (some ⟨g, 0, none⟩) (n + 1) cap)
        have g3 := OR.setCell ho (p := ⟨pr, 8, none⟩) (fun e => OR.ne ho p2 (by decide) e.symm) (.slice (some ⟨g, 0, none⟩) (n + 1) cap)
        have A := Fr.setCell (p := ⟨pr, 8, none⟩) (hm.fr.mono (o' := fun x => x = gc ∨ x = pr) (fun x hx => .inl (.inl hx))) (.inl (.inr rfl)) (.slice (some ⟨g, 0, none⟩) (n + 1) cap)
        have hgs : w.heap.size ≤ w1.heap.size := hm.fr.size
        have FIN : Hid (KPost w0 f (cs ++ [.num b]) (w1.setCell ⟨pr, 8, none⟩ (.slice (some ⟨g, 0, none⟩) (n + 1) cap))) := Lib.hid (by
          obtain ⟨F, hF, hF0⟩ := H.out.row
          have hf0 := f3.cell (i := 0) (by omega)
          have hF0' := hF.cell (i := 0) (by omega)
          have hf1 := HR.out.1.cell (i := 0) (by omega)
          rw [hf1] at hF0'
          have e0 := Option.some.inj hF0'
          refine ⟨pr, g, cap, ⟨_, f3, by rw [e0]; exact hF0⟩, ⟨_, p3, by simp [HN.out]⟩, by simpa [← hxs, kv, HN.out] using g3, H.out.bel.trans (A.below H.out.bel.size (fun x hx => by rcases hx with rfl | rfl; exact H.out.lg; exact H.out.lp)), H.out.lp, ?_⟩
          rcases hg with h | h
          · rw [h]; exact H.out.lg
          · have := H.out.bel.size; omega)
        have c0 := f3.cell (i := 0) (by omega)
        have c8 := p3.cell (i := 8) (by omega)
        simp only [if_true] at c8
        have hf1 := HR.out.1.cell (i := 0) (by omega)
        rw [hf1] at k0
        rw [Option.some.inj k0] at c0
        clear hm hv ho hg p2 f2 f3 p3 g3 A hf1 k0
        obtain ⟨⟨tl⟩, df⟩ := a
        simp only at hdf
        subst hdf
        have hl : tl.length = 72 := by simpa using hsz
        obtain ⟨x0, t0, rfl, e0⟩ := cons_of hl
        obtain ⟨x1, t1, rfl, e1⟩ := cons_of e0
        obtain ⟨x2, t2, rfl, e2⟩ := cons_of e1
        obtain ⟨x3, t3, rfl, e3⟩ := cons_of e2
        obtain ⟨x4, t4, rfl, e4⟩ := cons_of e3
        obtain ⟨x5, t5, rfl, e5⟩ := cons_of e4
        obtain ⟨x6, t6, rfl, e6⟩ := cons_of e5
        obtain ⟨x7, t7, rfl, e7⟩ := cons_of e6
        obtain ⟨x8, t8, rfl, e8⟩ := cons_of e7
        obtain ⟨x9, t9, rfl, e9⟩ := cons_of e8
        obtain ⟨x10, t10, rfl, e10⟩ := cons_of e9
        obtain ⟨x11, t11, rfl, e11⟩ := cons_of e10
        obtain ⟨x12, t12, rfl, e12⟩ := cons_of e11
        obtain ⟨x13, t13, rfl, e13⟩ := cons_of e12
        obtain ⟨x14, t14, rfl, e14⟩ := cons_of e13
        obtain ⟨x15, t15, rfl, e15⟩ := cons_of e14
        obtain ⟨x16, t16, rfl, e16⟩ := cons_of e15
        obtain ⟨x17, t17, rfl, e17⟩ := cons_of e16
        obtain ⟨x18, t18, rfl, e18⟩ := cons_of e17
        obtain ⟨x19, t19, rfl, e19⟩ := cons_of e18
        obtain ⟨x20, t20, rfl, e20⟩ := cons_of e19
        obtain ⟨x21, t21, rfl, e21⟩ := cons_of e20
        obtain ⟨x22, t22, rfl, e22⟩ := cons_of e21
        obtain ⟨x23, t23, rfl, e23⟩ := cons_of e22
        obtain ⟨x24, t24, rfl, e24⟩ := cons_of e23
        obtain ⟨x25, t25, rfl, e25⟩ := cons_of e24
        obtain ⟨x26, t26, rfl, e26⟩ := cons_of e25
        obtain ⟨x27, t27, rfl, e27⟩ := cons_of e26
        obtain ⟨x28, t28, rfl, e28⟩ := cons_of e27
        obtain ⟨x29, t29, rfl, e29⟩ := cons_of e28
        obtain ⟨x30, t30, rfl, e30⟩ := cons_of e29
        obtain ⟨x31, t31, rfl, e31⟩ := cons_of e30
        obtain ⟨x32, t32, rfl, e32⟩ := cons_of e31
        obtain ⟨x33, t33, rfl, e33⟩ := cons_of e32
        obtain ⟨x34, t34, rfl, e34⟩ := cons_of e33
        obtain ⟨x35, t35, rfl, e35⟩ := cons_of e34
        obtain ⟨x36, t36, rfl, e36⟩ := cons_of e35
        obtain ⟨x37, t37, rfl, e37⟩ := cons_of e36
        obtain ⟨x38, t38, rfl, e38⟩ := cons_of e37
        obtain ⟨x39, t39, rfl, e39⟩ := cons_of e38
        obtain ⟨x40, t40, rfl, e40⟩ := cons_of e39
        obtain ⟨x41, t41, rfl, e41⟩ := cons_of e40
        obtain ⟨x42, t42, rfl, e42⟩ := cons_of e41
        obtain ⟨x43, t43, rfl, e43⟩ := cons_of e42
        obtain ⟨x44, t44, rfl, e44⟩ := cons_of e43
        obtain ⟨x45, t45, rfl, e45⟩ := cons_of e44
        obtain ⟨x46, t46, rfl, e46⟩ := cons_of e45
        obtain ⟨x47, t47, rfl, e47⟩ := cons_of e46
        obtain ⟨x48, t48, rfl, e48⟩ := cons_of e47
        obtain ⟨x49, t49, rfl, e49⟩ := cons_of e48
        obtain ⟨x50, t50, rfl, e50⟩ := cons_of e49
        obtain ⟨x51, t51, rfl, e51⟩ := cons_of e50
        obtain ⟨x52, t52, rfl, e52⟩ := cons_of e51
        obtain ⟨x53, t53, rfl, e53⟩ := cons_of e52
        obtain ⟨x54, t54, rfl, e54⟩ := cons_of e53
        obtain ⟨x55, t55, rfl, e55⟩ := cons_of e54
        obtain ⟨x56, t56, rfl, e56⟩ := cons_of e55
        obtain ⟨x57, t57, rfl, e57⟩ := cons_of e56
        obtain ⟨x58, t58, rfl, e58⟩ := cons_of e57
        obtain ⟨x59, t59, rfl, e59⟩ := cons_of e58
        obtain ⟨x60, t60, rfl, e60⟩ := cons_of e59
        obtain ⟨x61, t61, rfl, e61⟩ := cons_of e60
        obtain ⟨x62, t62, rfl, e62⟩ := cons_of e61
        obtain ⟨x63, t63, rfl, e63⟩ := cons_of e62
        obtain ⟨x64, t64, rfl, e64⟩ := cons_of e63
        obtain ⟨x65, t65, rfl, e65⟩ := cons_of e64
        obtain ⟨x66, t66, rfl, e66⟩ := cons_of e65
        obtain ⟨x67, t67, rfl, e67⟩ := cons_of e66
        obtain ⟨x68, t68, rfl, e68⟩ := cons_of e67
        obtain ⟨x69, t69, rfl, e69⟩ := cons_of e68
        obtain ⟨x70, t70, rfl, e70⟩ := cons_of e69
        obtain ⟨x71, t71, rfl, e71⟩ := cons_of e70
        obtain rfl := List.eq_nil_of_length_eq_zero e71
        clear e0 e1 e2 e3 e4 e5 e6 e7 e8 e9 e10 e11 e12 e13 e14 e15 e16 e17 e18 e19 e20 e21 e22 e23 e24 e25 e26 e27 e28 e29 e30 e31 e32 e33 e34 e35 e36 e37 e38 e39 e40 e41 e42 e43 e44 e45 e46 e47 e48 e49 e50 e51 e52 e53 e54 e55 e56 e57 e58 e59 e60 e61 e62 e63 e64 e65 e66 e67 e68 e69 e70 e71 hsz
        simp at h50 h48 s0
        subst h50 h48 s0
        clear hl
        obtain ⟨w3, hw3⟩ : ∃ w3, w1.setCell ⟨pr, 8, none⟩ (.slice (some ⟨g, 0, none⟩) (n + 1) cap) = w3 := ⟨_, rfl⟩
        rw [hw3] at c0 c8 FIN
        go_simp
        clear hw3 q8 z8
        go_wp2
        go_ret
        exact ⟨rfl, FIN.out⟩
def V32s (f pr gc n cc : Nat) (s : ByteArray) (xs : List Value) (w0 : World) (i : Nat) (v : Value) (w : World) : Prop := match i with
  | 0 => v = .pointer (some ⟨f, 0, none⟩)
  | 1 => v = .pointer (some ⟨f, 0, none⟩)
  | 2 => v = .pointer (some ⟨f, 0, none⟩)
  | 3 => v = .pointer (some ⟨pr, 0, none⟩)
  | 4 => v = .pointer (some ⟨f, 0, none⟩)
  | 5 => v = .pointer (some ⟨f, 0, none⟩)
  | 6 => v = .pointer (some ⟨f, 0, none⟩)
  | 7 => v = .pointer (some ⟨pr, 0, none⟩)
  | 8 => v = .pointer (some ⟨pr, 0, none⟩)
  | 9 => v = .pointer (some ⟨pr, 8, none⟩)
  | 10 => v = .slice (some ⟨gc, 0, none⟩) n cc
  | 11 => v = .iface 62 (.string s)
  | 12 => ∃ g, v = .slice (some ⟨g, 0, none⟩) 1 1 ∧ w0.heap.size ≤ g ∧ w.cell? ⟨g, 0, none⟩ = some (.iface 62 (.string s))
  | 13 => ∃ g cap, v = .slice (some ⟨g, 0, none⟩) (n + 1) cap ∧ OR w 77 g (n + 1) cap (xs ++ [.iface 62 (.string s)]) ∧ (g = gc ∨ w0.heap.size ≤ g)
  | 14 => v = .pointer (some ⟨pr, 0, none⟩)
  | 15 => v = .pointer (some ⟨pr, 8, none⟩)
  | _ => True
theorem V32s.stable {f pr gc n cc : Nat} {s : ByteArray} {xs : List Value} {w0 : World} (hgd : gc < w0.heap.size) : ∀ i j v w w', i ≠ j → V32s f pr gc n cc s xs w0 i v w → FrA 13 (fun x => x = gc) j w w' → V32s f pr gc n cc s xs w0 i v w' := by
  intro i j v w w' hij h hfr
  match i, h with
  | 0, h => exact h
  | 1, h => exact h
  | 2, h => exact h
  | 3, h => exact h
  | 4, h => exact h
  | 5, h => exact h
  | 6, h => exact h
  | 7, h => exact h
  | 8, h => exact h
  | 9, h => exact h
  | 10, h => exact h
  | 11, h => exact h
  | 12, h => exact by obtain ⟨g, h1, h3, h4⟩ := h; exact ⟨g, h1, h3, (hfr.fr.cell (p := ⟨g, 0, none⟩) (World.block_lt_of_cell? w _ h4) (show ¬ g = gc by omega)).trans h4⟩
  | 13, h => exact by obtain ⟨g, cap, h1, h2, h3⟩ := h; have hb : Below w.heap.size w w' := (by unfold FrA at hfr; rwa [if_neg (fun e => hij e.symm)] at hfr); exact ⟨g, cap, h1, OR.below h2 hb h2.lt', h3⟩
  | 14, h => exact h
  | 15, h => exact h
  | n + 16, h => exact h
set_option maxHeartbeats 4000000 in
set_option maxRecDepth 100000 in
theorem ci_hit_s {w0 w : World} {f pr gc cc : Nat} {cs : List KV} (h : KX w0 w f pr gc cc cs) (s : ByteArray) (hlen : cs.length ≤ 20000) {j : Nat} {c0 : KV} (hj : cs[j]? = some c0) (hjt : eqk c0 (.str s) = true) (hjf : ∀ (i : Nat) c, i < j → cs[i]? = some c → eqk c (.str s) = false) :
    Calls Tryf.prog 32 #[.pointer (some ⟨f, 0, none⟩), .iface 62 (.string s)] w fun e w' => e = .returned (.int .i64 j) ∧ w = w' := by
  obtain ⟨F, r1, r0⟩ := h.row
  obtain ⟨FP, p1, p8⟩ := h.prw
  have d2 := h.ow
  have k0 := r1.cell (i := 0) (by omega)
  have k8 := p1.cell (i := 8) (by omega)
  rw [r0] at k0
  rw [p8] at k8
  obtain ⟨n, hn⟩ : ∃ n, cs.length = n := ⟨_, rfl⟩
  rw [hn] at k8 d2 hlen
  have D2 := Lib.hid d2
  have H := Lib.hid h
  have HN := Lib.hid hn
  have HR := Lib.hid (And.intro r1 p1)
  have e61 := fun a b w => eq61 a b w
  have e62 := fun a b w => eq62 a b w
  have hjn : j < n := by rw [← hn]; exact (List.getElem?_eq_some_iff.1 hj).1
  have HJ := Lib.hid (And.intro hj (And.intro hjt hjf))
  clear h r1 r0 p1 p8 d2 hn hj hjt hjf
  go_enter Tryf.func32, Tryf.ntmps32
  go_wp2_with (first | (go_at_call 96; refine (ty96 _ _).mono ?_; rintro e w' ⟨rfl, rfl⟩) | (go_at_call 101; refine (ty101 _ _).mono ?_; rintro e w' ⟨rfl, rfl⟩))
  go_loopg [19] n (fun gk v19 wr => ∃ i : Nat, i + gk = n ∧ i ≤ j ∧ v19 = .int .i64 i ∧ wr = w)
  case atStart => exact ⟨0, by omega, Nat.zero_le _, by first | rfl | go_num, rfl⟩
  case round =>
    obtain ⟨i, hi, hij, rfl, rfl⟩ := hrel
    have hin : i < n := by omega
    obtain ⟨c, hc⟩ : ∃ c, cs[i]? = some c := ⟨_, List.getElem?_eq_getElem (by rw [HN.out]; exact hin)⟩
    have cv := D2.out.at_ (i := i) (v := kv c) hin (by simp [hc])
    by_cases hlt : i < j
    · have hf := HJ.out.2.2 i c hlt hc
      clear hc
      cases c with
      | num t =>
        simp only [kv] at cv
        simp only [eqk] at hf
        go_wp2_with (first | (go_at_call 96; refine (ty96 _ _).mono ?_; rintro e w' ⟨rfl, rfl⟩) | (go_at_call 101; refine (ty101 _ _).mono ?_; rintro e w' ⟨rfl, rfl⟩))
        go_roundg (n - (i + 1))
        case measure => omega
        case rel => exact ⟨i + 1, by omega, by omega, by go_num, rfl⟩
      | str t =>
        simp only [kv] at cv
        simp only [eqk] at hf
        go_wp2_with (first | (go_at_call 96; refine (ty96 _ _).mono ?_; rintro e w' ⟨rfl, rfl⟩) | (go_at_call 101; refine (ty101 _ _).mono ?_; rintro e w' ⟨rfl, rfl⟩))
        go_roundg (n - (i + 1))
        case measure => omega
        case rel => exact ⟨i + 1, by omega, by omega, by go_num, rfl⟩
    · obtain rfl : i = j := by omega
      have hf := HJ.out.2.1
      have e := HJ.out.1
      rw [hc] at e
      cases e
      clear hc
      cases c0 with
      | num t =>
        simp only [kv] at cv
        simp only [eqk] at hf
        cases hf
      | str t =>
        simp only [kv] at cv
        simp only [eqk] at hf
        go_wp2_with (first | (go_at_call 96; refine (ty96 _ _).mono ?_; rintro e w' ⟨rfl, rfl⟩) | (go_at_call 101; refine (ty101 _ _).mono ?_; rintro e w' ⟨rfl, rfl⟩))
        go_ret
        exact ⟨rfl, rfl⟩
set_option maxHeartbeats 4000000 in
set_option maxRecDepth 100000 in
theorem ci_miss_s {w0 w : World} {f pr gc cc : Nat} {cs : List KV} (h : KX w0 w f pr gc cc cs) (s : ByteArray) (hlen : cs.length ≤ 20000) (hno : ∀ (i : Nat) c, cs[i]? = some c → eqk c (.str s) = false) :
    Calls Tryf.prog 32 #[.pointer (some ⟨f, 0, none⟩), .iface 62 (.string s)] w fun e w' => e = .returned (.int .i64 cs.length) ∧ KPost w0 f (cs ++ [.str s]) w' := by
  obtain ⟨F, r1, r0⟩ := h.row
  obtain ⟨FP, p1, p8⟩ := h.prw
  have d2 := h.ow
  have k0 := r1.cell (i := 0) (by omega)
  have k8 := p1.cell (i := 8) (by omega)
  rw [r0] at k0
  rw [p8] at k8
  obtain ⟨n, hn⟩ : ∃ n, cs.length = n := ⟨_, rfl⟩
  rw [hn] at k8 d2 hlen
  have D2 := Lib.hid d2
  have H := Lib.hid h
  have HN := Lib.hid hn
  have HR := Lib.hid (And.intro r1 p1)
  have e61 := fun a b w => eq61 a b w
  have e62 := fun a b w => eq62 a b w
  have HNO := Lib.hid hno
  have ld := d2.lt'
  have n1 : ¬ f = gc := fun e => OR.ne d2 r1 (by decide) e.symm
  have n2 : ¬ pr = gc := fun e => OR.ne d2 p1 (by decide) e.symm
  have n4 : f ≠ pr := row_ne r1 p1 (by decide)
  obtain ⟨i0, hi0, hz0, hz1, hz2⟩ := or_parts info77
  rw [hn]
  clear h r1 r0 p1 p8 d2 hn hno
  go_enter Tryf.func32, Tryf.ntmps32
  go_wp2_with (first | (go_at_call 96; refine (ty96 _ _).mono ?_; rintro e w' ⟨rfl, rfl⟩) | (go_at_call 101; refine (ty101 _ _).mono ?_; rintro e w' ⟨rfl, rfl⟩))
  go_loopg [19] n (fun gk v19 wr => ∃ i : Nat, i + gk = n ∧ v19 = .int .i64 i ∧ wr = w)
  case atStart => exact ⟨0, by omega, by first | rfl | go_num, rfl⟩
  case round =>
    obtain ⟨i, hi, rfl, rfl⟩ := hrel
    by_cases hin : i < n
    · obtain ⟨c, hc⟩ : ∃ c, cs[i]? = some c := ⟨_, List.getElem?_eq_getElem (by rw [HN.out]; exact hin)⟩
      have cv := D2.out.at_ (i := i) (v := kv c) hin (by simp [hc])
      have hf := HNO.out i c hc
      clear hc
      cases c with
      | num t =>
        simp only [kv] at cv
        simp only [eqk] at hf
        go_wp2_with (first | (go_at_call 96; refine (ty96 _ _).mono ?_; rintro e w' ⟨rfl, rfl⟩) | (go_at_call 101; refine (ty101 _ _).mono ?_; rintro e w' ⟨rfl, rfl⟩))
        go_roundg (n - (i + 1))
        case measure => omega
        case rel => exact ⟨i + 1, by omega, by go_num, rfl⟩
      | str t =>
        simp only [kv] at cv
        simp only [eqk] at hf
        go_wp2_with (first | (go_at_call 96; refine (ty96 _ _).mono ?_; rintro e w' ⟨rfl, rfl⟩) | (go_at_call 101; refine (ty101 _ _).mono ?_; rintro e w' ⟨rfl, rfl⟩))
        go_roundg (n - (i + 1))
        case measure => omega
        case rel => exact ⟨i + 1, by omega, by go_num, rfl⟩
    · obtain rfl : i = n := by omega
      obtain ⟨w, hww⟩ : ∃ w : World, w = wr := ⟨_, rfl⟩
      subst hww
      have d2 := D2.out
      obtain ⟨xs, hxs⟩ : ∃ xs, cs.map kv = xs := ⟨_, rfl⟩
      rw [hxs] at d2
      obtain ⟨n, hnn⟩ : ∃ n, n = i := ⟨_, rfl⟩
      subst hnn
      clear e61 e62 hin hi
      go_wp2
      refine wp_region_tail (o := _) 16 (fun x => x = gc) 13 (V32s f pr gc n cc s xs w) (by kernel_rfl) rfl rfl (by kernel_rfl) (by kernel_rfl) rfl (by kernel_rfl) (V32s.stable ld) ?_ ?_
      · refine ⟨?_, ?_, ?_, ?_, ?_, ?_, ?_, ?_, ?_, ?_, ?_, ?_, ?_, ?_, ?_, ?_, trivial⟩
        · intro a w1 hm _ hd
          have h0 : a.tmps[0]?.getD undef = .pointer (some ⟨f, 0, none⟩) := hm.free' 0 (by decide)
          clear hm hd
          go_simp
          exact ⟨_, rfl, rfl, FrA.same _⟩
        · intro a w1 hm _ hd
          have h0 : a.tmps[35]?.getD undef = .pointer (some ⟨f, 0, none⟩) := hd 0 (by decide)
          clear hm hd
          go_simp
          exact ⟨_, rfl, rfl, FrA.same _⟩
        · intro a w1 hm _ hd
          have h0 : a.tmps[36]?.getD undef = .pointer (some ⟨f, 0, none⟩) := hd 1 (by decide)
          clear hm hd
          go_simp
          exact ⟨_, rfl, rfl, FrA.same _⟩
        · intro a w1 hm _ hd
          have h0 : a.tmps[37]?.getD undef = .pointer (some ⟨f, 0, none⟩) := hd 2 (by decide)
          have c0 : w1.cell? ⟨f, 0, none⟩ = some (.pointer (some ⟨pr, 0, none⟩)) := hm.cell k0 n1
          clear hm hd
          go_simp
          exact ⟨_, rfl, rfl, FrA.same _⟩
        · intro a w1 hm _ hd
          have h0 : a.tmps[0]?.getD undef = .pointer (some ⟨f, 0, none⟩) := hm.free' 0 (by decide)
          clear hm hd
          go_simp
          exact ⟨_, rfl, rfl, FrA.same _⟩
        · intro a w1 hm _ hd
          have h0 : a.tmps[39]?.getD undef = .pointer (some ⟨f, 0, none⟩) := hd 4 (by decide)
          clear hm hd
          go_simp
          exact ⟨_, rfl, rfl, FrA.same _⟩
        · intro a w1 hm _ hd
          have h0 : a.tmps[40]?.getD undef = .pointer (some ⟨f, 0, none⟩) := hd 5 (by decide)
          clear hm hd
          go_simp
          exact ⟨_, rfl, rfl, FrA.same _⟩
        · intro a w1 hm _ hd
          have h0 : a.tmps[41]?.getD undef = .pointer (some ⟨f, 0, none⟩) := hd 6 (by decide)
          have c0 : w1.cell? ⟨f, 0, none⟩ = some (.pointer (some ⟨pr, 0, none⟩)) := hm.cell k0 n1
          clear hm hd
          go_simp
          exact ⟨_, rfl, rfl, FrA.same _⟩
        · intro a w1 hm _ hd
          have h0 : a.tmps[42]?.getD undef = .pointer (some ⟨pr, 0, none⟩) := hd 7 (by decide)
          clear hm hd
          go_simp
          exact ⟨_, rfl, rfl, FrA.same _⟩
        · intro a w1 hm _ hd
          have h0 : a.tmps[43]?.getD undef = .pointer (some ⟨pr, 0, none⟩) := hd 8 (by decide)
          clear hm hd
          go_simp
          exact ⟨_, rfl, rfl, FrA.same _⟩
        · intro a w1 hm _ hd
          have h0 : a.tmps[44]?.getD undef = .pointer (some ⟨pr, 8, none⟩) := hd 9 (by decide)
          have c0 : w1.cell? ⟨pr, 8, none⟩ = some (.slice (some ⟨gc, 0, none⟩) n cc) := hm.cell k8 n2
          clear hm hd
          go_simp
          exact ⟨_, rfl, rfl, FrA.same _⟩
        · intro a w1 hm _ hd
          have h0 : a.tmps[1]?.getD undef = .iface 62 (.string s) := hm.free' 1 (by decide)
          clear hm hd
          go_simp
          exact ⟨_, rfl, rfl, FrA.same _⟩
        · intro a w1 hm _ hd
          have h0 : a.tmps[46]?.getD undef = .iface 62 (.string s) := hd 11 (by decide)
          have hs := hm.fr.size
          clear hm hd
          go_simp
          have hbel : Below w1.heap.size w1 (w1.alloc (.cells #[.iface 62 (.string s)] 77)) := by go_grown
          refine ⟨_, rfl, ⟨_, rfl, hs, ?_⟩, FrA.new hbel⟩
          simp
        · intro a w1 hm hb hd
          have hb := hb rfl
          have h1 : a.tmps[45]?.getD undef = .slice (some ⟨gc, 0, none⟩) n cc := hd 10 (by decide)
          obtain ⟨g, h2, hg, hc⟩ : V32s f pr gc n cc s xs w 12 (a.tmps[47]?.getD undef) w1 := hd 12 (by decide)
          have hs := hb.size
          refine wp_append_lies w1 (.tmp 45) (.tmp 47) 44 rfl 0 77 i0 .nilIface 1 16 Tryf.underlying44 hi0 hz0 hz1 hz2 rfl (by decide) (.slice (some ⟨gc, 0, none⟩) n cc) n xs (by simpa [Act.eval] using h1) (OR.below d2 hb ld) ⟨g, 0, none⟩ 1 1 [.iface 62 (.string s)] (by simpa [Act.eval] using h2) rfl (fun j u hj => ?_) (by intro u hu; simp at hu; subst hu; rfl) (by omega) (by unfold maxLen; omega) (by omega) (Nat.zero_le _) _ rfl ?_
          · cases j with
            | zero => simp at hj; subst hj; simpa [Addr.add] using hc
            | succ j => simp at hj
          · intro g1 cap1 w3 own1 gr1 at1 lt1
            have hfr : Fr (fun x => x = gc) w1 w3 := Fr.grown (Fr.refl _ _) gr1 (fun k hk => by simp [Value.ownBlock] at hk; exact .inl hk.symm)
            refine ⟨_, rfl, ⟨g1, cap1, rfl, own1, ?_⟩, by unfold FrA; rw [if_pos rfl]; exact hfr⟩
            rcases at1 with h | h
            · simp [Value.ownBlock] at h; exact .inl h.symm
            · right; omega
        · intro a w1 hm _ hd
          have h0 : a.tmps[38]?.getD undef = .pointer (some ⟨pr, 0, none⟩) := hd 3 (by decide)
          clear hm hd
          go_simp
          exact ⟨_, rfl, rfl, FrA.same _⟩
        · intro a w1 hm _ hd
          have h0 : a.tmps[49]?.getD undef = .pointer (some ⟨pr, 0, none⟩) := hd 14 (by decide)
          clear hm hd
          go_simp
          exact ⟨_, rfl, rfl, FrA.same _⟩

      · intro a w1 hm hv
        have h50 : a.tmps[50]?.getD undef = .pointer (some ⟨pr, 8, none⟩) := hv 15 (by decide)
        obtain ⟨g, cap, h48, ho, hg⟩ : V32s f pr gc n cc s xs w 13 (a.tmps[48]?.getD undef) w1 := hv 13 (by decide)
        have s0 : a.tmps[0]?.getD undef = .pointer (some ⟨f, 0, none⟩) := hm.free' 0 (by decide)
        have hsz : a.tmps.size = 72 := hm.size
        have hdf : a.defers = [] := hm.defers
        have p2 := hm.fr.row HR.out.2 n2
        have f2 := hm.fr.row HR.out.1 n1
        have q8 := p2.cell (i := 8) (by omega)
        have z8 := p2.frozen 8
        have f3 := f2.setOther (a := ⟨pr, 8, none⟩) n4 (.slice (some ⟨g, 0, none⟩) (n + 1) cap)
        have p3 := p2.set 8 (.slice (some ⟨g, 0, none⟩) (n + 1) cap)
        have g3 := OR.setCell ho (p := ⟨pr, 8, none⟩) (fun e => OR.ne ho p2 (by decide) e.symm) (.slice (some ⟨g, 0, none⟩) (n + 1) cap)
        have A := Fr.setCell (p := ⟨pr, 8, none⟩) (hm.fr.mono (o' := fun x => x = gc ∨ x = pr) (fun x hx => .inl (.inl hx))) (.inl (.inr rfl)) (.slice (some ⟨g, 0, none⟩) (n + 1) cap)
        have hgs : w.heap.size ≤ w1.heap.size := hm.fr.size
        have FIN : Hid (KPost w0 f (cs ++ [.str s]) (w1.setCell ⟨pr, 8, none⟩ (.slice (some ⟨g, 0, none⟩) (n + 1) cap))) := Lib.hid (by
          obtain ⟨F, hF, hF0⟩ := H.out.row
          have hf0 := f3.cell (i := 0) (by omega)
          have hF0' := hF.cell (i := 0) (by omega)
          have hf1 := HR.out.1.cell (i := 0) (by omega)
          rw [hf1] at hF0'
          have e0 := Option.some.inj hF0'
          refine ⟨pr, g, cap, ⟨_, f3, by rw [e0]; exact hF0⟩, ⟨_, p3, by simp [HN.out]⟩, by simpa [← hxs, kv, HN.out] using g3, H.out.bel.trans (A.below H.out.bel.size (fun x hx => by rcases hx with rfl | rfl; exact H.out.lg; exact H.out.lp)), H.out.lp, ?_⟩
          rcases hg with h | h
          · rw [h]; exact H.out.lg
          · have := H.out.bel.size; omega)
        have c0 := f3.cell (i := 0) (by omega)
        have c8 := p3.cell (i := 8) (by omega)
        simp only [if_true] at c8
        have hf1 := HR.out.1.cell (i := 0) (by omega)
        rw [hf1] at k0
        rw [Option.some.inj k0] at c0
        clear hm hv ho hg p2 f2 f3 p3 g3 A hf1 k0
        obtain ⟨⟨tl⟩, df⟩ := a
        simp only at hdf
        subst hdf
        have hl : tl.length = 72 := by simpa using hsz
        obtain ⟨x0, t0, rfl, e0⟩ := cons_of hl
        obtain ⟨x1, t1, rfl, e1⟩ := cons_of e0
        obtain ⟨x2, t2, rfl, e2⟩ := cons_of e1
        obtain ⟨x3, t3, rfl, e3⟩ := cons_of e2
        obtain ⟨x4, t4, rfl, e4⟩ := cons_of e3
        obtain ⟨x5, t5, rfl, e5⟩ := cons_of e4
        obtain ⟨x6, t6, rfl, e6⟩ := cons_of e5
        obtain ⟨x7, t7, rfl, e7⟩ := cons_of e6
        obtain ⟨x8, t8, rfl, e8⟩ := cons_of e7
        obtain ⟨x9, t9, rfl, e9⟩ := cons_of e8
        obtain ⟨x10, t10, rfl, e10⟩ := cons_of e9
        obtain ⟨x11, t11, rfl, e11⟩ := cons_of e10
        obtain ⟨x12, t12, rfl, e12⟩ := cons_of e11
        obtain ⟨x13, t13, rfl, e13⟩ := cons_of e12
        obtain ⟨x14, t14, rfl, e14⟩ := cons_of e13
        obtain ⟨x15, t15, rfl, e15⟩ := cons_of e14
        obtain ⟨x16, t16, rfl, e16⟩ := cons_of e15
        obtain ⟨x17, t17, rfl, e17⟩ := cons_of e16
        obtain ⟨x18, t18, rfl, e18⟩ := cons_of e17
        obtain ⟨x19, t19, rfl, e19⟩ := cons_of e18
        obtain ⟨x20, t20, rfl, e20⟩ := cons_of e19
        obtain ⟨x21, t21, rfl, e21⟩ := cons_of e20
        obtain ⟨x22, t22, rfl, e22⟩ := cons_of e21
        obtain ⟨x23, t23, rfl, e23⟩ := cons_of e22
        obtain ⟨x24, t24, rfl, e24⟩ := cons_of e23
        obtain ⟨x25, t25, rfl, e25⟩ := cons_of e24
        obtain ⟨x26, t26, rfl, e26⟩ := cons_of e25
        obtain ⟨x27, t27, rfl, e27⟩ := cons_of e26
        obtain ⟨x28, t28, rfl, e28⟩ := cons_of e27
        obtain ⟨x29, t29, rfl, e29⟩ := cons_of e28
        obtain ⟨x30, t30, rfl, e30⟩ := cons_of e29
        obtain ⟨x31, t31, rfl, e31⟩ := cons_of e30
        obtain ⟨x32, t32, rfl, e32⟩ := cons_of e31
        obtain ⟨x33, t33, rfl, e33⟩ := cons_of e32
        obtain ⟨x34, t34, rfl, e34⟩ := cons_of e33
        obtain ⟨x35, t35, rfl, e35⟩ := cons_of e34
        obtain ⟨x36, t36, rfl, e36⟩ := cons_of e35
        obtain ⟨x37, t37, rfl, e37⟩ := cons_of e36
        obtain ⟨x38, t38, rfl, e38⟩ := cons_of e37
        obtain ⟨x39, t39, rfl, e39⟩ := cons_of e38
        obtain ⟨x40, t40, rfl, e40⟩ := cons_of e39
        obtain ⟨x41, t41, rfl, e41⟩ := cons_of e40
        obtain ⟨x42, t42, rfl, e42⟩ := cons_of e41
        obtain ⟨x43, t43, rfl, e43⟩ := cons_of e42
        obtain ⟨x44, t44, rfl, e44⟩ := cons_of e43
        obtain ⟨x45, t45, rfl, e45⟩ := cons_of e44
        obtain ⟨x46, t46, rfl, e46⟩ := cons_of e45
        obtain ⟨x47, t47, rfl, e47⟩ := cons_of e46
        obtain ⟨x48, t48, rfl, e48⟩ := cons_of e47
        obtain ⟨x49, t49, rfl, e49⟩ := cons_of e48
        obtain ⟨x50, t50, rfl, e50⟩ := cons_of e49
        obtain ⟨x51, t51, rfl, e51⟩ := cons_of e50
        obtain ⟨x52, t52, rfl, e52⟩ := cons_of e51
        obtain ⟨x53, t53, rfl, e53⟩ := cons_of e52
        obtain ⟨x54, t54, rfl, e54⟩ := cons_of e53
        obtain ⟨x55, t55, rfl, e55⟩ := cons_of e54
        obtain ⟨x56, t56, rfl, e56⟩ := cons_of e55
        obtain ⟨x57, t57, rfl, e57⟩ := cons_of e56
        obtain ⟨x58, t58, rfl, e58⟩ := cons_of e57
        obtain ⟨x59, t59, rfl, e59⟩ := cons_of e58
        obtain ⟨x60, t60, rfl, e60⟩ := cons_of e59
        obtain ⟨x61, t61, rfl, e61⟩ := cons_of e60
        obtain ⟨x62, t62, rfl, e62⟩ := cons_of e61
        obtain ⟨x63, t63, rfl, e63⟩ := cons_of e62
        obtain ⟨x64, t64, rfl, e64⟩ := cons_of e63
        obtain ⟨x65, t65, rfl, e65⟩ := cons_of e64
        obtain ⟨x66, t66, rfl, e66⟩ := cons_of e65
        obtain ⟨x67, t67, rfl, e67⟩ := cons_of e66
        obtain ⟨x68, t68, rfl, e68⟩ := cons_of e67
        obtain ⟨x69, t69, rfl, e69⟩ := cons_of e68
        obtain ⟨x70, t70, rfl, e70⟩ := cons_of e69
        obtain ⟨x71, t71, rfl, e71⟩ := cons_of e70
        obtain rfl := List.eq_nil_of_length_eq_zero e71
        clear e0 e1 e2 e3 e4 e5 e6 e7 e8 e9 e10 e11 e12 e13 e14 e15 e16 e17 e18 e19 e20 e21 e22 e23 e24 e25 e26 e27 e28 e29 e30 e31 e32 e33 e34 e35 e36 e37 e38 e39 e40 e41 e42 e43 e44 e45 e46 e47 e48 e49 e50 e51 e52 e53 e54 e55 e56 e57 e58 e59 e60 e61 e62 e63 e64 e65 e66 e67 e68 e69 e70 e71 hsz
        simp at h50 h48 s0
        subst h50 h48 s0
        clear hl
        obtain ⟨w3, hw3⟩ : ∃ w3, w1.setCell ⟨pr, 8, none⟩ (.slice (some ⟨g, 0, none⟩) (n + 1) cap) = w3 := ⟨_, rfl⟩
        rw [hw3] at c0 c8 FIN
        go_simp
        clear hw3 q8 z8
        go_wp2
        go_ret
        exact ⟨rfl, FIN.out⟩
end Go.Proofs.YtpffohonpblfkaaFmt
