/- More helpers of the laws: bounds, the register's size, a fresh state, a script of lookups, the comparison with the cache. -/
import Derived.Test.YtmmjeohpolfopaaHelp
namespace Go.Proofs.Ytmmjeohpolfopaa
open Go.RowKit Go.ChangeShapes Go.Deep
def InRange (n : Nat) (z : Nat → Int) : Prop := ∀ i, i < n → 0 ≤ z i ∧ z i < 65536
theorem range_ok (A : Option Addr) (n c : Nat) (z : Nat → Int) (w : World) (ha : Arr w A n c (fun i => .int .i64 (z i))) (hn : n ≤ 65536) :
    Calls Try.prog 8 #[.slice A n c] w (SomeB (InRange n z) w) := by
  go_enter Try.func8, Try.ntmps8
  go_wp2
  go_loop [3] (fun v => ∃ k : Nat, k ≤ n ∧ v = .int .i64 k ∧ Hid (∀ i, i < k → 0 ≤ z i ∧ z i < 65536)) (fun v => n - (intOf v).toNat)
  case atStart => exact ⟨0, Nat.zero_le _, rfl, Lib.hid (fun i hi => by omega)⟩
  case round =>
    obtain ⟨k, hk, rfl, hh⟩ := hrel
    have HH := Lib.hid hh.out
    clear hh
    by_cases hkn : k < n
    · obtain ⟨b, off, hx, _, hc⟩ := ha.at_ hkn
      subst hx
      obtain ⟨v, hv⟩ : ∃ v, z k = v := ⟨_, rfl⟩
      rw [hv] at hc
      have HV := Lib.hid hv
      clear hv ha
      by_cases h1 : v < 0
      · go_wp2
        go_ret
        exact ⟨false, rfl, rfl, fun h => by cases h⟩
      · by_cases h2 : 65536 ≤ v
        · go_wp2
          go_ret
          exact ⟨false, rfl, rfl, fun h => by cases h⟩
        · have H2 : Hid (∀ i, i < k + 1 → 0 ≤ z i ∧ z i < 65536) := Lib.hid (fun i hi => by
            by_cases e : i = k
            · subst e; rw [HV.out]; omega
            · exact HH.out i (by omega))
          go_wp2
          go_round
          case rel => exact ⟨k + 1, by omega, by go_num, H2⟩
          case measure => simp [intOf]; omega
    · obtain rfl : k = n := by omega
      clear ha
      go_wp2
      go_ret
      exact ⟨true, rfl, rfl, fun _ => HH.out⟩
def Size (n : Nat) (z : Nat → Int) (ex : Int) (w : World) (e : Ending) (w' : World) : Prop := ∃ N : Nat, e = .returned (.int .i64 N) ∧ w = w' ∧ N ≤ 65536 ∧ ex < N ∧ ∀ i, i < n → z i < N
theorem size_ok (A : Option Addr) (n c : Nat) (z : Nat → Int) (ex : Int) (w : World) (ha : Arr w A n c (fun i => .int .i64 (z i))) (hn : n ≤ 65536) (hz : InRange n z) (h0 : 0 ≤ ex) (h1 : ex < 65536) :
    Calls Try.prog 21 #[.slice A n c, .int .i64 ex] w (Size n z ex w) := by
  have HZ := Lib.hid hz
  clear hz
  go_enter Try.func21, Try.ntmps21
  go_wp2
  go_loop [5, 6] (fun v5 v6 => ∃ (k : Nat) (m : Int), k ≤ n ∧ v6 = .int .i64 k ∧ v5 = .int .i64 m ∧ ex ≤ m ∧ m < 65536 ∧ Hid (∀ i, i < k → z i ≤ m)) (fun _ v => n - (intOf v).toNat)
  case atStart => exact ⟨0, ex, Nat.zero_le _, rfl, rfl, Int.le_refl _, h1, Lib.hid (fun i hi => by omega)⟩
  case round =>
    obtain ⟨k, m, hk, rfl, rfl, m0, m1, hh⟩ := hrel
    have HH := Lib.hid hh.out
    clear hh
    by_cases hkn : k < n
    · obtain ⟨b, off, hx, _, hc⟩ := ha.at_ hkn
      subst hx
      obtain ⟨v, hv⟩ : ∃ v, z k = v := ⟨_, rfl⟩
      have hb := HZ.out k hkn
      rw [hv] at hc hb
      have HV := Lib.hid hv
      clear hv ha
      by_cases h2 : m < v
      · have H2 : Hid (∀ i, i < k + 1 → z i ≤ v) := Lib.hid (fun i hi => by
          by_cases e : i = k
          · subst e; rw [HV.out]; omega
          · have := HH.out i (by omega); omega)
        go_wp2
        go_round
        case rel => exact ⟨k + 1, v, by omega, by go_num, rfl, by omega, by omega, H2⟩
        case measure => simp [intOf]; omega
      · have H2 : Hid (∀ i, i < k + 1 → z i ≤ m) := Lib.hid (fun i hi => by
          by_cases e : i = k
          · subst e; rw [HV.out]; omega
          · have := HH.out i (by omega); omega)
        go_wp2
        go_round
        case rel => exact ⟨k + 1, m, by omega, by go_num, rfl, m0, m1, H2⟩
        case measure => simp [intOf]; omega
    · obtain rfl : k = n := by omega
      clear ha
      go_wp2
      go_ret
      refine ⟨(m + 1).toNat, ?_, rfl, by omega, by omega, fun i hi => by have := HH.out i hi; omega⟩
      have : m + 1 = ((m + 1).toNat : Int) := by omega
      exact congrArg (fun x => Ending.returned (.int .i64 x)) this
theorem new_state (w : World) (N : Nat) (hN : N ≤ 65536) (C1 C2 : Array Value) (h1 : C1.size = 6) (h10 : C1.getD 0 undef = .slice (some ⟨w.heap.size, 0, none⟩) N N) (h2 : C2.size = 23) (h213 : C2.getD 13 undef = .pointer (some ⟨w.heap.size + 1, 0, none⟩)) (h218 : C2.getD 18 undef = .pointer none) :
    St w (((w.alloc (.cells (madeCells #[.nilIface] N) 45)).alloc (.cells C1 54)).alloc (.cells C2 68)) (w.heap.size + 1 + 1) (w.heap.size + 1) w.heap.size N [] [] := by
  have r0 := ((World.rowIs_made w .nilIface N 45).alloc (.cells C1 54)).alloc (.cells C2 68)
  have r1 := (World.rowIs_alloc (w.alloc (.cells (madeCells #[.nilIface] N) 45)) C1 54 _ (array_at C1)).alloc (.cells C2 68)
  have r2 := World.rowIs_alloc ((w.alloc (.cells (madeCells #[.nilIface] N) 45)).alloc (.cells C1 54)) C2 68 _ (array_at C2)
  have e1 : (w.alloc (.cells (madeCells #[.nilIface] N) 45)).heap.size = w.heap.size + 1 := by simp
  have e2 : ((w.alloc (.cells (madeCells #[.nilIface] N) 45)).alloc (.cells C1 54)).heap.size = w.heap.size + 1 + 1 := by simp
  rw [e1, h1] at r1
  rw [e2, h2] at r2
  exact ⟨⟨_, r2, h213, h218⟩, ⟨_, r1, h10⟩, r0, fun j v k hj => by simp at hj, fun v k hv => by simp at hv, by simp [Asc], fun v k hv => by simp at hv, by go_grown, by omega, fun v k hv => by simp at hv, hN⟩
theorem info45 : (Try.prog.info? 45).map (fun i => (i.zero, i.size, i.bytes)) = some (some (.nilIface), 1, 16) := by kernel_rfl
theorem state_new (N : Nat) (w : World) (hN : N ≤ 65536) :
    Calls Try.prog 20 #[.int .i64 N] w fun e w' => ∃ L r g, e = .returned (.pointer (some ⟨L, 0, none⟩)) ∧ St w w' L r g N [] [] := by
  have hmk := run_make_row' (P := Try.prog) 49 45 .nilIface 16 Try.underlying49 info45 rfl .i64 .i64 N (by omega) (by omega)
  go_enter Try.func20, Try.ntmps20
  go_wp2
  go_ret
  exact ⟨_, _, _, rfl, new_state w N hN _ _ rfl rfl rfl rfl rfl⟩
/-! ### A script of lookups -/
structure Built (w0 w : World) (L r g N : Nat) (us : Nodes) (n : Nat) (z : Nat → Int) (gb : Nat) (G : Nat → Nat) : Prop where
  st : St w0 w L r g N us []
  row : w.rowIs gb 31 n (fun i => .pointer (some ⟨G i, 0, none⟩))
  mem : ∀ i, i < n → (G i, z i) ∈ us
  snd : us.map Prod.snd = insAll [] (zl z n)
  lgb : w0.heap.size ≤ gb
  hz : InRange n z
  hN : ∀ i, i < n → z i < N
theorem info31 : (Try.prog.info? 31).map (fun i => (i.zero, i.size, i.bytes)) = some (some (.pointer none), 1, 8) := by kernel_rfl
theorem found_row {w0 w w' : World} {L r g N b n : Nat} {us ds : Nodes} {f : Nat → Value} (h : St w0 w L r g N us ds) (hr : w.rowIs b 31 n f) (hf : Fr (Wr L us) w w') : w'.rowIs b 31 n f := hf.row hr (h.other hr (by decide) (by decide))
def BuiltE (w0 : World) (ex : Int) (n : Nat) (z : Nat → Int) (e : Ending) (w' : World) : Prop := ∃ L r g N us gb G, e = .returned (.tuple #[.pointer (some ⟨L, 0, none⟩), .slice (some ⟨gb, 0, none⟩) n n]) ∧ Built w0 w' L r g N us n z gb G ∧ ex < (N : Int)
set_option maxHeartbeats 1000000 in
theorem build_ok (A : Option Addr) (n c : Nat) (z : Nat → Int) (ex : Int) (w : World) (ha : Arr w A n c (fun i => .int .i64 (z i))) (hn : n ≤ 65536) (hz : InRange n z) (h0 : 0 ≤ ex) (h1 : ex < 65536) :
    Calls Try.prog 10 #[.slice A n c, .int .i64 ex] w (BuiltE w ex n z) := by
  have hmk := run_make_row' (P := Try.prog) 26 31 (.pointer none) 8 Try.underlying26 info31 rfl .i64 .i64 n (by omega) (by omega)
  have cs := size_ok A n c z ex w ha hn hz h0 h1
  have HA := Lib.hid ha
  have HZ := Lib.hid hz
  clear hz ha
  go_enter Try.func10, Try.ntmps10
  go_wp2_with fail
  refine cs.mono ?_
  rintro e w' ⟨N, rfl, rfl, n1, n2, n3⟩
  have HN3 := Lib.hid n3
  clear n3 cs
  go_wp2_with fail
  refine (state_new N w n1).mono ?_
  rintro e w1 ⟨L, r, g, rfl, s1⟩
  have hb0 := s1.bel.size
  have S1 := Lib.hid s1
  clear s1
  go_wp2
  have S2 : Hid (St w (w1.alloc (Obj.cells (madeCells #[Value.pointer none] n) 31)) L r g N [] [] ∧ (w1.alloc (Obj.cells (madeCells #[Value.pointer none] n) 31)).rowIs w1.heap.size 31 n (fun _ => .pointer none)) := Lib.hid ⟨S1.out.below (by go_grown), World.rowIs_made w1 _ n 31⟩
  clear hmk
  go_loopw [8] (fun v8 wr => ∃ (k : Nat) (us : Nodes) (G : Nat → Nat), k ≤ n ∧ v8 = .int .i64 k ∧ Hid (St w wr L r g N us [] ∧ wr.rowIs w1.heap.size 31 n (fun i => .pointer (if i < k then some ⟨G i, 0, none⟩ else none)) ∧ (∀ i, i < k → (G i, z i) ∈ us) ∧ us.map Prod.snd = insAll [] (zl z k))) (fun v8 _ => n - (intOf v8).toNat)
  case atStart => exact ⟨0, [], fun _ => 0, Nat.zero_le _, rfl, Lib.hid ⟨S2.out.1, S2.out.2.congr (fun i hi => by simp), fun i hi => by omega, rfl⟩⟩
  case round =>
    clear S2
    obtain ⟨k, us, G, hk, rfl, hh⟩ := hrel
    have HH := Lib.hid hh.out
    clear hh
    by_cases hkn : k < n
    · obtain ⟨b, off, hx, hlt, hc⟩ := (HA.out.below HH.out.1.bel).at_ hkn
      subst hx
      obtain ⟨v, hv⟩ : ∃ v, z k = v := ⟨_, rfl⟩
      have hv0 := (HZ.out k hkn).1
      have hvN := HN3.out k hkn
      rw [hv] at hc hv0 hvN
      have HV := Lib.hid hv
      have cf := uv_find13 HH.out.1 hv0 hvN
      clear hv
      go_wp2_with fail
      refine cf.mono ?_
      rintro e w2 hF
      obtain ⟨u, us', rfl, s2, fr2, hor⟩ := hF
      have r2 := found_row HH.out.1 HH.out.2.1 fr2
      have c2 := r2.cell hkn
      simp only [Nat.lt_irrefl, if_false] at c2
      have c3 := r2.frozen k
      have lt2 := r2.lt
      have KK : Hid (St w (w2.setCell ⟨w1.heap.size, k, none⟩ (.pointer (some ⟨u, 0, none⟩))) L r g N us' [] ∧ (w2.setCell ⟨w1.heap.size, k, none⟩ (.pointer (some ⟨u, 0, none⟩))).rowIs w1.heap.size 31 n (fun i => .pointer (if i < k + 1 then some ⟨(fun i => if i = k then u else G i) i, 0, none⟩ else none)) ∧ (∀ i, i < k + 1 → ((fun i => if i = k then u else G i) i, z i) ∈ us') ∧ us'.map Prod.snd = insAll [] (zl z (k + 1))) := Lib.hid (by
        have hmem : (u, v) ∈ us' ∧ ∀ x, x ∈ us → x ∈ us' := by
          rcases hor with ⟨_, rfl, h3⟩ | ⟨i, _, rfl, _⟩
          · exact ⟨h3, fun x hx => hx⟩
          · exact ⟨put_mem.2 (.inl rfl), fun x hx => put_mem.2 (.inr hx)⟩
        refine ⟨s2.fr (Fr.setCell (o := fun x => x = w1.heap.size) (Fr.refl _ w2) (p := ⟨w1.heap.size, k, none⟩) (.inl rfl) _) (fun x hx => by subst hx; exact hb0) (fun x hx => .inr (by subst hx; exact ⟨_, _, _, r2, by decide, by decide, by decide, by decide⟩)), (r2.set k _).congr (fun i hi => ?_), fun i hi => ?_, ?_⟩
        · by_cases e1 : i = k
          · subst e1; simp
          · by_cases e2 : i < k
            · simp [e1, e2, show i < k + 1 by omega]
            · simp [e1, e2, show ¬ i < k + 1 by omega]
        · by_cases e1 : i = k
          · subst e1; simp only [if_true]; rw [HV.out]; exact hmem.1
          · simp only [e1, if_false]; exact hmem.2 _ (HH.out.2.2.1 i (by omega))
        · rw [zl_succ, HV.out, insAll_snoc, ← HH.out.2.2.2]
          rcases hor with ⟨_, rfl, h3⟩ | ⟨i, _, _, _, h4, _⟩
          · exact (ins_of_mem HH.out.1.asc (List.mem_map.2 ⟨_, h3, rfl⟩)).symm
          · exact h4)
      clear hor s2 fr2 r2 cf hc HH
      go_wp2
      go_roundw
      case rel => exact ⟨k + 1, us', _, by omega, by go_num, KK⟩
      case measure => simp [intOf]; omega
    · obtain rfl : k = n := by omega
      go_wp2
      go_ret2
      exact ⟨L, r, g, N, us, w1.heap.size, G, rfl, ⟨HH.out.1, HH.out.2.1.congr (fun i hi => by simp [hi]), HH.out.2.2.1, HH.out.2.2.2, hb0, HZ.out, HN3.out⟩, n2⟩
/-! ### The comparison with the cache -/
theorem quiet_left {P : Program} {f : FuncId} {args : Array Value} {w : World} {n : Nat} {v : Value}
    (h : Calls P f args (w.drewN n) fun e w' => e = .returned v ∧ w.drewN n = w') : Calls P f args (w.drewN n) fun e w'' => e = .returned v ∧ ∃ m, w'' = w.drewN m :=
  h.mono fun _ _ ⟨he, hm⟩ => ⟨he, n, hm.symm⟩
theorem cache_ok {w0 w : World} {L r g N : Nat} {us ds : Nodes} (h : St w0 w L r g N us ds) (b n cap : Nat) (hn : n = us.length) (hn2 : n ≤ 65536) (hc : ∀ (i u : Nat) (k : Int), us[i]? = some (u, k) → w.cell? ⟨b, i, none⟩ = some (.int .i64 k)) :
    Calls Try.prog 12 #[.pointer (some ⟨L, 0, none⟩), .slice (some ⟨b, 0, none⟩) n cap] w fun e w' => e = .returned (.bool true) ∧ ∃ m, w' = w.drewN m := by
  have H := Lib.hid h
  have HC := Lib.hid hc
  have HN := Lib.hid hn
  have cf := uv_first h.ls
  clear h hc hn
  go_enter Try.func12, Try.ntmps12
  go_wp2_with fail
  refine cf.mono ?_
  rintro e w' ⟨rfl, rfl⟩
  clear cf
  go_wp2
  go_loopg [5, 6] n (fun gk p q wr => ∃ i, i + gk = n ∧ p = .pointer (ad (pt us i)) ∧ q = .int .i64 i ∧ Hid (∃ m, wr = w.drewN m))
  case atStart => exact ⟨0, by omega, by first | rfl | simp, by first | rfl | simp, Lib.hid ⟨0, rfl⟩⟩
  case round =>
    obtain ⟨i, hi, rfl, rfl, hw⟩ := hrel
    have HW := Lib.hid hw.out
    clear hw
    rcases hx : us[i]? with _ | ⟨u, k⟩
    · have hil : us.length ≤ i := List.getElem?_eq_none_iff.1 hx
      rw [← HN.out] at hil
      obtain rfl : i = n := by omega
      rw [pt_none hx]
      clear hx
      simp only [ad, Option.map_none]
      have e1 : ((i : Int) == (i : Int)) = true := by simp
      go_wp2
      go_ret
      exact ⟨rfl, HW.out⟩
    · have hil : i < us.length := (List.getElem?_eq_some_iff.1 hx).1
      rw [← HN.out] at hil
      have c0 : wr.cell? ⟨b, i, none⟩ = some (.int .i64 k) := by
        obtain ⟨m, rfl⟩ := HW.out
        exact HC.out i u k hx
      have nd : ND wr u (pt us (i + 1)) r k false := by
        obtain ⟨m, rfl⟩ := HW.out
        exact H.out.nodes i u k hx
      have ND1 := Lib.hid nd
      have e1 : (k != k) = false := by simp
      rw [pt_some hx]
      simp only [ad, Option.map_some]
      clear hx nd
      go_wp2
      go_quiet ((first | (go_at_call 14; exact quiet_left (uv_index (World.rowIs.of_block ND1.out rfl))) | (go_at_call 15; exact quiet_left (uv_closed (World.rowIs.of_block ND1.out rfl)))))
      go_wp2_with fail
      refine (uv_next (w := wr.drewN _) (World.rowIs.of_block ND1.out rfl)).mono ?_
      rintro e w3 ⟨rfl, rfl⟩
      go_wp2
      go_roundg (n - (i + 1))
      case measure => omega
      case rel => exact ⟨i + 1, by omega, rfl, by go_num, Lib.hid (by obtain ⟨m, rfl⟩ := HW.out; exact ⟨_, World.drewN_drewN _ _ _⟩)⟩
end Go.Proofs.Ytmmjeohpolfopaa
