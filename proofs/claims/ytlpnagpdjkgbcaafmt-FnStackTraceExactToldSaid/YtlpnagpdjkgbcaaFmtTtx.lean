/- The law's model of the traceback, walked: printed by our program wip/mkttx.py. -/
import Derived.Test.YtlpnagpdjkgbcaaFmtTra
import Derived.Test.YtlpnagpdjkgbcaaFmtMod
import Derived.Test.YtlpnagpdjkgbcaaFmtCnt
namespace Go.Proofs.YtlpnagpdjkgbcaaFmt
set_option linter.unusedVariables false
open Go.RowKit Go.ChangeShapes Go.Deep Go.Extern.Stop Go.Stop Go.Extern Go.Kit
theorem slice63l (W : World) (g o a m cap : Nat) (la : Int) (hla : la = a) (ha : a ≤ m) :
    (Instr.sliceAt 63 (.slice (some ⟨g, o, none⟩) m cap) (some (.int .i64 la)) none none).run Tryf.prog W = .ok (.slice (some ⟨g, offA o a cap, none⟩) (m - a) (cap - a)) W := by
  subst hla
  rw [run_sliceAt_slice (h := elem63), run_slice_l (ht := elem63) (h0 := by omega) (h1 := by omega), size63]
  simp only [Result.andThen_ok, sliced, Int.toNat_natCast, Nat.mul_one]
  unfold offA
  split
  · rfl
  · simp [Addr.add]
theorem join_snoc (xs : List (List UInt8)) (x : List UInt8) : Lib.join (xs ++ [x]) [10] = if xs = [] then x else Lib.join xs [10] ++ 10 :: x := by
  cases xs with
  | nil => rw [List.nil_append, Lib.join_one, if_pos rfl]
  | cons y r => rw [if_neg (by simp), List.cons_append, Lib.join_cons, Lib.join_cons]; simp [Lib.joinTail]
/-- The text behind the first i lines of a list. -/
def OT (ls : List (List UInt8)) (i : Nat) : List UInt8 := headT ++ [10] ++ Lib.join (ls.take i) [10]
theorem OT_zero (ls : List (List UInt8)) : OT ls 0 = headT ++ [10] := by simp [OT, Lib.join_nil]
theorem OT_one {ls : List (List UInt8)} {x : List UInt8} (h : ls[0]? = some x) : OT ls 1 = OT ls 0 ++ x := by
  rw [OT_zero, OT, List.take_add_one, h]
  simp [Lib.join_one]
theorem OT_succ {ls : List (List UInt8)} {x : List UInt8} {i : Nat} (hi : 0 < i) (h : ls[i]? = some x) : OT ls (i + 1) = OT ls i ++ 10 :: x := by
  have hl := (List.getElem?_eq_some_iff.1 h).1
  rw [OT, List.take_add_one, h, Option.toList_some, join_snoc, if_neg (by
    intro e
    have : (ls.take i).length = 0 := by rw [e]; rfl
    rw [List.length_take] at this
    omega)]
  simp [OT]
theorem OT_len {ls : List (List UInt8)} (h : ∀ x ∈ ls, x.length ≤ 1200000) {i : Nat} (hi : i ≤ 20) : (OT ls i).length ≤ 50000000 := by
  have hj := join_len (ls.take i) (fun x hx => by have := h x (List.mem_of_mem_take hx); omega)
  have : (ls.take i).length ≤ i := by rw [List.length_take]; omega
  have : headT.length = 16 := rfl
  simp only [OT, List.length_append, List.length_cons, List.length_nil]
  omega
theorem OT_all (ls : List (List UInt8)) : OT ls ls.length = headT ++ [10] ++ Lib.join ls [10] := by rw [OT, List.take_length]
/-- A string that holds the text so far, one line more. -/
theorem ot_one {ls : List (List UInt8)} {x : List UInt8} {S : ByteArray} (hS : S = ⟨(OT ls 0).toArray⟩) (h : ls[0]? = some x) : S ++ ⟨x.toArray⟩ = ⟨(OT ls 1).toArray⟩ := by
  subst hS
  refine bytes_ext ?_
  rw [OT_one h]
  simp [ByteArray.data_append]
theorem ot_succ {ls : List (List UInt8)} {x : List UInt8} {i : Nat} {S : ByteArray} (hS : S = ⟨(OT ls i).toArray⟩) (hi : 0 < i) (h : ls[i]? = some x) : S ++ ⟨#[10]⟩ ++ ⟨x.toArray⟩ = ⟨(OT ls (i + 1)).toArray⟩ := by
  subst hS
  refine bytes_ext ?_
  rw [OT_succ hi h]
  simp [ByteArray.data_append]
theorem ot_succ' {ls : List (List UInt8)} {x : List UInt8} {i : Nat} {S : ByteArray} (hS : S = ⟨(OT ls i).toArray⟩) (hi : 0 < i) (h : ls[i]? = some x) : S ++ (⟨#[10]⟩ ++ ⟨x.toArray⟩) = ⟨(OT ls (i + 1)).toArray⟩ := by
  rw [← ot_succ hS hi h]
  refine bytes_ext ?_
  simp [ByteArray.data_append]
theorem ot_dot {ls : List (List UInt8)} {i : Nat} {S : ByteArray} (hS : S = ⟨(OT ls i).toArray⟩) (hi : 0 < i) (h : ls[i]? = some dotT) : S ++ ⟨#[10, 9, 46, 46, 46]⟩ = ⟨(OT ls (i + 1)).toArray⟩ := by
  subst hS
  refine bytes_ext ?_
  rw [OT_succ hi h]
  simp [ByteArray.data_append, dotT]
theorem ot_size {ls : List (List UInt8)} {i : Nat} {S : ByteArray} (hS : S = ⟨(OT ls i).toArray⟩) (h : ∀ x ∈ ls, x.length ≤ 1200000) (hi : i ≤ 20) : S.size ≤ 50000000 := by
  rw [hS]
  exact OT_len h hi
/-- The lines that are shown, where some are left out. -/
theorem cut_low {ls : List (List UInt8)} (hl : 20 < ls.length) {i : Nat} (hi : i < 7) : (cutT ls)[i]? = ls[i]? := by
  rw [cutT, if_pos hl, List.getElem?_append_left (by rw [List.length_take]; omega), List.getElem?_take_of_lt hi]
theorem cut_mid {ls : List (List UInt8)} (hl : 20 < ls.length) : (cutT ls)[7]? = some dotT := by
  rw [cutT, if_pos hl, List.getElem?_append_right (by rw [List.length_take]; omega), List.length_take]
  simp [show min 7 ls.length = 7 by omega]
theorem cut_high {ls : List (List UInt8)} (hl : 20 < ls.length) {r : Nat} : (cutT ls)[8 + r]? = ls[ls.length - 7 + r]? := by
  rw [cutT, if_pos hl, List.getElem?_append_right (by rw [List.length_take]; omega), List.length_take, show 8 + r - min 7 ls.length = r + 1 by omega, List.getElem?_cons_succ, List.getElem?_drop]
theorem cut_size {ls : List (List UInt8)} (hl : 20 < ls.length) : (cutT ls).length = 15 := by
  rw [cutT, if_pos hl, List.length_append, List.length_cons, List.length_take, List.length_drop]
  omega
theorem ent_app (z : Nat → FR) (src : ByteArray) (ld : Int) (child : Bool) (k : Nat) : Value.string ((⟨#[9]⟩ : ByteArray) ++ ⟨(wtext (z k) src).toArray⟩ ++ ⟨#[32, 105, 110, 32]⟩ ++ ⟨(fmtT z src ld child k).toArray⟩) = sv (entT z src ld child k) :=
  congrArg Value.string (bytes_ext (by simp [ByteArray.data_append, entT]))
set_option maxRecDepth 100000 in
set_option maxHeartbeats 16000000 in
theorem text11 (A : Option Addr) (n c : Nat) (z : Nat → FR) (src : ByteArray) (ld : Int) (child : Bool) (lv : Int) (w : World) (ha : Fms w A n c z) (ok : FOK n z src) (hl : ∀ i, i < n → (Lit.int .i64 (z i).line).wf = true) (hld : (Lit.int .i64 ld).wf = true) (hlv : -9223372036854775808 ≤ lv ∧ lv ≤ 9223372036854775807) :
    Calls Tryf.prog 11 #[.slice A n c, .string src, .int .i64 ld, .bool child, .int .i64 lv] w (WPost (traceT z src ld child n lv) w) := by
  obtain ⟨hlv1, hlv2⟩ := hlv
  have hs := ok.hs
  have hn := ok.hn
  have c15 := count15 A n c z src w ha ok
  obtain ⟨T, hT⟩ : ∃ T : Nat, 1 + (n : Int) + ts z n = (T : Int) := ⟨(1 + (n : Int) + ts z n).toNat, by have := ts_nonneg ok.tail (Nat.le_refl n); omega⟩
  have hT2 : T ≤ 70000 := by have := ok.sum; omega
  rw [hT] at c15
  obtain ⟨C, hC, hmk0⟩ := or_make (P := Tryf.prog) 63 9 (.string ⟨#[]⟩) 16 Tryf.underlying63 info9 rfl T (by omega) (by omega)
  have hmk : ∀ W : World, (Instr.makeSlice 63 (.int .i64 0) (.int .i64 (T : Int))).run Tryf.prog W = .ok (.slice (some ⟨W.heap.size, 0, none⟩) 0 T) (W.alloc (.cells C 9)) := hmk0
  have HA := Lib.hid ha
  have OK := Lib.hid ok
  have HL := Lib.hid hl
  have HLD := Lib.hid hld
  have HC := Lib.hid hC
  clear ha ok hl hld hT hmk0 hC
  go_enter Tryf.func11, Tryf.ntmps11
  go_wp2_with fail
  refine c15.mono ?_
  clear c15
  rintro e w1 ⟨rfl, hb⟩
  have R0 := Lib.hid (LR.made w w1 hb C T HC.out (by omega))
  clear hb
  go_wp2
  clear hmk
  go_loopw [12, 13] (fun v12 v13 wr => ∃ (j g m cap : Nat), j ≤ n ∧ v12 = .slice (some ⟨g, 0, none⟩) m cap ∧ v13 = .int .i64 ((j : Int) - 1) ∧ m ≤ 69632 ∧ Hid (LR w wr g m cap ((linesT z src ld child n (n - j)).map sv))) (fun _ v13 _ => (intOf v13 + 1).toNat)
  case atStart => exact ⟨n, _, 0, _, Nat.le_refl _, rfl, rfl, by omega, by rw [Nat.sub_self]; exact R0⟩
  case round =>
    clear R0
    obtain ⟨j, g, m, cap, hj, rfl, rfl, hm, HR⟩ := hrel
    cases j with
    | succ j =>
      have hj1 : ((j + 1 : Nat) : Int) - 1 = (j : Int) := by omega
      rw [hj1]
      clear hj1
      have hjn : j < n := by omega
      have e1 : n - j = n - (j + 1) + 1 := by omega
      have e2 : n - 1 - (n - (j + 1)) = j := by omega
      obtain ⟨D, hD⟩ : ∃ D, n - (j + 1) = D := ⟨_, rfl⟩
      rw [hD] at HR e1 e2
      have hlen : (m : Int) + 1 + zt (z j) ≤ 69632 := by
        have h1 := linesT_len (z := z) (src := src) (ld := ld) (child := child) OK.out.tail (d := D) (by omega)
        have h2 := HR.out.len
        rw [List.length_map] at h2
        have h3 := pz_le OK.out (j := j) (by omega)
        rw [pz_step, ← show n - D = j + 1 by omega, ← h1, h2] at h3
        exact h3
      have hz1 := (OK.out.tail j hjn).1
      have E1 := Lib.hid e1
      have E2 := Lib.hid e2
      clear e1 e2 hD
      obtain ⟨b, off, hx, hlt, c0, c1, c2, c3, c4⟩ := HA.out.at_ hjn
      have HCS : Hid (w.cell? ⟨b, off + j * 5, none⟩ = some (.bool (z j).g) ∧ w.cell? ⟨b, off + j * 5 + 1, none⟩ = some (.int .i64 (z j).line) ∧ w.cell? ⟨b, off + j * 5 + 2, none⟩ = some (.int .i64 (z j).tail) ∧ w.cell? ⟨b, off + j * 5 + 3, none⟩ = some (.string (z j).name) ∧ w.cell? ⟨b, off + j * 5 + 4, none⟩ = some (.int .i64 (z j).pc)) := Lib.hid ⟨c0, c1, c2, c3, c4⟩
      clear c0 c1 c2 c3 c4
      subst hx
      have c23 := text23 _ n c j z src wr (HA.out.below HR.out.bel) hjn hs (HL.out j hjn)
      obtain ⟨S1, hS1⟩ : ∃ S1 : ByteArray, (⟨(wtext (z j) src).toArray⟩ : ByteArray) = S1 := ⟨_, rfl⟩
      unfold WPost at c23
      rw [hS1] at c23
      have z1 : S1.size ≤ 70000 := by rw [← hS1]; exact wtext_len OK.out hjn (HL.out j hjn)
      have q1 : ¬ 9223372036854775807 < 1 + S1.size := by omega
      have q2 : ¬ 9223372036854775807 < 1 + S1.size + 4 := by omega
      go_wp2_with fail
      refine c23.mono ?_
      clear c23
      rintro e w1 ⟨rfl, hb1⟩
      have HR1 := Lib.hid (HR.out.below hb1)
      clear hb1
      have c24 := fmt24 _ n c z src ld child w1 (HA.out.below HR1.out.bel) OK.out HLD.out hjn (j : Int) rfl
      obtain ⟨S2, hS2⟩ : ∃ S2 : ByteArray, (⟨(fmtT z src ld child j).toArray⟩ : ByteArray) = S2 := ⟨_, rfl⟩
      unfold WPost at c24
      rw [hS2] at c24
      have z2 : S2.size ≤ 1048587 := by rw [← hS2]; exact fmtT_len (child := child) OK.out HLD.out hjn
      have q3 : ¬ 9223372036854775807 < 1 + S1.size + 4 + S2.size := by omega
      have HE : Hid (Value.string ((⟨#[9]⟩ : ByteArray) ++ S1 ++ ⟨#[32, 105, 110, 32]⟩ ++ S2) = sv (entT z src ld child j)) := Lib.hid (by rw [← hS1, ← hS2]; exact ent_app z src ld child j)
      clear hS1 hS2
      go_wp2_with fail
      refine c24.mono ?_
      clear c24
      rintro e w2 ⟨rfl, hb2⟩
      have HR2 := Lib.hid (HR1.out.below hb2)
      clear hb2
      go_wp2_with (at_builtin; refine wpList_push1 (LR.below HR2.out (by go_grown)) rfl (.tmp 33) (.tmp 47) rfl rfl _ ((⟨#[9]⟩ : ByteArray) ++ S1 ++ ⟨#[32, 105, 110, 32]⟩ ++ S2) rfl (by go_simp) (m + 1) rfl (by omega) ?_; intro g3 cap3 w3 r3 _ _; have HR3 := Lib.hid r3; have qq := Kp.of_below (B := 0) r3.bel; obtain ⟨c0, c1, c2, c3, c4⟩ := HCS.out; replace c0 := qq _ _ (Nat.zero_le _) c0; replace c1 := qq _ _ (Nat.zero_le _) c1; replace c2 := qq _ _ (Nat.zero_le _) c2; replace c3 := qq _ _ (Nat.zero_le _) c3; replace c4 := qq _ _ (Nat.zero_le _) c4; clear r3 qq)
      refine (tail19 (z j) w3).mono ?_
      rintro e w4 ⟨rfl, rfl⟩
      have HR4 := Lib.hid (HR3.out.below (below_one (Below.refl _ _) (.cells #[.bool (z j).g, .int .i64 (z j).line, .int .i64 (z j).tail, .string (z j).name, .int .i64 (z j).pc] 36)))
      clear c0 c1 c2 c3 c4 HR3
      generalize (w3.alloc (.cells #[.bool (z j).g, .int .i64 (z j).line, .int .i64 (z j).tail, .string (z j).name, .int .i64 (z j).pc] 36)) = W4 at *
      obtain ⟨TT, hTT⟩ : ∃ TT, zt (z j) = TT := ⟨_, rfl⟩
      have HTT := Lib.hid hTT
      rw [hTT] at hlen hz1
      rw [hTT]
      clear hTT
      go_wp2
      go_loopw [12, 15] (fun v12 v15 wi => ∃ (r g' m' cap' : Nat), v15 = .int .i64 r ∧ (r : Int) ≤ TT ∧ v12 = .slice (some ⟨g', 0, none⟩) m' cap' ∧ m' = m + 1 + r ∧ Hid (LR w wi g' m' cap' ((linesT z src ld child n D).map sv ++ [sv (entT z src ld child j)] ++ List.replicate r (sv tcT)))) (fun _ v15 _ => (TT - intOf v15).toNat)
      case atStart => exact ⟨0, g3, m + 1, cap3, rfl, by omega, rfl, by omega, Lib.hid (by have h4 := HR4.out; rw [HE.out] at h4; simpa using h4)⟩
      case round =>
        clear HR4
        obtain ⟨r, g', m', cap', rfl, hr, rfl, rfl, HRi⟩ := hrel
        by_cases hrt : (r : Int) < TT
        · have hmm : m + 1 + r + 1 ≤ 1000000 := by omega
          have hcs : Value.string ⟨#[9, 40, 116, 97, 105, 108, 99, 97, 108, 108, 41, 58, 32, 63]⟩ = sv tcT := rfl
          have HCS2 := Lib.hid hcs
          clear hcs
          go_wp2_with (at_builtin; refine wpList_push1 (LR.below HRi.out (by go_grown)) rfl (.tmp 59) (.tmp 60) rfl rfl _ ⟨#[9, 40, 116, 97, 105, 108, 99, 97, 108, 108, 41, 58, 32, 63]⟩ rfl (by go_simp) (m + 1 + r + 1) rfl hmm ?_; intro g5 cap5 w5 r5 _ _; have HR5 := Lib.hid r5; clear r5)
          go_roundw
          case rel => exact ⟨r + 1, g5, m + 1 + r + 1, cap5, by go_num, by omega, rfl, by omega, Lib.hid (by
              have h5 := HR5.out
              rw [HCS2.out, List.append_assoc, ← List.replicate_succ'] at h5
              exact h5)⟩
          case measure => simp [intOf]; omega
        · have hre : (r : Int) = TT := by omega
          have HRE := Lib.hid hre
          clear hre
          go_wp2
          go_roundw
          case rel => exact ⟨j, g', m + 1 + r, cap', by omega, rfl, by go_num, by omega, Lib.hid (by
              have e : linesT z src ld child n (n - j) = linesT z src ld child n D ++ entT z src ld child j :: List.replicate r tcT := by rw [E1.out, linesT, E2.out, HTT.out, ← HRE.out]; rfl
              have h4 := HRi.out
              rw [e, List.map_append]
              simpa using h4)⟩
          case measure => simp [intOf]; try omega
    | zero =>
      have hj0 : ((0 : Nat) : Int) - 1 = -1 := by omega
      rw [hj0]
      clear hj0
      rw [Nat.sub_zero] at HR
      obtain ⟨M, hM⟩ : ∃ M, m + 1 = M := ⟨_, rfl⟩
      have hMb : M ≤ 1000000 := by omega
      obtain ⟨all, hall⟩ : ∃ all, linesT z src ld child n n ++ [gT] = all := ⟨_, rfl⟩
      have HM : Hid (M = all.length) := Lib.hid (by rw [← hall, ← hM, List.length_append, ← HR.out.len, List.length_map]; rfl)
      have HAL : Hid (∀ x ∈ all, x.length ≤ 1200000) := Lib.hid (by
        rw [← hall]
        intro x hx
        rcases List.mem_append.1 hx with h1 | h1
        · exact lines_le OK.out HLD.out HL.out (Nat.le_refl _) x h1
        · simp at h1; subst h1; decide)
      have HALL := Lib.hid hall.symm
      have HMM := Lib.hid hM
      clear hall hM
      rcases (by omega : lv < 0 ∨ (0 ≤ lv ∧ lv ≤ (M : Int)) ∨ (M : Int) < lv) with g0 | g0 | g0
      · have g1' : ¬ (M : Int) < 0 := by omega
        have HAM : Hid (0 ≤ M) := Lib.hid (by omega)
        have HA : Hid (clampT lv all.length = 0) := Lib.hid (by rw [clampT, ← HM.out]; omega)
        obtain ⟨L, hL⟩ : ∃ L, M - 0 = L := ⟨_, rfl⟩
        have HLL := Lib.hid hL
        have HX : Hid ((all.drop (0)).length = L) := Lib.hid (by rw [List.length_drop, ← HM.out, hL])
        have HXL := Lib.hid (take_len HAL.out (0))
        obtain ⟨rest, hrest⟩ : ∃ rest, all.drop (0) = rest := ⟨_, rfl⟩
        have HTR : Hid (traceT z src ld child n lv = headT ++ [10] ++ Lib.join (cutT rest) [10]) := Lib.hid (by rw [traceT, ← HALL.out, HA.out, hrest])
        rw [hrest] at HX HXL
        have HREST := Lib.hid hrest
        have hLM : L ≤ M := by omega
        clear hL hrest
        by_cases hL20 : 20 < L
        · have hL21 : 20 < (L : Int) := by omega
          have HXX := Lib.hid (show 20 < rest.length by rw [HX.out]; exact hL20)
          have HCL := Lib.hid (cutT_len HXL.out)
          have HTE : Hid (OT (cutT rest) 15 = traceT z src ld child n lv) := Lib.hid (by rw [HTR.out, ← OT_all, cut_size HXX.out])
          go_wp2_with (at_builtin; refine wpList_push1 (LR.below HR.out (by go_grown)) rfl (.tmp 62) (.tmp 63) rfl rfl _ ⟨#[9, 91, 71, 93, 58, 32, 63]⟩ rfl (by go_simp) M HMM.out hMb ?_; intro g1 cap1 w1 r1 _ _; have HR0 := Lib.hid (show LR w w1 g1 M cap1 (all.map sv) from by (have e : ((linesT z src ld child n n).map sv ++ [Value.string ⟨#[9, 91, 71, 93, 58, 32, 63]⟩]) = all.map sv := by rw [HALL.out, List.map_append]; rfl); rw [← e]; exact r1); have hcap := HR0.out.cap_; obtain ⟨O, hO⟩ : ∃ O, offA 0 0 cap1 = O := ⟨_, rfl⟩; obtain ⟨C1, hC1⟩ : ∃ C1, cap1 - 0 = C1 := ⟨_, rfl⟩; have hs1 := fun W => slice63l W g1 0 0 M cap1 0 rfl HAM.out; rw [hO, HLL.out, hC1] at hs1; have HO := Lib.hid hO; clear r1 hO hC1)
          have K1 : Hid (∀ (t : Nat) x, rest[t]? = some x → w1.cell? ⟨g1, O + t, none⟩ = some (.string ⟨x.toArray⟩)) := Lib.hid (fun t x hx => by
            have hj := (List.getElem?_eq_some_iff.1 hx).1
            rw [HX.out, ← HLL.out] at hj
            have e : O = 0 := by rw [← HO.out, offA, if_neg (by omega), Nat.zero_add]
            rw [e]
            rw [← HREST.out, List.getElem?_drop] at hx
            exact HR0.out.at_ (by rw [List.getElem?_map, hx]; rfl))
          have HB1 := Lib.hid HR0.out.bel
          clear HR0 HR HREST HO hcap HALL HMM HM HAL HA HAM HLL hs1
          go_loop [18, 19] (fun v18 v19 => ∃ (t : Nat) (S : ByteArray), t ≤ 7 ∧ v19 = .int .i64 t ∧ v18 = .string S ∧ Hid (S = ⟨(OT (cutT rest) t).toArray⟩)) (fun _ v => 7 - (intOf v).toNat)
          case atStart => exact ⟨0, _, by omega, rfl, rfl, Lib.hid (by rw [OT_zero]; rfl)⟩
          case round =>
            obtain ⟨t, S, ht, rfl, rfl, HS⟩ := hrel
            have sz := ot_size HS.out HCL.out (by omega)
            by_cases ht7 : t < 7
            · obtain ⟨x, hx⟩ : ∃ x, rest[t]? = some x := ⟨_, List.getElem?_eq_getElem (by rw [HX.out]; omega)⟩
              have hc := K1.out t x hx
              have sx : (⟨x.toArray⟩ : ByteArray).size ≤ 1200000 := HXL.out x (List.mem_of_getElem? hx)
              have HCX := Lib.hid ((cut_low HXX.out ht7).trans hx)
              have htL : t < L := by omega
              obtain ⟨X, hX⟩ : ∃ X : ByteArray, (⟨x.toArray⟩ : ByteArray) = X := ⟨_, rfl⟩
              rw [hX] at hc sx
              have HXX2 := Lib.hid hX
              clear hx hX
              cases t with
              | zero =>
                rw [Nat.add_zero] at hc
                have q1 : ¬ 9223372036854775807 < S.size + X.size := by omega
                go_wp2
                go_round
                case rel => exact ⟨1, _, by omega, by go_num, rfl, Lib.hid (by rw [← HXX2.out]; exact ot_one HS.out HCX.out)⟩
                case measure => simp [intOf]
              | succ t =>
                have q1 : ¬ 9223372036854775807 < S.size + 1 := by omega
                have q2 : ¬ 9223372036854775807 < S.size + 1 + X.size := by omega
                go_wp2
                go_round
                case rel => exact ⟨t + 1 + 1, _, by omega, by go_num, rfl, Lib.hid (by rw [← HXX2.out]; exact ot_succ HS.out (by omega) HCX.out)⟩
                case measure => simp [intOf]; omega
            · obtain rfl : t = 7 := by omega
              have q1 : ¬ 9223372036854775807 < S.size + 5 := by omega
              have HD := Lib.hid (ot_dot HS.out (by omega) (cut_mid HXX.out))
              go_wp2
              go_loop [18, 20] (fun v18 v20 => ∃ (r : Nat) (S : ByteArray), r ≤ 7 ∧ v20 = .int .i64 ((L : Int) - 7 + r) ∧ v18 = .string S ∧ Hid (S = ⟨(OT (cutT rest) (8 + r)).toArray⟩)) (fun _ v => (L - intOf v).toNat)
              case atStart => exact ⟨0, _, by omega, by simp, rfl, HD⟩
              case round =>
                clear HS HD sz q1
                obtain ⟨r, S2, hr, rfl, rfl, HS⟩ := hrel
                have sz := ot_size HS.out HCL.out (by omega)
                obtain ⟨V, hV⟩ : ∃ V : Int, (L : Int) - 7 + r = V := ⟨_, rfl⟩
                rw [hV]
                by_cases hr7 : r < 7
                · obtain ⟨x, hx⟩ : ∃ x, rest[L - 7 + r]? = some x := ⟨_, List.getElem?_eq_getElem (by rw [HX.out]; omega)⟩
                  have hc := K1.out _ x hx
                  have sx : (⟨x.toArray⟩ : ByteArray).size ≤ 1200000 := HXL.out x (List.mem_of_getElem? hx)
                  have HCX : Hid ((cutT rest)[8 + r]? = some x) := Lib.hid (by rw [cut_high HXX.out, HX.out]; exact hx)
                  obtain ⟨X, hX⟩ : ∃ X : ByteArray, (⟨x.toArray⟩ : ByteArray) = X := ⟨_, rfl⟩
                  rw [hX] at hc sx
                  have HXX2 := Lib.hid hX
                  obtain ⟨N, hN⟩ : ∃ N, L - 7 + r = N := ⟨_, rfl⟩
                  rw [hN] at hc
                  have v1 : V.toNat = N := by omega
                  have v2 : 0 ≤ V := by omega
                  have v3 : V < L := by omega
                  have v5 : V + 1 = (L : Int) - 7 + ((r + 1 : Nat) : Int) := by omega
                  have HV5 := Lib.hid v5
                  clear hx hX hV hN v5
                  have q1 : ¬ 9223372036854775807 < 1 + X.size := by omega
                  have q2 : ¬ 9223372036854775807 < S2.size + (1 + X.size) := by omega
                  go_wp2
                  go_round
                  case rel => exact ⟨r + 1, _, by omega, by (first | (rw [← HV5.out]; done) | (rw [← HV5.out]; rfl) | (rw [← HV5.out]; go_num)), rfl, Lib.hid (by rw [← HXX2.out]; exact ot_succ' (i := 8 + r) HS.out (by omega) HCX.out)⟩
                  case measure => simp [intOf]; omega
                · obtain rfl : r = 7 := by omega
                  obtain rfl : V = L := by omega
                  clear hV
                  have HE : Hid (traceT z src ld child n lv = OT (cutT rest) (8 + 7)) := Lib.hid HTE.out.symm
                  go_wp2
                  go_ret
                  exact ⟨by rw [HE.out, ← HS.out]; rfl, HB1.out⟩
        · have hL20i : ¬ 20 < (L : Int) := by omega
          have HTE : Hid (OT rest L = traceT z src ld child n lv) := Lib.hid (by rw [HTR.out, cutT, if_neg (by rw [HX.out]; exact hL20), ← OT_all, HX.out])
          go_wp2_with (at_builtin; refine wpList_push1 (LR.below HR.out (by go_grown)) rfl (.tmp 62) (.tmp 63) rfl rfl _ ⟨#[9, 91, 71, 93, 58, 32, 63]⟩ rfl (by go_simp) M HMM.out hMb ?_; intro g1 cap1 w1 r1 _ _; have HR0 := Lib.hid (show LR w w1 g1 M cap1 (all.map sv) from by (have e : ((linesT z src ld child n n).map sv ++ [Value.string ⟨#[9, 91, 71, 93, 58, 32, 63]⟩]) = all.map sv := by rw [HALL.out, List.map_append]; rfl); rw [← e]; exact r1); have hcap := HR0.out.cap_; obtain ⟨O, hO⟩ : ∃ O, offA 0 0 cap1 = O := ⟨_, rfl⟩; obtain ⟨C1, hC1⟩ : ∃ C1, cap1 - 0 = C1 := ⟨_, rfl⟩; have hs1 := fun W => slice63l W g1 0 0 M cap1 0 rfl HAM.out; rw [hO, HLL.out, hC1] at hs1; have HO := Lib.hid hO; clear r1 hO hC1)
          have K1 : Hid (∀ (t : Nat) x, rest[t]? = some x → w1.cell? ⟨g1, O + t, none⟩ = some (.string ⟨x.toArray⟩)) := Lib.hid (fun t x hx => by
            have hj := (List.getElem?_eq_some_iff.1 hx).1
            rw [HX.out, ← HLL.out] at hj
            have e : O = 0 := by rw [← HO.out, offA, if_neg (by omega), Nat.zero_add]
            rw [e]
            rw [← HREST.out, List.getElem?_drop] at hx
            exact HR0.out.at_ (by rw [List.getElem?_map, hx]; rfl))
          have HB1 := Lib.hid HR0.out.bel
          clear HR0 HR HREST HO hcap HALL HMM HM HAL HA HAM HLL hs1
          go_loop [18, 21] (fun v18 v21 => ∃ (t : Nat) (S : ByteArray), t ≤ L ∧ v21 = .int .i64 t ∧ v18 = .string S ∧ Hid (S = ⟨(OT rest t).toArray⟩)) (fun _ v => L - (intOf v).toNat)
          case atStart => exact ⟨0, _, by omega, rfl, rfl, Lib.hid (by rw [OT_zero]; rfl)⟩
          case round =>
            obtain ⟨t, S, ht, rfl, rfl, HS⟩ := hrel
            have sz := ot_size HS.out HXL.out (by omega)
            by_cases ht7 : t < L
            · obtain ⟨x, hx⟩ : ∃ x, rest[t]? = some x := ⟨_, List.getElem?_eq_getElem (by rw [HX.out]; omega)⟩
              have hc := K1.out t x hx
              have sx : (⟨x.toArray⟩ : ByteArray).size ≤ 1200000 := HXL.out x (List.mem_of_getElem? hx)
              have HCX := Lib.hid hx
              obtain ⟨X, hX⟩ : ∃ X : ByteArray, (⟨x.toArray⟩ : ByteArray) = X := ⟨_, rfl⟩
              rw [hX] at hc sx
              have HXX2 := Lib.hid hX
              clear hx hX
              cases t with
              | zero =>
                rw [Nat.add_zero] at hc
                have q1 : ¬ 9223372036854775807 < S.size + X.size := by omega
                go_wp2
                go_round
                case rel => exact ⟨1, _, by omega, by go_num, rfl, Lib.hid (by rw [← HXX2.out]; exact ot_one HS.out HCX.out)⟩
                case measure => simp [intOf] <;> omega
              | succ t =>
                have q1 : ¬ 9223372036854775807 < S.size + 1 := by omega
                have q2 : ¬ 9223372036854775807 < S.size + 1 + X.size := by omega
                go_wp2
                go_round
                case rel => exact ⟨t + 1 + 1, _, by omega, by go_num, rfl, Lib.hid (by rw [← HXX2.out]; exact ot_succ HS.out (by omega) HCX.out)⟩
                case measure => simp [intOf]; omega
            · obtain rfl : t = L := by omega
              go_wp2
              go_ret
              exact ⟨by rw [← HTE.out, ← HS.out]; rfl, HB1.out⟩
      · obtain ⟨g01, g02⟩ := g0
        obtain ⟨a, rfl⟩ : ∃ a : Nat, lv = (a : Int) := ⟨lv.toNat, by omega⟩
        have g1' : ¬ (a : Int) < 0 := by omega
        have g2 : a ≤ M := by omega
        have g3' : ¬ M < a := by omega
        have HAM : Hid (a ≤ M) := Lib.hid (by omega)
        have HA : Hid (clampT (a : Int) all.length = a) := Lib.hid (by rw [clampT, ← HM.out]; omega)
        obtain ⟨L, hL⟩ : ∃ L, M - a = L := ⟨_, rfl⟩
        have HLL := Lib.hid hL
        have HX : Hid ((all.drop (a)).length = L) := Lib.hid (by rw [List.length_drop, ← HM.out, hL])
        have HXL := Lib.hid (take_len HAL.out (a))
        obtain ⟨rest, hrest⟩ : ∃ rest, all.drop (a) = rest := ⟨_, rfl⟩
        have HTR : Hid (traceT z src ld child n (a : Int) = headT ++ [10] ++ Lib.join (cutT rest) [10]) := Lib.hid (by rw [traceT, ← HALL.out, HA.out, hrest])
        rw [hrest] at HX HXL
        have HREST := Lib.hid hrest
        have hLM : L ≤ M := by omega
        clear hL hrest
        by_cases hL20 : 20 < L
        · have hL21 : 20 < (L : Int) := by omega
          have HXX := Lib.hid (show 20 < rest.length by rw [HX.out]; exact hL20)
          have HCL := Lib.hid (cutT_len HXL.out)
          have HTE : Hid (OT (cutT rest) 15 = traceT z src ld child n (a : Int)) := Lib.hid (by rw [HTR.out, ← OT_all, cut_size HXX.out])
          go_wp2_with (at_builtin; refine wpList_push1 (LR.below HR.out (by go_grown)) rfl (.tmp 62) (.tmp 63) rfl rfl _ ⟨#[9, 91, 71, 93, 58, 32, 63]⟩ rfl (by go_simp) M HMM.out hMb ?_; intro g1 cap1 w1 r1 _ _; have HR0 := Lib.hid (show LR w w1 g1 M cap1 (all.map sv) from by (have e : ((linesT z src ld child n n).map sv ++ [Value.string ⟨#[9, 91, 71, 93, 58, 32, 63]⟩]) = all.map sv := by rw [HALL.out, List.map_append]; rfl); rw [← e]; exact r1); have hcap := HR0.out.cap_; obtain ⟨O, hO⟩ : ∃ O, offA 0 a cap1 = O := ⟨_, rfl⟩; obtain ⟨C1, hC1⟩ : ∃ C1, cap1 - a = C1 := ⟨_, rfl⟩; have hs1 := fun W => slice63l W g1 0 a M cap1 (a : Int) rfl HAM.out; rw [hO, HLL.out, hC1] at hs1; have HO := Lib.hid hO; clear r1 hO hC1)
          have K1 : Hid (∀ (t : Nat) x, rest[t]? = some x → w1.cell? ⟨g1, O + t, none⟩ = some (.string ⟨x.toArray⟩)) := Lib.hid (fun t x hx => by
            have hj := (List.getElem?_eq_some_iff.1 hx).1
            rw [HX.out, ← HLL.out] at hj
            have e : O = a := by rw [← HO.out, offA, if_neg (by omega), Nat.zero_add]
            rw [e]
            rw [← HREST.out, List.getElem?_drop] at hx
            exact HR0.out.at_ (by rw [List.getElem?_map, hx]; rfl))
          have HB1 := Lib.hid HR0.out.bel
          clear HR0 HR HREST HO hcap HALL HMM HM HAL HA HAM HLL hs1
          go_loop [18, 19] (fun v18 v19 => ∃ (t : Nat) (S : ByteArray), t ≤ 7 ∧ v19 = .int .i64 t ∧ v18 = .string S ∧ Hid (S = ⟨(OT (cutT rest) t).toArray⟩)) (fun _ v => 7 - (intOf v).toNat)
          case atStart => exact ⟨0, _, by omega, rfl, rfl, Lib.hid (by rw [OT_zero]; rfl)⟩
          case round =>
            obtain ⟨t, S, ht, rfl, rfl, HS⟩ := hrel
            have sz := ot_size HS.out HCL.out (by omega)
            by_cases ht7 : t < 7
            · obtain ⟨x, hx⟩ : ∃ x, rest[t]? = some x := ⟨_, List.getElem?_eq_getElem (by rw [HX.out]; omega)⟩
              have hc := K1.out t x hx
              have sx : (⟨x.toArray⟩ : ByteArray).size ≤ 1200000 := HXL.out x (List.mem_of_getElem? hx)
              have HCX := Lib.hid ((cut_low HXX.out ht7).trans hx)
              have htL : t < L := by omega
              obtain ⟨X, hX⟩ : ∃ X : ByteArray, (⟨x.toArray⟩ : ByteArray) = X := ⟨_, rfl⟩
              rw [hX] at hc sx
              have HXX2 := Lib.hid hX
              clear hx hX
              cases t with
              | zero =>
                rw [Nat.add_zero] at hc
                have q1 : ¬ 9223372036854775807 < S.size + X.size := by omega
                go_wp2
                go_round
                case rel => exact ⟨1, _, by omega, by go_num, rfl, Lib.hid (by rw [← HXX2.out]; exact ot_one HS.out HCX.out)⟩
                case measure => simp [intOf]
              | succ t =>
                have q1 : ¬ 9223372036854775807 < S.size + 1 := by omega
                have q2 : ¬ 9223372036854775807 < S.size + 1 + X.size := by omega
                go_wp2
                go_round
                case rel => exact ⟨t + 1 + 1, _, by omega, by go_num, rfl, Lib.hid (by rw [← HXX2.out]; exact ot_succ HS.out (by omega) HCX.out)⟩
                case measure => simp [intOf]; omega
            · obtain rfl : t = 7 := by omega
              have q1 : ¬ 9223372036854775807 < S.size + 5 := by omega
              have HD := Lib.hid (ot_dot HS.out (by omega) (cut_mid HXX.out))
              go_wp2
              go_loop [18, 20] (fun v18 v20 => ∃ (r : Nat) (S : ByteArray), r ≤ 7 ∧ v20 = .int .i64 ((L : Int) - 7 + r) ∧ v18 = .string S ∧ Hid (S = ⟨(OT (cutT rest) (8 + r)).toArray⟩)) (fun _ v => (L - intOf v).toNat)
              case atStart => exact ⟨0, _, by omega, by simp, rfl, HD⟩
              case round =>
                clear HS HD sz q1
                obtain ⟨r, S2, hr, rfl, rfl, HS⟩ := hrel
                have sz := ot_size HS.out HCL.out (by omega)
                obtain ⟨V, hV⟩ : ∃ V : Int, (L : Int) - 7 + r = V := ⟨_, rfl⟩
                rw [hV]
                by_cases hr7 : r < 7
                · obtain ⟨x, hx⟩ : ∃ x, rest[L - 7 + r]? = some x := ⟨_, List.getElem?_eq_getElem (by rw [HX.out]; omega)⟩
                  have hc := K1.out _ x hx
                  have sx : (⟨x.toArray⟩ : ByteArray).size ≤ 1200000 := HXL.out x (List.mem_of_getElem? hx)
                  have HCX : Hid ((cutT rest)[8 + r]? = some x) := Lib.hid (by rw [cut_high HXX.out, HX.out]; exact hx)
                  obtain ⟨X, hX⟩ : ∃ X : ByteArray, (⟨x.toArray⟩ : ByteArray) = X := ⟨_, rfl⟩
                  rw [hX] at hc sx
                  have HXX2 := Lib.hid hX
                  obtain ⟨N, hN⟩ : ∃ N, L - 7 + r = N := ⟨_, rfl⟩
                  rw [hN] at hc
                  have v1 : V.toNat = N := by omega
                  have v2 : 0 ≤ V := by omega
                  have v3 : V < L := by omega
                  have v5 : V + 1 = (L : Int) - 7 + ((r + 1 : Nat) : Int) := by omega
                  have HV5 := Lib.hid v5
                  clear hx hX hV hN v5
                  have q1 : ¬ 9223372036854775807 < 1 + X.size := by omega
                  have q2 : ¬ 9223372036854775807 < S2.size + (1 + X.size) := by omega
                  go_wp2
                  go_round
                  case rel => exact ⟨r + 1, _, by omega, by (first | (rw [← HV5.out]; done) | (rw [← HV5.out]; rfl) | (rw [← HV5.out]; go_num)), rfl, Lib.hid (by rw [← HXX2.out]; exact ot_succ' (i := 8 + r) HS.out (by omega) HCX.out)⟩
                  case measure => simp [intOf]; omega
                · obtain rfl : r = 7 := by omega
                  obtain rfl : V = L := by omega
                  clear hV
                  have HE : Hid (traceT z src ld child n (a : Int) = OT (cutT rest) (8 + 7)) := Lib.hid HTE.out.symm
                  go_wp2
                  go_ret
                  exact ⟨by rw [HE.out, ← HS.out]; rfl, HB1.out⟩
        · have hL20i : ¬ 20 < (L : Int) := by omega
          have HTE : Hid (OT rest L = traceT z src ld child n (a : Int)) := Lib.hid (by rw [HTR.out, cutT, if_neg (by rw [HX.out]; exact hL20), ← OT_all, HX.out])
          go_wp2_with (at_builtin; refine wpList_push1 (LR.below HR.out (by go_grown)) rfl (.tmp 62) (.tmp 63) rfl rfl _ ⟨#[9, 91, 71, 93, 58, 32, 63]⟩ rfl (by go_simp) M HMM.out hMb ?_; intro g1 cap1 w1 r1 _ _; have HR0 := Lib.hid (show LR w w1 g1 M cap1 (all.map sv) from by (have e : ((linesT z src ld child n n).map sv ++ [Value.string ⟨#[9, 91, 71, 93, 58, 32, 63]⟩]) = all.map sv := by rw [HALL.out, List.map_append]; rfl); rw [← e]; exact r1); have hcap := HR0.out.cap_; obtain ⟨O, hO⟩ : ∃ O, offA 0 a cap1 = O := ⟨_, rfl⟩; obtain ⟨C1, hC1⟩ : ∃ C1, cap1 - a = C1 := ⟨_, rfl⟩; have hs1 := fun W => slice63l W g1 0 a M cap1 (a : Int) rfl HAM.out; rw [hO, HLL.out, hC1] at hs1; have HO := Lib.hid hO; clear r1 hO hC1)
          have K1 : Hid (∀ (t : Nat) x, rest[t]? = some x → w1.cell? ⟨g1, O + t, none⟩ = some (.string ⟨x.toArray⟩)) := Lib.hid (fun t x hx => by
            have hj := (List.getElem?_eq_some_iff.1 hx).1
            rw [HX.out, ← HLL.out] at hj
            have e : O = a := by rw [← HO.out, offA, if_neg (by omega), Nat.zero_add]
            rw [e]
            rw [← HREST.out, List.getElem?_drop] at hx
            exact HR0.out.at_ (by rw [List.getElem?_map, hx]; rfl))
          have HB1 := Lib.hid HR0.out.bel
          clear HR0 HR HREST HO hcap HALL HMM HM HAL HA HAM HLL hs1
          go_loop [18, 21] (fun v18 v21 => ∃ (t : Nat) (S : ByteArray), t ≤ L ∧ v21 = .int .i64 t ∧ v18 = .string S ∧ Hid (S = ⟨(OT rest t).toArray⟩)) (fun _ v => L - (intOf v).toNat)
          case atStart => exact ⟨0, _, by omega, rfl, rfl, Lib.hid (by rw [OT_zero]; rfl)⟩
          case round =>
            obtain ⟨t, S, ht, rfl, rfl, HS⟩ := hrel
            have sz := ot_size HS.out HXL.out (by omega)
            by_cases ht7 : t < L
            · obtain ⟨x, hx⟩ : ∃ x, rest[t]? = some x := ⟨_, List.getElem?_eq_getElem (by rw [HX.out]; omega)⟩
              have hc := K1.out t x hx
              have sx : (⟨x.toArray⟩ : ByteArray).size ≤ 1200000 := HXL.out x (List.mem_of_getElem? hx)
              have HCX := Lib.hid hx
              obtain ⟨X, hX⟩ : ∃ X : ByteArray, (⟨x.toArray⟩ : ByteArray) = X := ⟨_, rfl⟩
              rw [hX] at hc sx
              have HXX2 := Lib.hid hX
              clear hx hX
              cases t with
              | zero =>
                rw [Nat.add_zero] at hc
                have q1 : ¬ 9223372036854775807 < S.size + X.size := by omega
                go_wp2
                go_round
                case rel => exact ⟨1, _, by omega, by go_num, rfl, Lib.hid (by rw [← HXX2.out]; exact ot_one HS.out HCX.out)⟩
                case measure => simp [intOf] <;> omega
              | succ t =>
                have q1 : ¬ 9223372036854775807 < S.size + 1 := by omega
                have q2 : ¬ 9223372036854775807 < S.size + 1 + X.size := by omega
                go_wp2
                go_round
                case rel => exact ⟨t + 1 + 1, _, by omega, by go_num, rfl, Lib.hid (by rw [← HXX2.out]; exact ot_succ HS.out (by omega) HCX.out)⟩
                case measure => simp [intOf]; omega
            · obtain rfl : t = L := by omega
              go_wp2
              go_ret
              exact ⟨by rw [← HTE.out, ← HS.out]; rfl, HB1.out⟩
      · have g1' : ¬ lv < 0 := by omega
        have HAM : Hid (M ≤ M) := Lib.hid (by omega)
        have HA : Hid (clampT lv all.length = M) := Lib.hid (by rw [clampT, ← HM.out]; omega)
        obtain ⟨L, hL⟩ : ∃ L, M - M = L := ⟨_, rfl⟩
        have HLL := Lib.hid hL
        have HX : Hid ((all.drop (M)).length = L) := Lib.hid (by rw [List.length_drop, ← HM.out, hL])
        have HXL := Lib.hid (take_len HAL.out (M))
        obtain ⟨rest, hrest⟩ : ∃ rest, all.drop (M) = rest := ⟨_, rfl⟩
        have HTR : Hid (traceT z src ld child n lv = headT ++ [10] ++ Lib.join (cutT rest) [10]) := Lib.hid (by rw [traceT, ← HALL.out, HA.out, hrest])
        rw [hrest] at HX HXL
        have HREST := Lib.hid hrest
        have hLM : L ≤ M := by omega
        have hLb : L ≤ 20 := by omega
        clear hL hrest
        · have hL20 : ¬ 20 < L := by omega
          have hL20i : ¬ 20 < (L : Int) := by omega
          have HTE : Hid (OT rest L = traceT z src ld child n lv) := Lib.hid (by rw [HTR.out, cutT, if_neg (by rw [HX.out]; exact hL20), ← OT_all, HX.out])
          go_wp2_with (at_builtin; refine wpList_push1 (LR.below HR.out (by go_grown)) rfl (.tmp 62) (.tmp 63) rfl rfl _ ⟨#[9, 91, 71, 93, 58, 32, 63]⟩ rfl (by go_simp) M HMM.out hMb ?_; intro g1 cap1 w1 r1 _ _; have HR0 := Lib.hid (show LR w w1 g1 M cap1 (all.map sv) from by (have e : ((linesT z src ld child n n).map sv ++ [Value.string ⟨#[9, 91, 71, 93, 58, 32, 63]⟩]) = all.map sv := by rw [HALL.out, List.map_append]; rfl); rw [← e]; exact r1); have hcap := HR0.out.cap_; obtain ⟨O, hO⟩ : ∃ O, offA 0 M cap1 = O := ⟨_, rfl⟩; obtain ⟨C1, hC1⟩ : ∃ C1, cap1 - M = C1 := ⟨_, rfl⟩; have hs1 := fun W => slice63l W g1 0 M M cap1 (M : Int) rfl HAM.out; rw [hO, HLL.out, hC1] at hs1; have HO := Lib.hid hO; clear r1 hO hC1)
          have K1 : Hid (∀ (t : Nat) x, rest[t]? = some x → w1.cell? ⟨g1, O + t, none⟩ = some (.string ⟨x.toArray⟩)) := Lib.hid (fun t x hx => by
            have hj := (List.getElem?_eq_some_iff.1 hx).1
            rw [HX.out, ← HLL.out] at hj
            have e : O = M := by rw [← HO.out, offA, if_neg (by omega), Nat.zero_add]
            rw [e]
            rw [← HREST.out, List.getElem?_drop] at hx
            exact HR0.out.at_ (by rw [List.getElem?_map, hx]; rfl))
          have HB1 := Lib.hid HR0.out.bel
          clear HR0 HR HREST HO hcap HALL HMM HM HAL HA HAM HLL hs1
          go_loop [18, 21] (fun v18 v21 => ∃ (t : Nat) (S : ByteArray), t ≤ L ∧ v21 = .int .i64 t ∧ v18 = .string S ∧ Hid (S = ⟨(OT rest t).toArray⟩)) (fun _ v => L - (intOf v).toNat)
          case atStart => exact ⟨0, _, by omega, rfl, rfl, Lib.hid (by rw [OT_zero]; rfl)⟩
          case round =>
            obtain ⟨t, S, ht, rfl, rfl, HS⟩ := hrel
            have sz := ot_size HS.out HXL.out (by omega)
            by_cases ht7 : t < L
            · obtain ⟨x, hx⟩ : ∃ x, rest[t]? = some x := ⟨_, List.getElem?_eq_getElem (by rw [HX.out]; omega)⟩
              have hc := K1.out t x hx
              have sx : (⟨x.toArray⟩ : ByteArray).size ≤ 1200000 := HXL.out x (List.mem_of_getElem? hx)
              have HCX := Lib.hid hx
              obtain ⟨X, hX⟩ : ∃ X : ByteArray, (⟨x.toArray⟩ : ByteArray) = X := ⟨_, rfl⟩
              rw [hX] at hc sx
              have HXX2 := Lib.hid hX
              clear hx hX
              cases t with
              | zero =>
                rw [Nat.add_zero] at hc
                have q1 : ¬ 9223372036854775807 < S.size + X.size := by omega
                go_wp2
                go_round
                case rel => exact ⟨1, _, by omega, by go_num, rfl, Lib.hid (by rw [← HXX2.out]; exact ot_one HS.out HCX.out)⟩
                case measure => simp [intOf] <;> omega
              | succ t =>
                have q1 : ¬ 9223372036854775807 < S.size + 1 := by omega
                have q2 : ¬ 9223372036854775807 < S.size + 1 + X.size := by omega
                go_wp2
                go_round
                case rel => exact ⟨t + 1 + 1, _, by omega, by go_num, rfl, Lib.hid (by rw [← HXX2.out]; exact ot_succ HS.out (by omega) HCX.out)⟩
                case measure => simp [intOf]; omega
            · obtain rfl : t = L := by omega
              go_wp2
              go_ret
              exact ⟨by rw [← HTE.out, ← HS.out]; rfl, HB1.out⟩
end Go.Proofs.YtlpnagpdjkgbcaaFmt
