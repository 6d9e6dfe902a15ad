/- stackTrace: printed by our program wip/mktra.py. -/
import Derived.Test.YtlpnagpdjkgbcaaFmtLns
import Derived.Test.YtlpnagpdjkgbcaaFmtJoin
namespace Go.Proofs.YtlpnagpdjkgbcaaFmt
set_option linter.unusedVariables false
open Go.RowKit Go.ChangeShapes Go.Deep Go.Extern.Stop Go.Stop Go.Extern Go.Kit
theorem join_len (xs : List (List UInt8)) (h : ∀ x ∈ xs, x.length ≤ 2000000) : (Lib.join xs [10]).length ≤ 2000001 * xs.length := by
  induction xs with
  | nil => simp [Lib.join_nil]
  | cons x r ih =>
    have hx := h x (by simp)
    cases r with
    | nil => rw [Lib.join_one]; simp; omega
    | cons y r =>
      have h2 := ih (fun a ha => h a (by simp [ha]))
      rw [Lib.join_cons] at h2 ⊢
      simp only [Lib.joinTail, List.map_cons, List.flatten_cons, List.length_append, List.length_cons, List.length_nil] at h2 ⊢
      omega
theorem join34 (W : World) (g o L c : Nat) (xs : List (List UInt8)) (hL : xs.length = L) (hc : ∀ (j : Nat) x, xs[j]? = some x → W.cell? ⟨g, o + j, none⟩ = some (sv x)) (hcap : L ≤ c) (hb : g < W.heap.size) (hN : L ≤ 100) (hlen : ∀ x ∈ xs, x.length ≤ 2000000) :
    Calls Tryf.prog 34 #[.slice (some ⟨g, o, none⟩) L c, .string ⟨#[10]⟩] W (WPost (Lib.join xs [10]) W) := by
  subst hL
  have hj := join_len xs hlen
  have c0 := jn_strings_Join g o c (xs.map fun x => (⟨x.toArray⟩ : ByteArray)) ⟨#[10]⟩ W (fun j x hx => by
    rw [List.getElem?_map] at hx
    obtain ⟨y, hy, rfl⟩ := Option.map_eq_some_iff.1 hx
    exact hc j y hy) hb (by simp; omega) (by simpa using hcap) (by simp [List.map_map, Function.comp_def]; omega)
  simp only [List.length_map, List.map_map, Function.comp_def, List.map_id'] at c0
  exact c0
theorem add_at (g o j : Nat) : (⟨g, o, none⟩ : Addr).add j = ⟨g, o + j, none⟩ := by
  unfold Addr.add
  by_cases h : j = 0
  · subst h; simp
  · simp [h]
theorem LR_ne {w1 : World} {o : Obj} {g1 g2 : Nat} (h : g1 < w1.heap.size) (hg : g2 = w1.heap.size ∨ g2 = (w1.alloc o).heap.size) : g1 ≠ g2 := by
  rcases hg with h | h
  · omega
  · simp at h; omega
theorem LR_lt {w1 : World} {o : Obj} {g1 N : Nat} (h : g1 < w1.heap.size) (hl : (w1.alloc o).heap.size ≤ N) : g1 < N := by
  simp at hl; omega
section
variable {F : Interp} {w0 w : World} {pl n : Nat} {z : Nat → FR} {src : ByteArray} {ld : Int} {child : Bool} {B pa pcs : Nat} {pt : Option Addr}
theorem tx_g (F : Interp) : FmtStop.textOf (F.told "fmt.Sprintf" [[9, 37, 118, 58, 32, 37, 118], shape9, FmtStop.pack [91, 71, 93], shape9, FmtStop.pack [63]] 0) = ⟨gT.toArray⟩ := tx_base F [91, 71, 93] [63] (by decide) (by decide)
theorem take_len {all : List (List UInt8)} {N : Nat} (h : ∀ x ∈ all, x.length ≤ N) (a : Nat) : ∀ x ∈ all.drop a, x.length ≤ N := fun x hx => h x (List.mem_of_mem_drop hx)
theorem cutT_len {ls : List (List UInt8)} (h : ∀ x ∈ ls, x.length ≤ 1200000) : ∀ x ∈ cutT ls, x.length ≤ 1200000 := by
  intro x hx
  unfold cutT at hx
  split at hx
  · rcases List.mem_append.1 hx with h1 | h1
    · exact h x (List.mem_of_mem_take h1)
    · rcases List.mem_cons.1 h1 with h1 | h1
      · subst h1; decide
      · exact h x (List.mem_of_mem_drop h1)
  · exact h x hx
set_option maxRecDepth 100000 in
set_option maxHeartbeats 4000000 in
theorem trace_0 (h : RN F w0 w pl n z src ld child B pa pcs pt) (hn : n = 0) (lv : Int) (hlv : -9223372036854775808 ≤ lv ∧ lv ≤ 9223372036854775807) :
    Calls Tryf.prog 22 #[.pointer (some ⟨pl, 0, none⟩), .int .i64 lv] w (WPost (traceT z src ld child n lv) w) := by
  have k16 := h.st.ls.c16
  have hp0 : parA pa n = none := by rw [hn]; rfl
  rw [hp0] at k16
  clear hp0
  have lpl := World.block_lt_of_cell? w _ k16
  obtain ⟨T1, hT1⟩ : ∃ T1 : ByteArray, (⟨gT.toArray⟩ : ByteArray) = T1 := ⟨_, rfl⟩
  have t1 := (tx_g F).trans hT1
  have hF' := answers_open h.hF
  have HF := Lib.hid h.hF
  have R0 := Lib.hid (LR.made w w (Below.refl _ _) #[] 0 rfl (by decide))
  obtain ⟨M, hM⟩ : ∃ M, 0 + 1 = M := ⟨_, rfl⟩
  have hMb : M ≤ 1000000 := by omega
  obtain ⟨all, hall⟩ : ∃ all, linesT z src ld child n n ++ [gT] = all := ⟨_, rfl⟩
  have hall2 : all = [gT] := by rw [← hall, hn]; rfl
  have HM : Hid (M = all.length) := Lib.hid (by rw [hall2, ← hM]; rfl)
  have HAL : Hid (∀ x ∈ all, x.length ≤ 1200000) := Lib.hid (by rw [hall2]; intro x hx; simp at hx; subst hx; decide)
  have HALL := Lib.hid hall.symm
  have HALL2 := Lib.hid hall2
  have HMM := Lib.hid hM
  have HT1 := Lib.hid hT1
  have hM2 : M ≤ 1 := by omega
  clear h hall hall2 hM hT1 hn
  go_enter Tryf.func22, Tryf.ntmps22
  go_wp2_with (at_builtin; refine wpList_push1 (LR.below R0.out (by go_grown)) rfl (.tmp 79) (.tmp 84) rfl rfl _ T1 rfl (by go_simp) M HMM.out hMb ?_; intro g1 cap1 w1 r1 _ _; have HR0 := Lib.hid r1; clear r1)
  have HR : Hid (LR w w1 g1 M cap1 (all.map sv)) := Lib.hid (by
    have e : ([] ++ [Value.string T1]) = all.map sv := by rw [HALL2.out, ← HT1.out]; rfl
    rw [← e]
    exact HR0.out)
  clear HR0
  have c33 := min33 lv M w1 hlv ⟨by omega, by omega⟩
  obtain ⟨X, hX⟩ : ∃ X : Int, min lv (M : Int) = X := ⟨_, rfl⟩
  obtain ⟨a, ha⟩ : ∃ a : Nat, max 0 X = (a : Int) := ⟨(max 0 X).toNat, by omega⟩
  have haM : a ≤ M := by omega
  have HA : Hid (clampT lv all.length = a) := Lib.hid (by rw [clampT, ← HM.out, hX, ha]; rfl)
  have c32 := max32 0 X w1 (by omega) (by omega)
  rw [hX] at c33
  rw [ha] at c32
  clear hX ha
  refine c33.mono ?_
  clear c33
  rintro e w1' ⟨rfl, rfl⟩
  go_wp2_with fail
  refine c32.mono ?_
  clear c32
  rintro e w1' ⟨rfl, rfl⟩
  have hcap := HR.out.cap_
  obtain ⟨O, hO⟩ : ∃ O, offA 0 a cap1 = O := ⟨_, rfl⟩
  obtain ⟨L, hL⟩ : ∃ L, M - a = L := ⟨_, rfl⟩
  obtain ⟨C1, hC1⟩ : ∃ C1, cap1 - a = C1 := ⟨_, rfl⟩
  have hs1 := fun W => slice63 W g1 0 a M M cap1 a M rfl rfl haM hcap.1
  rw [hO, hL, hC1] at hs1
  have HX : Hid ((all.drop a).length = L) := Lib.hid (by rw [List.length_drop, ← HM.out, hL])
  have HXL := Lib.hid (take_len HAL.out a)
  have hLC : L ≤ C1 := by omega
  have K1 : Hid (∀ (j : Nat) x, (all.drop a)[j]? = some x → w1.cell? ⟨g1, O + j, none⟩ = some (sv x)) := Lib.hid (fun j x hx => by
    have hj := (List.getElem?_eq_some_iff.1 hx).1
    rw [HX.out] at hj
    have e : O = a := by rw [← hO, offA, if_neg (by omega), Nat.zero_add]
    rw [e]
    rw [List.getElem?_drop] at hx
    exact HR.out.at_ (by rw [List.getElem?_map, hx]; rfl))
  have hg1 := HR.out.base.2
  have HB1 := Lib.hid HR.out.bel
  clear hO hC1
  have hL20 : ¬ 20 < (L : Int) := by omega
  have HCL : Hid ((cutT (all.drop a)).length = L) := Lib.hid (by rw [cutT, if_neg (by rw [HX.out]; omega)]; exact HX.out)
  have K2 : Hid (∀ (j : Nat) x, (cutT (all.drop a))[j]? = some x → w1.cell? ⟨g1, O + j, none⟩ = some (sv x)) := Lib.hid (by rw [cutT, if_neg (by rw [HX.out]; omega)]; exact K1.out)
  obtain ⟨T2, hT2⟩ : ∃ T2 : ByteArray, (⟨(Lib.join (cutT (all.drop a)) [10]).toArray⟩ : ByteArray) = T2 := ⟨_, rfl⟩
  have hJ := join_len (cutT (all.drop a)) (fun x hx => by have := cutT_len HXL.out x hx; omega)
  obtain ⟨T3, hT3⟩ : ∃ T3 : ByteArray, (⟨(headT ++ [10] ++ T2.data.toList).toArray⟩ : ByteArray) = T3 := ⟨_, rfl⟩
  have HT3 : Hid ((⟨(traceT z src ld child n lv).toArray⟩ : ByteArray) = T3) := Lib.hid (by rw [← hT3, ← hT2, traceT, ← HALL.out, HA.out])
  have t3 := (tx_all F headT T2.data.toList (by decide) (by rw [← hT2]; show (Lib.join (cutT (all.drop a)) [10]).length ≤ _; rw [HCL.out] at hJ; omega)).trans hT3
  unfold headT at t3
  have c34 := join34 w1 g1 O L C1 (cutT (all.drop a)) HCL.out K2.out (by omega) hg1 (by omega) (fun x hx => by have := cutT_len HXL.out x hx; omega)
  unfold WPost at c34
  rw [hT2] at c34
  clear hT2 hT3
  go_wp2_with fail
  refine c34.mono ?_
  clear c34
  rintro e w9 ⟨rfl, hb9⟩
  have HB9 := Lib.hid (HB1.out.trans (hb9.mono HB1.out.size))
  have hF9 := answers_open (show F.told.answers w9.tape by rw [HB9.out.tape]; exact HF.out)
  clear hb9
  go_wp2
  go_ret
  exact ⟨by rw [HT3.out]; rfl, below_drew (below_one HB9.out _)⟩
theorem lines_le {n : Nat} (ok : FOK n z src) (hld : (Lit.int .i64 ld).wf = true) (lw : ∀ i, i < n → (Lit.int .i64 (z i).line).wf = true) {d : Nat} (hd : d ≤ n) : ∀ x ∈ linesT z src ld child n d, x.length ≤ 1200000 := by
  induction d with
  | zero => intro x hx; cases hx
  | succ d ih =>
    intro x hx
    rw [linesT] at hx
    rcases List.mem_append.1 hx with h1 | h1
    · exact ih (by omega) x h1
    · rcases List.mem_cons.1 h1 with h1 | h1
      · subst h1
        exact entT_len ok hld (by omega) (lw _ (by omega))
      · obtain ⟨_, rfl⟩ := List.mem_replicate.1 h1
        decide
set_option maxRecDepth 100000 in
set_option maxHeartbeats 16000000 in
theorem trace_s (h : RN F w0 w pl n z src ld child B pa pcs pt) (hld : (Lit.int .i64 ld).wf = true) (hn : 0 < n) (lv : Int) (hlv : -9223372036854775808 ≤ lv ∧ lv ≤ 9223372036854775807) :
    Calls Tryf.prog 22 #[.pointer (some ⟨pl, 0, none⟩), .int .i64 lv] w (WPost (traceT z src ld child n lv) w) := by
  have k16 := h.st.ls.c16
  have hp0 : parA pa n = some ⟨pa, (n - 1) * 10, none⟩ := by rw [parA, if_neg (by omega)]
  rw [hp0] at k16
  generalize (n - 1) * 10 = on at *
  clear hp0
  have lpl := World.block_lt_of_cell? w _ k16
  have HF := Lib.hid h.hF
  have HLD := Lib.hid hld
  have R0 := Lib.hid (LR.made w w (Below.refl _ _) #[] 0 rfl (by decide))
  have H := Lib.hid h
  have c28 := next28 (h.below R0.out.bel) (d := 0) (l := 0) (by omega) (by rw [Nat.sub_zero, pz_top])
  clear h hld
  go_enter Tryf.func22, Tryf.ntmps22
  go_wp2_with fail
  refine c28.mono ?_
  clear c28
  rintro e w1 ⟨v8, v9, rfl, hgn, hb1⟩
  have HGN := Lib.hid hgn
  have R1 := Lib.hid (R0.out.below hb1)
  clear hgn hb1
  go_wp2
  go_loopw [5, 7, 8, 9] (fun v5 v7 v8 v9 wr => ∃ (d g m cap : Nat), d ≤ n ∧ v5 = .slice (some ⟨g, 0, none⟩) m cap ∧ v7 = .int .i64 (m : Int) ∧ m ≤ 69632 ∧ Hid (LR w wr g m cap ((linesT z src ld child n d).map sv)) ∧ Hid (pz z n (n - d) = m) ∧ Hid (GN wr pa (n - d) v8 v9)) (fun _ v7 _ _ _ => 70000 - (intOf v7).toNat)
  case atStart => exact ⟨0, _, 0, _, Nat.zero_le _, rfl, rfl, by omega, R1, Lib.hid (by rw [Nat.sub_zero, pz_top]; rfl), HGN⟩
  case round =>
    clear R0 R1 HGN lpl k16
    obtain ⟨d, g, m, cap, hd, rfl, rfl, hm, HR, HZ, HG⟩ := hrel
    by_cases hdn : d < n
    · obtain ⟨k, hk⟩ : ∃ k, n - 1 - d = k := ⟨_, rfl⟩
      have e1 : n - d = k + 1 := by omega
      have e2 : n - (d + 1) = k := by omega
      have hkn : k < n := by omega
      have hG := HG.out
      rw [e1] at hG
      obtain ⟨rfl, dp, rfl, hdp⟩ := hG
      have Hr := Lib.hid (H.out.below HR.out.bel)
      have c30 := where_at Hr.out hkn (l := (m : Int)) (by rw [← HZ.out, e1])
      obtain ⟨S1, hS1⟩ : ∃ S1 : ByteArray, (⟨(wtext (z k) src).toArray⟩ : ByteArray) = S1 := ⟨_, rfl⟩
      unfold WPost at c30
      rw [hS1] at c30
      have hz0 := H.out.ok.tail k hkn
      have hzp : pz z n k = m + 1 + zt (z k) := by rw [pz_step, ← e1, HZ.out]
      have hzl := pz_le H.out.ok (j := k) (by omega)
      have HZP := Lib.hid hzp
      have hm1 : m + 1 ≤ 69632 := by omega
      have hm2 : (m : Int) + 1 + zt (z k) ≤ 69632 := by omega
      have hz1 := hz0.1
      clear hzp hzl hz0
      go_wp2_with fail
      refine c30.mono ?_
      clear c30
      rintro e w1 ⟨rfl, hb1⟩
      have H1 := Lib.hid (Hr.out.below hb1)
      have HR1 := Lib.hid (HR.out.below hb1)
      have c31 := fmt31 (child := child) H1.out HLD.out hkn
      obtain ⟨S2, hS2⟩ : ∃ S2 : ByteArray, (⟨(fmtT z src ld child k).toArray⟩ : ByteArray) = S2 := ⟨_, rfl⟩
      unfold WPost at c31
      rw [hS2] at c31
      clear hb1
      go_wp2_with fail
      refine c31.mono ?_
      clear c31
      rintro e w2 ⟨rfl, hb2⟩
      have HR2 := Lib.hid (HR1.out.below hb2)
      have hF' := answers_open (H1.out.below hb2).hF
      obtain ⟨E, hE⟩ : ∃ E : ByteArray, (⟨(9 :: S1.data.toList ++ [32, 105, 110, 32] ++ S2.data.toList).toArray⟩ : ByteArray) = E := ⟨_, rfl⟩
      have t1 := (tx_ent F S1.data.toList S2.data.toList (by rw [← hS1]; have := wtext_len H.out.ok hkn (H.out.lw k hkn); show (wtext (z k) src).length ≤ _; omega) (by rw [← hS2]; have := fmtT_len (child := child) H.out.ok HLD.out hkn; show (fmtT z src ld child k).length ≤ _; omega)).trans hE
      have HE : Hid (Value.string E = sv (entT z src ld child k)) := Lib.hid (by rw [← hE, ← hS1, ← hS2]; rfl)
      clear hS1 hS2 hE hb2 hdp
      cases hg : (z k).g
      · by_cases ht : 0 < zt (z k)
        · obtain ⟨TT, hTT⟩ : ∃ TT, zt (z k) = TT := ⟨_, rfl⟩
          have HTT := Lib.hid hTT
          rw [hTT] at hm2 hz1 ht
          clear hTT
          go_wp2_with (at_builtin; refine wpList_push1 (LR.below HR2.out (by go_grown)) rfl (.tmp 36) (.tmp 47) rfl rfl _ E rfl (by go_simp) (m + 1) rfl (by omega) ?_; intro g3 cap3 w3 r3 _ _; have HR3 := Lib.hid r3; obtain ⟨fp, ff⟩ := (H.out.below r3.bel).fr hkn; have f1 := ff.f1; have f9 := ff.f9; have g0 := ff.fn.g.2; rw [hg] at g0; rw [HTT.out] at f9; clear r3 ff hF' t1 hg)
          go_loopw [5, 7, 11] (fun v5 v7 v11 wi => ∃ (r g' m' cap' : Nat), v11 = .int .i64 (TT - r) ∧ (r : Int) ≤ TT ∧ v5 = .slice (some ⟨g', 0, none⟩) m' cap' ∧ m' = m + 1 + r ∧ v7 = .int .i64 ((m : Int) + r) ∧ Hid (LR w wi g' m' cap' ((linesT z src ld child n d).map sv ++ [Value.string E] ++ List.replicate r (sv tcT)))) (fun _ _ v11 _ => (intOf v11).toNat)
          case atStart => exact ⟨0, g3, m + 1, cap3, by simp, by omega, rfl, by omega, by simp, Lib.hid (by simpa using HR3.out)⟩
          case round =>
            clear HR3
            obtain ⟨r, g', m', cap', rfl, hr, rfl, rfl, rfl, HRi⟩ := hrel
            by_cases hrt : (r : Int) < TT
            · have hpos : 0 < TT - (r : Int) := by omega
              have hmm : m + 1 + r + 1 ≤ 1000000 := by omega
              have hcs : Value.string ⟨#[9, 40, 116, 97, 105, 108, 99, 97, 108, 108, 41, 58, 32, 63]⟩ = sv tcT := rfl
              have HCS := Lib.hid hcs
              clear hcs
              go_wp2_with (at_builtin; refine wpList_push1 (LR.below HRi.out (by go_grown)) rfl (.tmp 72) (.tmp 73) rfl rfl _ ⟨#[9, 40, 116, 97, 105, 108, 99, 97, 108, 108, 41, 58, 32, 63]⟩ rfl (by go_simp) (m + 1 + r + 1) rfl hmm ?_; intro g5 cap5 w5 r5 _ _; have HR5 := Lib.hid r5; clear r5)
              go_roundw
              case rel => exact ⟨r + 1, g5, m + 1 + r + 1, cap5, by first | (congr 1; omega) | go_num, by omega, rfl, by omega, by first | go_num | (congr 1; omega), Lib.hid (by
                  have h5 := HR5.out
                  rw [HCS.out, List.append_assoc, ← List.replicate_succ'] at h5
                  exact h5)⟩
              case measure => simp [intOf]; omega
            · have hre : (r : Int) = TT := by omega
              have hpos : ¬ 0 < TT - (r : Int) := by omega
              have HRE := Lib.hid hre
              have c28 := next28 (H.out.below HRi.out.bel) (d := d + 1) (l := (m : Int) + r + 1) (by omega) (by rw [e2, HZP.out, HTT.out, HRE.out]; omega)
              have hi1 : (m : Int) + r + 1 ≤ 69632 := by omega
              clear hre
              go_wp2_with fail
              refine c28.mono ?_
              clear c28
              rintro e w4 ⟨v8, v9, rfl, hgn, hb4⟩
              have HGN := Lib.hid hgn
              have HR4 := Lib.hid (HRi.out.below hb4)
              clear hgn hb4
              go_wp2
              go_roundw
              case rel => exact ⟨d + 1, g', m + 1 + r, cap', by omega, rfl, by first | go_num | (congr 1; omega), by omega, Lib.hid (by
                  have e : linesT z src ld child n (d + 1) = linesT z src ld child n d ++ entT z src ld child k :: List.replicate r tcT := by rw [linesT, hk, HTT.out, ← HRE.out]; rfl
                  have h4 := HR4.out
                  rw [HE.out] at h4
                  rw [e, List.map_append]
                  simpa using h4), Lib.hid (by rw [e2, HZP.out, HTT.out, ← HRE.out]; omega), HGN⟩
              case measure => simp [intOf]; omega
        · have HZ0 : Hid (zt (z k) = 0) := Lib.hid (by omega)
          go_wp2_with (at_builtin; refine wpList_push1 (LR.below HR2.out (by go_grown)) rfl (.tmp 36) (.tmp 47) rfl rfl _ E rfl (by go_simp) (m + 1) rfl (by omega) ?_; intro g3 cap3 w3 r3 _ _; have HR3 := Lib.hid r3; obtain ⟨fp, ff⟩ := (H.out.below r3.bel).fr hkn; have f1 := ff.f1; have f9 := ff.f9; have g0 := ff.fn.g.2; rw [hg] at g0; rw [HZ0.out] at f9; clear r3 ff hF' t1 hg)
          have c28 := next28 (H.out.below HR3.out.bel) (d := d + 1) (l := (m : Int) + 1) (by omega) (by rw [e2, HZP.out, HZ0.out]; omega)
          clear hm2 hz1 f1 f9 g0
          refine c28.mono ?_
          clear c28
          rintro e w4 ⟨v8, v9, rfl, hgn, hb4⟩
          have HGN := Lib.hid hgn
          have HR4 := Lib.hid (HR3.out.below hb4)
          clear hgn hb4
          go_wp2
          go_roundw
          case rel => exact ⟨d + 1, g3, m + 1, cap3, by omega, rfl, by go_num, by omega, Lib.hid (by
              have e : linesT z src ld child n (d + 1) = linesT z src ld child n d ++ [entT z src ld child k] := by rw [linesT, hk, HZ0.out]; rfl
              have h4 := HR4.out
              rw [HE.out] at h4
              rw [e, List.map_append]
              exact h4), Lib.hid (by rw [e2, HZP.out, HZ0.out]; omega), HGN⟩
          case measure => simp [intOf]; omega
      · have HZ0 : Hid (zt (z k) = 0) := Lib.hid (zt_g hg)
        go_wp2_with (at_builtin; refine wpList_push1 (LR.below HR2.out (by go_grown)) rfl (.tmp 36) (.tmp 47) rfl rfl _ E rfl (by go_simp) (m + 1) rfl (by omega) ?_; intro g3 cap3 w3 r3 _ _; have HR3 := Lib.hid r3; obtain ⟨fp, ff⟩ := (H.out.below r3.bel).fr hkn; have f1 := ff.f1; have f9 := ff.f9; have g0 := ff.fn.g.2; rw [hg] at g0; rw [HZ0.out] at f9; clear r3 ff hF' t1 hg)
        have c28 := next28 (H.out.below HR3.out.bel) (d := d + 1) (l := (m : Int) + 1) (by omega) (by rw [e2, HZP.out, HZ0.out]; omega)
        clear hm2 hz1 f1 f9 g0
        refine c28.mono ?_
        clear c28
        rintro e w4 ⟨v8, v9, rfl, hgn, hb4⟩
        have HGN := Lib.hid hgn
        have HR4 := Lib.hid (HR3.out.below hb4)
        clear hgn hb4
        go_wp2
        go_roundw
        case rel => exact ⟨d + 1, g3, m + 1, cap3, by omega, rfl, by go_num, by omega, Lib.hid (by
            have e : linesT z src ld child n (d + 1) = linesT z src ld child n d ++ [entT z src ld child k] := by rw [linesT, hk, HZ0.out]; rfl
            have h4 := HR4.out
            rw [HE.out] at h4
            rw [e, List.map_append]
            exact h4), Lib.hid (by rw [e2, HZP.out, HZ0.out]; omega), HGN⟩
        case measure => simp [intOf]; omega
    · obtain rfl : d = n := by omega
      have hG := HG.out
      rw [Nat.sub_self] at hG
      obtain rfl : _ = Value.bool false := hG
      obtain ⟨T1, hT1⟩ : ∃ T1 : ByteArray, (⟨gT.toArray⟩ : ByteArray) = T1 := ⟨_, rfl⟩
      have t1 := (tx_g F).trans hT1
      have hF' := answers_open (H.out.below HR.out.bel).hF
      obtain ⟨M, hM⟩ : ∃ M, m + 1 = M := ⟨_, rfl⟩
      have hMb : M ≤ 1000000 := by omega
      obtain ⟨all, hall⟩ : ∃ all, linesT z src ld child d d ++ [gT] = all := ⟨_, rfl⟩
      have HM : Hid (M = all.length) := Lib.hid (by rw [← hall, ← hM, List.length_append, ← HR.out.len, List.length_map]; rfl)
      have HAL : Hid (∀ x ∈ all, x.length ≤ 1200000) := Lib.hid (by
        rw [← hall]
        intro x hx
        rcases List.mem_append.1 hx with h1 | h1
        · exact lines_le H.out.ok HLD.out H.out.lw (Nat.le_refl _) x h1
        · simp at h1; subst h1; decide)
      have HALL := Lib.hid hall.symm
      have HMM := Lib.hid hM
      have HT1 := Lib.hid hT1
      clear hall hM hT1 HG
      go_wp2_with (at_builtin; refine wpList_push1 (LR.below HR.out (by go_grown)) rfl (.tmp 79) (.tmp 84) rfl rfl _ T1 rfl (by go_simp) M HMM.out hMb ?_; intro g1 cap1 w1 r1 _ _; have HR0 := Lib.hid r1; clear r1)
      have HRn : Hid (LR w w1 g1 M cap1 (all.map sv)) := Lib.hid (by
        have e : ((linesT z src ld child d d).map sv ++ [Value.string T1]) = all.map sv := by rw [HALL.out, ← HT1.out, List.map_append]; rfl
        rw [← e]
        exact HR0.out)
      clear HR0 HR
      have HR := HRn
      clear HRn
      have c33 := min33 lv M w1 hlv ⟨by omega, by omega⟩
      obtain ⟨X, hX⟩ : ∃ X : Int, min lv (M : Int) = X := ⟨_, rfl⟩
      obtain ⟨a, ha⟩ : ∃ a : Nat, max 0 X = (a : Int) := ⟨(max 0 X).toNat, by omega⟩
      have haM : a ≤ M := by omega
      have HA : Hid (clampT lv all.length = a) := Lib.hid (by rw [clampT, ← HM.out, hX, ha]; rfl)
      have c32 := max32 0 X w1 (by omega) (by omega)
      rw [hX] at c33
      rw [ha] at c32
      clear hX ha
      refine c33.mono ?_
      clear c33
      rintro e w1' ⟨rfl, rfl⟩
      go_wp2_with fail
      refine c32.mono ?_
      clear c32
      rintro e w1' ⟨rfl, rfl⟩
      have hcap := HR.out.cap_
      obtain ⟨O, hO⟩ : ∃ O, offA 0 a cap1 = O := ⟨_, rfl⟩
      obtain ⟨L, hL⟩ : ∃ L, M - a = L := ⟨_, rfl⟩
      obtain ⟨C1, hC1⟩ : ∃ C1, cap1 - a = C1 := ⟨_, rfl⟩
      have hs1 := fun W => slice63 W g1 0 a M M cap1 a M rfl rfl haM hcap.1
      rw [hO, hL, hC1] at hs1
      have HX : Hid ((all.drop a).length = L) := Lib.hid (by rw [List.length_drop, ← HM.out, hL])
      have HXL := Lib.hid (take_len HAL.out a)
      have hLC : L ≤ C1 := by omega
      have K1 : Hid (∀ (j : Nat) x, (all.drop a)[j]? = some x → w1.cell? ⟨g1, O + j, none⟩ = some (sv x)) := Lib.hid (fun j x hx => by
        have hj := (List.getElem?_eq_some_iff.1 hx).1
        rw [HX.out] at hj
        have e : O = a := by rw [← hO, offA, if_neg (by omega), Nat.zero_add]
        rw [e]
        rw [List.getElem?_drop] at hx
        exact HR.out.at_ (by rw [List.getElem?_map, hx]; rfl))
      have hg1 := HR.out.base.2
      have HB1 := Lib.hid HR.out.bel
      clear hO hC1
      by_cases hL20 : 20 < L
      · have hL21 : 20 < (L : Int) := by omega
        obtain ⟨C, hC, hmk0⟩ := or_make (P := Tryf.prog) 63 9 (.string ⟨#[]⟩) 16 Tryf.underlying63 info9 rfl 20 (by decide) (by decide)
        have hmk : ∀ W : World, (Instr.makeSlice 63 (.int .i64 0) (.int .i64 20)).run Tryf.prog W = .ok (.slice (some ⟨W.heap.size, 0, none⟩) 0 20) (W.alloc (.cells C 9)) := hmk0
        clear hmk0
        have R0 := Lib.hid (LR.made w w1 HB1.out C 20 hC (by decide))
        have hs2 : ∀ W, (Instr.sliceAt 63 (.slice (some ⟨g1, O, none⟩) L C1) (some (.int .i64 0)) (some (.int .i64 7)) none).run Tryf.prog W = .ok (.slice (some ⟨g1, O, none⟩) 7 C1) W := fun W => by
          have h := slice63 W g1 O 0 7 L C1 0 7 rfl rfl (by omega) (by omega)
          rw [show offA O 0 C1 = O by unfold offA; split <;> simp] at h
          exact h
        have hs3 : ∀ W, (Instr.sliceAt 63 (.slice (some ⟨g1, O, none⟩) L C1) (some (.int .i64 ((L : Int) - 7))) (some (.int .i64 L)) none).run Tryf.prog W = .ok (.slice (some ⟨g1, O + (L - 7), none⟩) 7 (C1 - (L - 7))) W := fun W => by
          have h := slice63 W g1 O (L - 7) L L C1 ((L : Int) - 7) L (by omega) rfl (by omega) hLC
          rw [show offA O (L - 7) C1 = O + (L - 7) by rw [offA, if_neg (by omega)], show L - (L - 7) = 7 by omega] at h
          exact h
        clear hC
        have K0 : Hid (∀ (j : Nat) x, (all.drop a)[j]? = some x → (w1.alloc (.cells C 9)).cell? ⟨g1, O + j, none⟩ = some (sv x)) := Lib.hid (fun j x hx => by
          rw [World.cell?_alloc_old _ _ _ (by show g1 ≠ w1.heap.size; omega)]
          exact K1.out j x hx)
        have HCL : Hid ((cutT (all.drop a)).length = 15) := Lib.hid (by rw [cutT, if_pos (by rw [HX.out]; omega), HX.out, List.length_append, List.length_cons, List.length_take, HX.out, List.length_drop, HX.out]; omega)
        have hn1 : ((all.drop a).take 7).length = 7 := by rw [List.length_take, HX.out]; omega
        have hn3 : ((all.drop a).drop (L - 7)).length = 7 := by rw [List.length_drop, HX.out]; omega
        have G0 : g1 ≠ w1.heap.size := by omega
        have HS : Hid (∀ W : World, (∀ (j : Nat) x, (all.drop a)[j]? = some x → W.cell? ⟨g1, O + j, none⟩ = some (sv x)) → ∀ (j : Nat) u, (((all.drop a).take 7).map sv)[j]? = some u → W.cell? ((⟨g1, O, none⟩ : Addr).add j) = some u) := Lib.hid (fun W h j u hu => by
          rw [List.getElem?_map] at hu
          obtain ⟨x, hx, rfl⟩ := Option.map_eq_some_iff.1 hu
          have hj := (List.getElem?_eq_some_iff.1 hx).1
          rw [hn1] at hj
          rw [List.getElem?_take, if_pos hj] at hx
          rw [add_at]
          exact h j x hx)
        have HE : Hid (∀ W : World, (∀ (j : Nat) x, (all.drop a)[j]? = some x → W.cell? ⟨g1, O + j, none⟩ = some (sv x)) → ∀ (j : Nat) u, (((all.drop a).drop (L - 7)).map sv)[j]? = some u → W.cell? ((⟨g1, O + (L - 7), none⟩ : Addr).add j) = some u) := Lib.hid (fun W h j u hu => by
          rw [List.getElem?_map] at hu
          obtain ⟨x, hx, rfl⟩ := Option.map_eq_some_iff.1 hu
          rw [List.getElem?_drop] at hx
          have := h (L - 7 + j) x hx
          rw [← Nat.add_assoc] at this
          rw [add_at]
          exact this)
        have HL1 : ∀ (l : List (List UInt8)), ∀ u ∈ l.map sv, u.oneCell' = true := fun l u hu => by
          obtain ⟨x, _, rfl⟩ := List.mem_map.1 hu
          rfl
        have HL2 := Lib.hid HL1
        clear HL1
        have HN1 := Lib.hid hn1
        have HN3 := Lib.hid hn3
        clear hn1 hn3
        go_wp2_with (first | (at_builtin; apply wpList_pushL R3.out (sl := .tmp 106) (x := .tmp 113) (ad := ⟨g1, O + (L - 7), none⟩) (k := 7) (c := C1 - (L - 7)) (news := ((all.drop a).drop (L - 7)).map sv) (M := 15); (case hgd => rfl); (case ho => rfl); (case hs => rfl); (case hx => rfl); (case hl => (rw [List.length_map]; exact HN3.out)); (case hnews => exact HE.out _ K3.out); (case h1 => exact HL2.out _); (case hk => decide); (case hM => rfl); (case hm => decide); intro g4 cap4 w4 r4 gr4 hg4; have R4 := Lib.hid r4; clear r4 gr4 hg4 hs1 hs2 hs3 hmk) | (at_builtin; refine wpList_push1 (LR.below R2.out (by go_grown)) rfl (.tmp 103) (.tmp 104) rfl rfl _ ⟨#[9, 46, 46, 46]⟩ rfl (by go_simp) 8 rfl (by decide) ?_; intro g3 cap3 w3 r3 gr3 hg3; have R3 := Lib.hid r3; have K3 : Hid (∀ (j : Nat) x, (all.drop a)[j]? = some x → w3.cell? ⟨g1, O + j, none⟩ = some (sv x)) := Lib.hid (fun j x hx => by rw [World.cell?_of_block (gr3.block g1 (by simp; omega) (by intro e; injection e with e; omega)), World.cell?_alloc_old _ _ _ (by show g1 ≠ w2.heap.size; omega)]; exact K2.out j x hx); clear r3 gr3 hg3) | (at_builtin; apply wpList_pushL R0.out (sl := .tmp 99) (x := .tmp 101) (ad := ⟨g1, O, none⟩) (k := 7) (c := C1) (news := ((all.drop a).take 7).map sv) (M := 7); (case hgd => rfl); (case ho => rfl); (case hs => rfl); (case hx => rfl); (case hl => (rw [List.length_map]; exact HN1.out)); (case hnews => exact HS.out _ K0.out); (case h1 => exact HL2.out _); (case hk => decide); (case hM => rfl); (case hm => decide); intro g2 cap2 w2 r2 gr2 hg2; have R2 := Lib.hid r2; have lt2 := r2.base.2; have ls2 : (w1.alloc (.cells C 9)).heap.size ≤ w2.heap.size := gr2.size; have ne2 : g1 ≠ g2 := LR_ne hg1 hg2; have lt1 : g1 < w2.heap.size := LR_lt hg1 ls2; have K2 : Hid (∀ (j : Nat) x, (all.drop a)[j]? = some x → w2.cell? ⟨g1, O + j, none⟩ = some (sv x)) := Lib.hid (fun j x hx => by rw [World.cell?_of_block (gr2.block g1 (LR_lt hg1 (Nat.le_refl _)) (fun e => G0 (Option.some.inj e)))]; exact K0.out j x hx); clear r2 gr2 hg2 ls2))
        have K5 : Hid (∀ (j : Nat) x, (cutT (all.drop a))[j]? = some x → w4.cell? ⟨g4, 0 + j, none⟩ = some (sv x)) := Lib.hid (fun j x hx => by
          rw [Nat.zero_add]
          rw [cutT, if_pos (by rw [HX.out]; omega), HX.out] at hx
          refine R4.out.at_ ?_
          have e : ([] ++ ((all.drop a).take 7).map sv ++ [Value.string ⟨#[9, 46, 46, 46]⟩] ++ ((all.drop a).drop (L - 7)).map sv) = ((all.drop a).take 7 ++ dotT :: (all.drop a).drop (L - 7)).map sv := by simp [sv, dotT]
          rw [e, List.getElem?_map, hx]
          rfl)
        have hc4 := R4.out.cap_
        have hg4 := R4.out.base.2
        have HB4 := Lib.hid R4.out.bel
        obtain ⟨T2, hT2⟩ : ∃ T2 : ByteArray, (⟨(Lib.join (cutT (all.drop a)) [10]).toArray⟩ : ByteArray) = T2 := ⟨_, rfl⟩
        have hJ := join_len (cutT (all.drop a)) (fun x hx => by have := cutT_len HXL.out x hx; omega)
        obtain ⟨T3, hT3⟩ : ∃ T3 : ByteArray, (⟨(headT ++ [10] ++ T2.data.toList).toArray⟩ : ByteArray) = T3 := ⟨_, rfl⟩
        have HT3 : Hid ((⟨(traceT z src ld child d lv).toArray⟩ : ByteArray) = T3) := Lib.hid (by rw [← hT3, ← hT2, traceT, ← HALL.out, HA.out])
        have t3 := (tx_all F headT T2.data.toList (by decide) (by rw [← hT2]; show (Lib.join (cutT (all.drop a)) [10]).length ≤ _; rw [HCL.out] at hJ; omega)).trans hT3
        unfold headT at t3
        have c34 := join34 w4 g4 0 15 cap4 (cutT (all.drop a)) HCL.out K5.out (by omega) hg4 (by omega) (fun x hx => by have := cutT_len HXL.out x hx; omega)
        unfold WPost at c34
        rw [hT2] at c34
        clear hT2 hT3
        refine c34.mono ?_
        clear c34
        rintro e w9 ⟨rfl, hb9⟩
        have HB9 := Lib.hid (HB4.out.trans (hb9.mono HB4.out.size))
        have hF9 := answers_open (show F.told.answers w9.tape by rw [HB9.out.tape]; exact HF.out)
        clear hb9
        go_wp2
        go_ret
        exact ⟨by rw [HT3.out]; rfl, below_drew (below_one HB9.out _)⟩
      · have hL20i : ¬ 20 < (L : Int) := by omega
        have HCL : Hid ((cutT (all.drop a)).length = L) := Lib.hid (by rw [cutT, if_neg (by rw [HX.out]; omega)]; exact HX.out)
        have K2 : Hid (∀ (j : Nat) x, (cutT (all.drop a))[j]? = some x → w1.cell? ⟨g1, O + j, none⟩ = some (sv x)) := Lib.hid (by rw [cutT, if_neg (by rw [HX.out]; omega)]; exact K1.out)
        obtain ⟨T2, hT2⟩ : ∃ T2 : ByteArray, (⟨(Lib.join (cutT (all.drop a)) [10]).toArray⟩ : ByteArray) = T2 := ⟨_, rfl⟩
        have hJ := join_len (cutT (all.drop a)) (fun x hx => by have := cutT_len HXL.out x hx; omega)
        obtain ⟨T3, hT3⟩ : ∃ T3 : ByteArray, (⟨(headT ++ [10] ++ T2.data.toList).toArray⟩ : ByteArray) = T3 := ⟨_, rfl⟩
        have HT3 : Hid ((⟨(traceT z src ld child d lv).toArray⟩ : ByteArray) = T3) := Lib.hid (by rw [← hT3, ← hT2, traceT, ← HALL.out, HA.out])
        have t3 := (tx_all F headT T2.data.toList (by decide) (by rw [← hT2]; show (Lib.join (cutT (all.drop a)) [10]).length ≤ _; rw [HCL.out] at hJ; omega)).trans hT3
        unfold headT at t3
        have c34 := join34 w1 g1 O L C1 (cutT (all.drop a)) HCL.out K2.out (by omega) hg1 (by omega) (fun x hx => by have := cutT_len HXL.out x hx; omega)
        unfold WPost at c34
        rw [hT2] at c34
        clear hT2 hT3
        go_wp2_with fail
        refine c34.mono ?_
        clear c34
        rintro e w9 ⟨rfl, hb9⟩
        have HB9 := Lib.hid (HB1.out.trans (hb9.mono HB1.out.size))
        have hF9 := answers_open (show F.told.answers w9.tape by rw [HB9.out.tape]; exact HF.out)
        clear hb9
        go_wp2
        go_ret
        exact ⟨by rw [HT3.out]; rfl, below_drew (below_one HB9.out _)⟩
theorem trace22 (h : RN F w0 w pl n z src ld child B pa pcs pt) (hld : (Lit.int .i64 ld).wf = true) (lv : Int) (hlv : -9223372036854775808 ≤ lv ∧ lv ≤ 9223372036854775807) :
    Calls Tryf.prog 22 #[.pointer (some ⟨pl, 0, none⟩), .int .i64 lv] w (WPost (traceT z src ld child n lv) w) := by
  by_cases hn : n = 0
  · exact trace_0 h hn lv hlv
  · exact trace_s h hld (by omega) lv hlv
end
end Go.Proofs.YtlpnagpdjkgbcaaFmt

