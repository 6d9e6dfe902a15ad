/- The context as the laws use it: names registered so far, blocks entered so far. -/
import Derived.Test.YtpffohonpblfkaaFmtRead
namespace Go.Proofs.YtpffohonpblfkaaFmt
open Go.RowKit Go.ChangeShapes Go.Deep
def CXN (w0 w : World) (f : Nat) (nm : List ByteArray) (nb : Nat) : Prop := ∃ pr co gB cB gd cd bk es own oth, CX w0 w f pr co gB cB gd cd bk es own oth ∧ allN bk = nm ∧ bk.length = nb
section
variable {w0 w w' : World} {f nb : Nat} {nm : List ByteArray}
theorem CXN.below (h : CXN w0 w f nm nb) (hb : Below w.heap.size w w') : CXN w0 w' f nm nb := by
  obtain ⟨pr, co, gB, cB, gd, cd, bk, es, own, oth, h1, h2, h3⟩ := h
  exact ⟨pr, co, gB, cB, gd, cd, bk, es, own, oth, h1.below hb, h2, h3⟩
theorem CXN.bel (h : CXN w0 w f nm nb) : Below w0.heap.size w0 w := by
  obtain ⟨pr, co, gB, cB, gd, cd, bk, es, own, oth, h1, h2, h3⟩ := h
  exact h1.bel
theorem new13 (w : World) : Calls Tryf.prog 13 #[] w fun e w' => ∃ f, e = .returned (.pointer (some ⟨f, 0, none⟩)) ∧ CXN w w' f [] 1 := by
  have c := ctx_new ByteArray.empty w
  go_enter Tryf.func13, Tryf.ntmps13
  go_wp2_with fail
  refine c.mono ?_
  rintro e w' hF
  obtain ⟨f, w1, q, rfl, h1, h2, h3, rfl⟩ := hF
  obtain ⟨pr, co, gB, cB, gd, cd, b, p, own, oth, hc⟩ := cx_init h1 h2 h3
  have H : Hid (CXN w _ f [] 1) := Lib.hid ⟨pr, co, gB, cB, gd, cd, _, _, own, oth, hc, by simp [allN], rfl⟩
  clear h1 h2 h3 hc c
  obtain ⟨w2, hw2⟩ : ∃ w2, (w1.setCell ⟨f, 5, none⟩ (.slice (some ⟨w1.heap.size, 0, none⟩) 1 1)).alloc (.cells #[.pointer q] 54) = w2 := ⟨_, rfl⟩
  rw [hw2] at H ⊢
  clear hw2
  go_wp2
  go_ret
  exact ⟨f, rfl, H.out⟩
theorem enter33 (h : CXN w0 w f nm nb) (hn : nb ≤ 10000) : Calls Tryf.prog 33 #[.pointer (some ⟨f, 0, none⟩), .int .i64 0, .nilIface] w fun e w' => e = .returned (.tuple #[]) ∧ CXN w0 w' f nm (nb + 1) := by
  obtain ⟨pr, co, gB, cB, gd, cd, bk, es, own, oth, h, h2, h3⟩ := h
  obtain ⟨F, r1, r0, r01, r4, r5, r6, r9⟩ := h.row
  have hp := h.pos
  obtain ⟨x, hx⟩ : ∃ x, bk[bk.length - 1]? = some x := ⟨_, List.getElem?_eq_getElem (by omega)⟩
  have hbl : bp bk bk.length = some ⟨x.b, 0, none⟩ := by
    have := bp_succ hx
    rwa [show bk.length - 1 + 1 = bk.length by omega] at this
  rw [hbl] at r4
  refine (ent_walk (bs := bk.map BK.b) r1 r4 r5 r6 r9 h.bls (by omega)).mono ?_
  rintro e w' ⟨he, hE⟩
  obtain ⟨gB', cB', own', oth', b, p, hc⟩ := cx_ent h r1 hbl hE
  exact ⟨he, pr, co, gB', cB', gd, cd, _, es, own', oth', hc, by simpa [allN] using h2, by simp [h3]⟩
theorem enter19 (h : CXN w0 w f nm nb) (hn : nb ≤ 10000) : Calls Tryf.prog 19 #[.pointer (some ⟨f, 0, none⟩)] w fun e w' => e = .returned (.tuple #[]) ∧ CXN w0 w' f nm (nb + 1) := by
  have c := enter33 h hn
  clear h
  go_enter Tryf.func19, Tryf.ntmps19
  go_wp2_with fail
  refine c.mono ?_
  rintro e w' ⟨rfl, h1⟩
  have H := Lib.hid h1
  clear h1 c
  go_wp2
  go_end0
  exact ⟨rfl, H.out⟩
theorem reg34 (h : CXN w0 w f nm nb) (hn : nm.length + 1 ≤ 200) (name : ByteArray) : Calls Tryf.prog 34 #[.pointer (some ⟨f, 0, none⟩), .string name] w fun e w' => e = .returned (.int .i64 nm.length) ∧ CXN w0 w' f (nm ++ [name]) nb := by
  obtain ⟨pr, co, gB, cB, gd, cd, bk, es, own, oth, h, rfl, h3⟩ := h
  have hp := h.pos
  obtain ⟨ini, x, rfl⟩ : ∃ ini x, bk = ini ++ [x] := ⟨bk.dropLast, bk.getLast (by intro e; subst e; simp at hp), (List.dropLast_concat_getLast _).symm⟩
  rw [allN_len] at hn ⊢
  obtain ⟨F, r1, r0, r01, r4, r5, r6, r9⟩ := h.row
  obtain ⟨FP, p1, p2⟩ := h.prw
  obtain ⟨FC, c1, c2⟩ := h.cow
  obtain ⟨⟨FB, b1, b2, b3⟩, hv, hob⟩ := h.blk ini.length x (by simp)
  have hbl : bp (ini ++ [x]) (ini ++ [x]).length = some ⟨x.b, 0, none⟩ := by simp [bp]
  rw [hbl] at r4
  have ht : (ini ++ [x]).take ini.length = ini := by simp
  rw [ht] at hv
  have hl := h.len
  have tx : tot (ini ++ [x]) = tot ini + x.names.length := by rw [tot_append]; simp [tot]
  have hno : ∀ y, oth y → ¬ own ini.length y := fun y hy hh => h.sep _ _ hh hy
  refine (reg_walk name r1 r0 r01 r4 r6 p1 p2 c1 c2 b1 b2 h.dbg hv (hno _ h.inO.1) (hno _ h.inO.2.1) (hno _ h.inO.2.2.1) (hno _ h.inO.2.2.2.2) (fun y hy => (h.rng _ y hy).2) tx (by omega) (by omega)).mono ?_
  rintro e w' ⟨he, hR⟩
  obtain ⟨gd', cd', es', own', oth', hc⟩ := cx_reg h r1 p1 hR
  exact ⟨he, pr, co, gB, cB, gd', cd', _, es', own', oth', hc, by simp [allN], by simpa using h3⟩
theorem reg20 (h : CXN w0 w f nm nb) (hn : nm.length + 1 ≤ 200) (name : ByteArray) : Calls Tryf.prog 20 #[.pointer (some ⟨f, 0, none⟩), .string name] w fun e w' => e = .returned (.int .i64 nm.length) ∧ CXN w0 w' f (nm ++ [name]) nb := by
  have c := reg34 h hn name
  clear h
  go_enter Tryf.func20, Tryf.ntmps20
  go_wp2_with fail
  refine c.mono ?_
  rintro e w' ⟨rfl, h1⟩
  have H := Lib.hid h1
  clear h1 c
  go_wp2
  go_ret
  exact ⟨rfl, H.out⟩
theorem count22 (h : CXN w0 w f nm nb) (hn : nm.length ≤ 1000) : Calls Tryf.prog 22 #[.pointer (some ⟨f, 0, none⟩)] w fun e w' => e = .returned (.int .i64 nm.length) ∧ w = w' := by
  obtain ⟨pr, co, gB, cB, gd, cd, bk, es, own, oth, h, rfl, h3⟩ := h
  rw [allN_len] at hn ⊢
  have c := count35 h (by omega)
  clear h
  go_enter Tryf.func22, Tryf.ntmps22
  go_wp2_with fail
  refine c.mono ?_
  rintro e w' ⟨rfl, rfl⟩
  clear c
  go_wp2
  go_ret
  exact ⟨rfl, rfl⟩
theorem top24 (h : CXN w0 w f nm nb) : Calls Tryf.prog 24 #[.pointer (some ⟨f, 0, none⟩)] w fun e w' => e = .returned (.int .i64 nm.length) ∧ w = w' := by
  obtain ⟨pr, co, gB, cB, gd, cd, bk, es, own, oth, h, rfl, h3⟩ := h
  rw [allN_len]
  have c := top37 h
  clear h
  go_enter Tryf.func24, Tryf.ntmps24
  go_wp2_with fail
  refine c.mono ?_
  rintro e w' ⟨rfl, rfl⟩
  clear c
  go_wp2
  go_ret
  exact ⟨rfl, rfl⟩
def Find26 (nm : List ByteArray) (q : ByteArray) (w : World) (e : Ending) (w' : World) : Prop := ∃ r : Int, e = .returned (.int .i64 r) ∧ Last nm q r ∧ w = w'
theorem find38 (h : CXN w0 w f nm nb) (hn : nm.length ≤ 1000) (q : ByteArray) : Calls Tryf.prog 38 #[.pointer (some ⟨f, 0, none⟩), .string q] w (Find26 nm q w) := by
  obtain ⟨pr, co, gB, cB, gd, cd, bk, es, own, oth, h, rfl, h3⟩ := h
  rw [allN_len] at hn
  have c := find48 h (by omega) q
  clear h
  go_enter Tryf.func38, Tryf.ntmps38
  go_wp2_with fail
  refine c.mono ?_
  rintro e w' hF
  obtain ⟨r, a, rfl, hL, rfl⟩ := hF
  have HL := Lib.hid hL
  clear c hL
  go_wp2
  go_ret
  exact ⟨r, rfl, HL.out, rfl⟩
theorem find26 (h : CXN w0 w f nm nb) (hn : nm.length ≤ 1000) (q : ByteArray) : Calls Tryf.prog 26 #[.pointer (some ⟨f, 0, none⟩), .string q] w (Find26 nm q w) := by
  have c := find38 h hn q
  clear h
  go_enter Tryf.func26, Tryf.ntmps26
  go_wp2_with fail
  refine c.mono ?_
  rintro e w' hF
  obtain ⟨r, rfl, hL, rfl⟩ := hF
  have HL := Lib.hid hL
  clear c hL
  go_wp2
  go_ret
  exact ⟨r, rfl, HL.out, rfl⟩
theorem dlen29 (h : CXN w0 w f nm nb) : Calls Tryf.prog 29 #[.pointer (some ⟨f, 0, none⟩)] w fun e w' => e = .returned (.int .i64 nm.length) ∧ w = w' := by
  obtain ⟨pr, co, gB, cB, gd, cd, bk, es, own, oth, h, rfl, h3⟩ := h
  obtain ⟨F, r1, r0, _⟩ := h.row
  obtain ⟨FP, p1, p2⟩ := h.prw
  have c0 := r1.cell (i := 0) (by omega)
  have c11 := p1.cell (i := 11) (by omega)
  rw [r0] at c0
  rw [p2] at c11
  rw [allN_len, ← h.len]
  clear h r1 r0 p1 p2
  go_enter Tryf.func29, Tryf.ntmps29
  go_wp2
  go_ret
  exact ⟨rfl, rfl⟩
theorem dname30 (h : CXN w0 w f nm nb) (i : Nat) (hi : i < nm.length) (hn : nm.length ≤ 1000) : Calls Tryf.prog 30 #[.pointer (some ⟨f, 0, none⟩), .int .i64 i] w fun e w' => e = .returned (.string (nth nm i)) ∧ w = w' := by
  obtain ⟨pr, co, gB, cB, gd, cd, bk, es, own, oth, h, rfl, h3⟩ := h
  rw [allN_len, ← h.len] at hi
  rw [allN_len, ← h.len] at hn
  obtain ⟨F, r1, r0, _⟩ := h.row
  obtain ⟨FP, p1, p2⟩ := h.prw
  obtain ⟨e, he⟩ : ∃ e, es[i]? = some e := ⟨_, List.getElem?_eq_getElem hi⟩
  obtain ⟨⟨G, g1, g2⟩, _⟩ := h.ent i e he
  have c0 := r1.cell (i := 0) (by omega)
  have c11 := p1.cell (i := 11) (by omega)
  have cd1 := h.dbg.at_ (i := i) (v := .pointer (some ⟨e, 0, none⟩)) hi (by simp [ptrs, he])
  have ce := g1.cell (i := 0) (by omega)
  rw [r0] at c0
  rw [p2] at c11
  rw [g2] at ce
  obtain ⟨n, hnn⟩ : ∃ n, es.length = n := ⟨_, rfl⟩
  rw [hnn] at c11 hi hn
  clear h r1 r0 p1 p2 he g1 g2 hnn
  go_enter Tryf.func30, Tryf.ntmps30
  go_wp2
  go_ret
  exact ⟨rfl, rfl⟩
def LvPost (w : World) (n : Nat) (e : Ending) (w' : World) : Prop := ∃ A c, e = .returned (.slice A n c) ∧ Below w.heap.size w w'
theorem make_pairs0 : ∃ C : Array Value, C.size = 64 ∧ ∀ W : World, (Instr.makeSlice 66 (.int .i64 0) (.int .i64 32)).run Tryf.prog W = .ok (.slice (some ⟨W.heap.size, 0, none⟩) 0 32) (W.alloc (.cells C 98)) := by
  obtain ⟨i, hi, hzz⟩ := Option.map_eq_some_iff.1 pair_info
  simp only [Prod.mk.injEq] at hzz
  obtain ⟨hz, hs, hb⟩ := hzz
  refine ⟨madeCells #[.int .i64 0, .string ByteArray.empty] 64, by rw [size_madeCells], fun w => ?_⟩
  have hr := run_make (P := Tryf.prog) w 66 98 i _ Tryf.underlying66 hi hz .i64 .i64 0 32 (by omega) (by omega) (by rw [hb]; omega) (by omega)
  rw [hs] at hr
  exact hr
theorem owns_below {w w' : World} {base B : Nat} {e : TypeId} {size g n cap : Nat} {xs : List Value} (h : w.ownsRow base e size (.slice (some ⟨g, 0, none⟩) n cap) n xs) (hb : Below B w w') (hg : g < B) : w'.ownsRow base e size (.slice (some ⟨g, 0, none⟩) n cap) n xs := by
  refine ⟨h.1, ?_⟩
  rcases h.2 with h0 | ⟨g', cap', cur, hv, hb', hg', rest⟩
  · exact .inl h0
  · have : g' = g := by simp at hv; exact hv.1.symm
    subst this
    exact .inr ⟨_, cap', cur, hv, hb', (hb.block _ hg).trans hg', rest⟩
theorem owns_at {w : World} {base : Nat} {e : TypeId} {size g n cap : Nat} {xs : List Value} (h : w.ownsRow base e size (.slice (some ⟨g, 0, none⟩) n cap) n xs) : base ≤ g ∧ g < w.heap.size := by
  rcases h.2 with ⟨h0, _⟩ | ⟨g', cap', cur, hv, hb', hg', _⟩
  · simp at h0
  · simp at hv
    obtain ⟨rfl, _⟩ := hv
    exact ⟨hb', (Array.getElem?_eq_some_iff.1 hg').1⟩
theorem pairF_one (off : Int) (names : List ByteArray) (j : Nat) : (pairF off names j).oneCell' = true := by
  unfold pairF; split <;> rfl
set_option maxHeartbeats 4000000 in
set_option maxRecDepth 100000 in
theorem lv36 {pr co gB cB gd cd : Nat} {bk : List BK} {es : List Nat} {own : Nat → Nat → Prop} {oth : Nat → Prop} (h : CX w0 w f pr co gB cB gd cd bk es own oth) (ht : tot bk ≤ 1000) (hbk : bk.length ≤ 10001) : Calls Tryf.prog 36 #[.pointer (some ⟨f, 0, none⟩)] w (LvPost w (tot bk)) := by
  obtain ⟨C, hC, hmk⟩ := make_pairs0
  obtain ⟨i0, hi0, hz0, hz1, hz2⟩ := or_parts (P := Tryf.prog) (e := 98) (z := .agg #[.int .i64 0, .string ByteArray.empty]) (s := 2) (b := 24) pair_info
  obtain ⟨F, r1, _, _, _, r5, _, _⟩ := h.row
  have c5 := r1.cell (i := 5) (by omega)
  rw [r5] at c5
  have lf := r1.lt
  have H := Lib.hid h
  have HC := Lib.hid hC
  obtain ⟨n, hn⟩ : ∃ n, bk.length = n := ⟨_, rfl⟩
  rw [hn] at c5 hbk
  have HN := Lib.hid hn
  clear h r1 r5 hC hn
  go_enter Tryf.func36, Tryf.ntmps36
  go_wp2
  have S0 : Hid ((w.alloc (.cells C 98)).ownsRow w.heap.size 98 2 (.slice (some ⟨w.heap.size, 0, none⟩) 0 32) 0 [] ∧ Below w.heap.size w (w.alloc (.cells C 98))) := Lib.hid ⟨⟨rfl, .inr ⟨_, 32, C, rfl, Nat.le_refl _, blk_alloc_new _ _, Nat.zero_le _, by unfold maxLen; omega, by rw [HC.out], rfl⟩⟩, by go_grown⟩
  clear hmk
  go_loopw [3, 12] (fun v3 v12 wr => ∃ (k g cap : Nat) (xs : List Value), k ≤ n ∧ v12 = .int .i64 k ∧ v3 = .slice (some ⟨g, 0, none⟩) (tot (bk.take k)) cap ∧ Hid (wr.ownsRow w.heap.size 98 2 (.slice (some ⟨g, 0, none⟩) (tot (bk.take k)) cap) (tot (bk.take k)) xs ∧ Below w.heap.size w wr)) (fun _ v12 _ => n - (intOf v12).toNat)
  case atStart => exact ⟨0, w.heap.size, 32, [], Nat.zero_le _, by first | rfl | go_num, by simp [tot], Lib.hid ⟨by simpa [tot] using S0.out.1, S0.out.2⟩⟩
  case round =>
    clear S0
    obtain ⟨k, g, cap, xs, hk, rfl, rfl, hh⟩ := hrel
    have HH := Lib.hid hh.out
    clear hh
    have tle := tot_take_le bk k
    obtain ⟨T, hT⟩ : ∃ T, tot (bk.take k) = T := ⟨_, rfl⟩
    by_cases hkn : k < n
    · obtain ⟨x, hx⟩ : ∃ x, bk[k]? = some x := ⟨_, List.getElem?_eq_getElem (by rw [HN.out]; exact hkn)⟩
      have hcx := H.out.below HH.out.2
      obtain ⟨⟨FB, a1, a2, a3⟩, a4, _⟩ := hcx.blk k x hx
      have d0 := a1.cell (i := 0) (by omega)
      rw [a2] at d0
      have dB := hcx.bls.at_ (i := k) (v := .pointer (some ⟨x.b, 0, none⟩)) (by rw [HN.out]; exact hkn) (by simp [ptrs, hx])
      have ts := tot_take_succ hx
      have tl := tot_take_le bk (k + 1)
      have cl := pool_list a4 (by omega)
      have og := owns_at HH.out.1
      obtain ⟨m, hm⟩ : ∃ m, x.names.length = m := ⟨_, rfl⟩
      rw [hm] at cl ts
      rw [hT] at ts HH ⊢
      have hown := HH.out.1
      have HB := Lib.hid HH.out.2
      have HTS := Lib.hid ts
      have hT1 : T + m ≤ 1000 := by omega
      clear hcx a1 a2 a3 a4 hx hm hT HH ts
      go_wp2_with fail
      refine cl.mono ?_
      rintro e w2 ⟨rfl, hrow, hb2, hs2⟩
      have hown2 := owns_below hown hb2 og.2
      have HR := Lib.hid (And.intro hrow hb2)
      have hcl : ∀ j u, ((List.range (m * 2)).map (pairF (tot (bk.take k) : Nat) x.names))[j]? = some u → w2.cell? ((⟨wr.heap.size, 0, none⟩ : Addr).add j) = some u := fun j u hj => by
        rw [List.getElem?_map] at hj
        by_cases hj2 : j < m * 2
        · rw [List.getElem?_range hj2] at hj
          simp at hj
          subst hj
          have := hrow.cell hj2
          have e : (⟨wr.heap.size, 0, none⟩ : Addr).add j = ⟨wr.heap.size, j, none⟩ := by unfold Addr.add; split <;> simp_all
          rw [e]; exact this
        · rw [List.getElem?_eq_none (by simp; omega)] at hj; cases hj
      have HCL := Lib.hid hcl
      have hbs := HB.out.size
      clear hrow hb2 cl hown hcl d0 dB
      go_wp2_with (at_builtin; refine wpList_append_own _ rfl (.tmp 16) (.tmp 21) 66 rfl w.heap.size 98 i0 _ 2 24 Tryf.underlying66 hi0 hz0 hz1 hz2 rfl (by decide) (.slice (some ⟨g, 0, none⟩) T cap) T xs rfl hown2 ⟨wr.heap.size, 0, none⟩ m m ((List.range (m * 2)).map (pairF (tot (bk.take k) : Nat) x.names)) rfl (by simp) HCL.out (by intro u hu; simp at hu; obtain ⟨j, _, rfl⟩ := hu; exact pairF_one _ _ _) (by unfold maxLen; omega) (by omega) (by omega) ?_; intro v' w3 hown3 hgr hiff)
      obtain ⟨g', cap', rfl⟩ : ∃ g' cap', v' = .slice (some ⟨g', 0, none⟩) (T + m) cap' := by
        rcases hown3.2 with ⟨h0, _⟩ | ⟨g', cap', cur, hv, _⟩
        · have := hiff.1 h0
          simp at this
        · exact ⟨g', cap', hv⟩
      have S4 : Hid (w3.ownsRow w.heap.size 98 2 (.slice (some ⟨g', 0, none⟩) (T + m) cap') (T + m) (xs ++ (List.range (m * 2)).map (pairF (tot (bk.take k) : Nat) x.names)) ∧ Below w.heap.size w w3) := Lib.hid ⟨hown3, (HB.out.trans (HR.out.2.mono hbs)).trans ((Fr.grown (o := fun y => y = g) (Fr.refl _ w2) hgr (fun q hq => by simp [Value.ownBlock] at hq; exact .inl hq.symm)).below (by omega) (fun y hy => by subst hy; exact og.1))⟩
      clear hown3 hgr hiff hown2
      go_roundw
      case rel => exact ⟨k + 1, g', cap', _, by omega, by go_num, by rw [HTS.out], by rw [HTS.out]; exact S4⟩
      case measure => simp [intOf]; omega
    · obtain rfl : k = n := by omega
      have e : tot (bk.take k) = tot bk := by rw [← HN.out, List.take_length]
      rw [e]
      have HB := Lib.hid HH.out.2
      clear HH hT e
      go_wp2
      go_ret
      exact ⟨_, _, rfl, HB.out⟩
theorem lvlen23 (h : CXN w0 w f nm nb) (hn : nm.length ≤ 1000) (hb : nb ≤ 10001) : Calls Tryf.prog 23 #[.pointer (some ⟨f, 0, none⟩)] w fun e w' => e = .returned (.int .i64 nm.length) ∧ CXN w0 w' f nm nb := by
  have H := Lib.hid h
  obtain ⟨pr, co, gB, cB, gd, cd, bk, es, own, oth, h, h2, h3⟩ := h
  have hl : nm.length = tot bk := by rw [← h2, allN_len]
  rw [hl] at hn ⊢
  have c := lv36 h (by omega) (by omega)
  clear h h2 h3 hl
  go_enter Tryf.func23, Tryf.ntmps23
  go_wp2_with fail
  refine c.mono ?_
  rintro e w' hF
  obtain ⟨A, cc, rfl, hbel⟩ := hF
  have HB := Lib.hid hbel
  clear c hbel
  go_wp2
  go_ret
  exact ⟨rfl, H.out.below HB.out⟩
end
end Go.Proofs.YtpffohonpblfkaaFmt
