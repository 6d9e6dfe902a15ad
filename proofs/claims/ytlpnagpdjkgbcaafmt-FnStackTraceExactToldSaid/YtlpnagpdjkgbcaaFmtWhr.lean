/- where: the position text of the frame that a level gives. -/
import Derived.Test.YtlpnagpdjkgbcaaFmtGet
import Derived.Test.YtlpnagpdjkgbcaaFmtTxt
namespace Go.Proofs.YtlpnagpdjkgbcaaFmt
set_option linter.unusedVariables false
open Go.RowKit Go.ChangeShapes Go.Deep Go.Extern.Stop Go.Stop Go.Extern Go.Kit
def wtext (f : FR) (src : ByteArray) : List UInt8 := if f.g then [91, 71, 93, 58] else src.data.toList ++ [58] ++ Lib.itoa f.line ++ [58]
def WPost (txt : List UInt8) (w : World) (e : Ending) (w' : World) : Prop := e = .returned (.string ⟨txt.toArray⟩) ∧ Below w.heap.size w w'
theorem below_drew {B : Nat} {a w : World} (h : Below B a w) : Below B a w.drew := ⟨h.os, h.tape, h.output, h.size, h.block⟩
theorem below_one {w w1 : World} (h : Below w.heap.size w w1) (a : Obj) : Below w.heap.size w (w1.alloc a) := h.alloc h.size _
theorem below_two {w w1 : World} (h : Below w.heap.size w w1) (a b : Obj) : Below w.heap.size w ((w1.alloc a).alloc b) := (below_one h a).alloc (by have := h.size; simp; omega) _
/-- What a run over the built state wants. -/
structure RN (F : Interp) (w0 w : World) (pl n : Nat) (z : Nat → FR) (src : ByteArray) (ld : Int) (child : Bool) (B pa pcs : Nat) (pt : Option Addr) : Prop where
  st : ST w0 w pl n z src ld child B pa pcs pt
  hF : F.told.answers w.tape
  ok : FOK n z src
  lw : ∀ i, i < n → (Lit.int .i64 (z i).line).wf = true
theorem RN.below {F : Interp} {w0 w w' : World} {pl n : Nat} {z : Nat → FR} {src : ByteArray} {ld : Int} {child : Bool} {B pa pcs : Nat} {pt : Option Addr} (h : RN F w0 w pl n z src ld child B pa pcs pt) (hb : Below w.heap.size w w') : RN F w0 w' pl n z src ld child B pa pcs pt :=
  ⟨h.st.below hb, by rw [hb.tape]; exact h.hF, h.ok, h.lw⟩
section
variable {F : Interp} {w0 w : World} {pl n : Nat} {z : Nat → FR} {src : ByteArray} {ld : Int} {child : Bool} {B pa pcs : Nat} {pt : Option Addr}
theorem where_none (h : RN F w0 w pl n z src ld child B pa pcs pt) (l : Int) (l0 : -70000 ≤ l) (l1 : l ≤ 9223372036854775807) (hg : gs z n n l = none) (sk : Bool) :
    Calls Tryf.prog 25 #[.pointer (some ⟨pl, 0, none⟩), .int .i64 l, .bool sk] w (WPost [] w) := by
  have c28 := get28 h.st h.ok.hn h.ok.tail l l0 l1
  rw [hg] at c28
  clear h l0 l1 hg
  go_enter Tryf.func25, Tryf.ntmps25
  go_wp2_with fail
  refine c28.mono ?_
  clear c28
  rintro e w1 ⟨dp, rfl, hb⟩
  have HB := Lib.hid hb
  clear hb
  go_wp2
  go_ret
  exact ⟨rfl, HB.out⟩
set_option maxRecDepth 100000 in
set_option maxHeartbeats 2000000 in
theorem where_lua (h : RN F w0 w pl n z src ld child B pa pcs pt) (l : Int) (l0 : -70000 ≤ l) (l1 : l ≤ 9223372036854775807) {k : Nat} (hg : gs z n n l = some k) (hk : (z k).g = false) (sk : Bool) :
    Calls Tryf.prog 25 #[.pointer (some ⟨pl, 0, none⟩), .int .i64 l, .bool sk] w (WPost (wtext (z k) src) w) := by
  have c28 := get28 h.st h.ok.hn h.ok.tail l l0 l1
  have hkn := gs_lt (Nat.le_refl n) hg
  rw [hg] at c28
  have H := Lib.hid h
  have HK := Lib.hid hk
  clear h l0 l1 hg hk
  go_enter Tryf.func25, Tryf.ntmps25
  go_wp2_with fail
  refine c28.mono ?_
  clear c28
  rintro e w1 ⟨dp, ⟨rfl, hc⟩, hb⟩
  have H1 := Lib.hid (H.out.below hb)
  have HB := Lib.hid hb
  obtain ⟨Fr', hF, hf⟩ := H1.out.st.sk.arr
  obtain ⟨fp, hs⟩ := hf k hkn
  have f1 := hF.cell (i := k * 10 + 1) (by omega)
  have f3 := hF.cell (i := k * 10 + 3) (by omega)
  rw [hs.f1] at f1
  rw [hs.f3] at f3
  obtain ⟨pp, lp, dv, p2, p0, p1, p10, pl0, p12, pd⟩ := hs.fn.no HK.out
  have a2 := p2.2
  have a0 := p0.2
  have a10 := p10.2
  have al := pl0.2
  obtain ⟨T1, hT1⟩ : ∃ T1 : ByteArray, (⟨(Lib.itoa (z k).line ++ [58]).toArray⟩ : ByteArray) = T1 := ⟨_, rfl⟩
  have t1 := (tx_line F (z k).line (H.out.lw k hkn)).trans hT1
  have hT1l : T1.data.toList = Lib.itoa (z k).line ++ [58] := by rw [← hT1]
  have s1 : T1.data.toList.length ≤ 22 := by
    rw [hT1l]
    have := FmtText.itoa_length_le (H.out.lw k hkn)
    simp; omega
  have ss : src.data.toList.length ≤ 65536 := H.out.ok.hs
  obtain ⟨T2, hT2⟩ : ∃ T2 : ByteArray, (⟨(src.data.toList ++ [58] ++ T1.data.toList).toArray⟩ : ByteArray) = T2 := ⟨_, rfl⟩
  have t2 := (tx_where F src.data.toList T1.data.toList (by omega) (by omega)).trans hT2
  have HT : Hid (T2 = ⟨(wtext (z k) src).toArray⟩) := Lib.hid (by rw [← hT2, hT1l, wtext, if_neg (by rw [HK.out]; simp)]; simp)
  have hF' := answers_open H1.out.hF
  clear hb hF hf hs p2 p0 p1 p10 pl0 p12 pd hT1 hT1l hT2 s1 ss
  have hw0 : IntKind.i64.wrap ((1 : Int) - 1) = 0 := by decide
  have hw1 : IntKind.i64.wrap (0 : Int) = 0 := by decide
  go_wp2
  go_still_tail 12, (by kernel_rfl)
  change wpList _ _ _ _ _ w1.drew
  go_wp2
  go_ret
  refine ⟨by rw [HT.out]; rfl, ?_⟩
  exact below_drew (below_drew (below_drew (below_two HB.out _ _)))
theorem where_g (h : RN F w0 w pl n z src ld child B pa pcs pt) (l : Int) (l0 : -70000 ≤ l) (l1 : l ≤ 9223372036854775807) {k : Nat} (hg : gs z n n l = some k) (hk : (z k).g = true) :
    Calls Tryf.prog 25 #[.pointer (some ⟨pl, 0, none⟩), .int .i64 l, .bool false] w (WPost (wtext (z k) src) w) := by
  have c28 := get28 h.st h.ok.hn h.ok.tail l l0 l1
  have hkn := gs_lt (Nat.le_refl n) hg
  rw [hg] at c28
  have H := Lib.hid h
  have HK := Lib.hid hk
  clear h l0 l1 hg hk
  go_enter Tryf.func25, Tryf.ntmps25
  go_wp2_with fail
  refine c28.mono ?_
  clear c28
  rintro e w1 ⟨dp, ⟨rfl, hc⟩, hb⟩
  have H1 := Lib.hid (H.out.below hb)
  have HB := Lib.hid hb
  obtain ⟨Fr', hF, hf⟩ := H1.out.st.sk.arr
  obtain ⟨fp, hs⟩ := hf k hkn
  have f1 := hF.cell (i := k * 10 + 1) (by omega)
  rw [hs.f1] at f1
  have a2 := (hs.fn.yes HK.out).2
  obtain ⟨T2, hT2⟩ : ∃ T2 : ByteArray, (⟨(([91, 71, 93] : List UInt8) ++ [58] ++ []).toArray⟩ : ByteArray) = T2 := ⟨_, rfl⟩
  have t2 := (tx_where F [91, 71, 93] [] (by decide) (by decide)).trans hT2
  have HT : Hid (T2 = ⟨(wtext (z k) src).toArray⟩) := Lib.hid (by rw [← hT2, wtext, if_pos HK.out]; rfl)
  have hF' := answers_open H1.out.hF
  clear hb hF hf hs hT2
  go_wp2
  go_ret
  exact ⟨by rw [HT.out]; rfl, below_drew (below_one HB.out _)⟩
/-- where(level, true): the first Lua frame from a level on. -/
def whr (z : Nat → FR) (n : Nat) (src : ByteArray) : Nat → Int → List UInt8
  | 0, _ => []
  | m + 1, l => match gs z n n l with
    | none => []
    | some k => if (z k).g then whr z n src m (l + 1) else wtext (z k) src
theorem gs_none {z : Nat → FR} {n : Nat} (hz : ∀ i, i < n → 0 ≤ zt (z i) ∧ zt (z i) ≤ 65536) {j : Nat} (hj : j ≤ n) {l : Int} (hl : (j : Int) + ts z j ≤ l) (h0 : 0 ≤ (j : Int) + ts z j) : gs z n j l = none := by
  induction j generalizing l with
  | zero => rw [gs, if_neg (by simp [ts] at hl; omega)]
  | succ j ih =>
    have hzj := hz j (by omega)
    have e : ts z (j + 1) = ts z j + zt (z j) := rfl
    have hp : 0 ≤ ts z j := by
      clear ih hl h0 e hzj
      induction j with
      | zero => exact Int.le_refl _
      | succ j ih2 => have := hz j (by omega); have := ih2 (by omega); rw [ts]; omega
    rw [gs, if_pos (by omega)]
    exact ih (by omega) (by omega) (by omega)
theorem ts_nonneg {z : Nat → FR} {n : Nat} (hz : ∀ i, i < n → 0 ≤ zt (z i) ∧ zt (z i) ≤ 65536) {j : Nat} (hj : j ≤ n) : 0 ≤ ts z j := by
  induction j with
  | zero => exact Int.le_refl _
  | succ j ih => have := hz j (by omega); have := ih (by omega); rw [ts]; omega
set_option maxRecDepth 100000 in
theorem where_skip (m : Nat) : ∀ (w : World) (l : Int), RN F w0 w pl n z src ld child B pa pcs pt → -70000 ≤ l → l ≤ 9223372036854775807 → ((n : Int) + ts z n - l).toNat ≤ m → Calls Tryf.prog 25 #[.pointer (some ⟨pl, 0, none⟩), .int .i64 l, .bool true] w (WPost (whr z n src m l) w) := by
  induction m with
  | zero =>
    intro w l h l0 l1 hm
    rw [whr]
    exact where_none h l l0 l1 (gs_none h.ok.tail (Nat.le_refl n) (by omega) (by have := ts_nonneg h.ok.tail (Nat.le_refl n); omega)) true
  | succ m ih =>
    intro w l h l0 l1 hm
    cases hg : gs z n n l with
    | none => rw [whr, hg]; exact where_none h l l0 l1 hg true
    | some k =>
      cases hk : (z k).g
      · rw [whr, hg]
        simp only [hk]
        exact where_lua h l l0 l1 hg hk true
      · have hlt : l < (n : Int) + ts z n := by
          rcases Int.lt_or_le l ((n : Int) + ts z n) with h1 | h1
          · exact h1
          · have := gs_none h.ok.tail (Nat.le_refl n) h1 (by have := ts_nonneg h.ok.tail (Nat.le_refl n); omega)
            rw [this] at hg; cases hg
        have hs1 : ts z n ≤ 65536 := h.ok.sum
        have hn1 := h.ok.hn
        have e : whr z n src (m + 1) l = whr z n src m (l + 1) := by rw [whr, hg]; simp [hk]
        rw [e]
        have c25 := fun w1 (h1 : RN F w0 w1 pl n z src ld child B pa pcs pt) => ih w1 (l + 1) h1 (by omega) (by omega) (by omega)
        have c28 := get28 h.st h.ok.hn h.ok.tail l l0 l1
        have hkn := gs_lt (Nat.le_refl n) hg
        rw [hg] at c28
        have H := Lib.hid h
        have HK := Lib.hid hk
        have hl1 : l + 1 ≤ 9223372036854775807 := by omega
        have C := Lib.hid c25
        clear h hg hk e hm ih c25
        go_enter Tryf.func25, Tryf.ntmps25
        go_wp2_with fail
        refine c28.mono ?_
        clear c28
        rintro e w1 ⟨dp, ⟨rfl, hc⟩, hb⟩
        have H1 := Lib.hid (H.out.below hb)
        have HB := Lib.hid hb
        obtain ⟨Fr', hF, hf⟩ := H1.out.st.sk.arr
        obtain ⟨fp, hs⟩ := hf k hkn
        have f1 := hF.cell (i := k * 10 + 1) (by omega)
        rw [hs.f1] at f1
        have a2 := (hs.fn.yes HK.out).2
        clear hb hF hf hs
        have cc := C.out w1 H1.out
        go_wp2_with fail
        refine cc.mono ?_
        clear cc
        rintro e w2 ⟨rfl, hb2⟩
        have HB2 := Lib.hid hb2
        clear hb2
        go_wp2
        go_ret
        exact ⟨rfl, HB.out.trans (HB2.out.mono HB.out.size)⟩
end
end Go.Proofs.YtlpnagpdjkgbcaaFmt
