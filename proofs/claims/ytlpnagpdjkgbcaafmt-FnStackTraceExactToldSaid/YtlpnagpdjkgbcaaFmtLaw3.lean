/- For every stack of frames, source name, line, thread parentage and level: the traceback is the model's text; the walk of the law. -/
import Derived.Test.YtlpnagpdjkgbcaaFmtTtx
import Derived.Test.YtlpnagpdjkgbcaaFmtLaw4
namespace Go.Proofs.YtlpnagpdjkgbcaaFmt
set_option linter.unusedVariables false
open Go.RowKit Go.ChangeShapes Go.Deep Go.Extern.Stop Go.Stop Go.Extern Go.Kit
theorem trace10 {w : World} {pl : Nat} {l : Int} {t : List UInt8} (h : Calls Tryf.prog 22 #[.pointer (some ⟨pl, 0, none⟩), .int .i64 l] w (WPost t w)) : Calls Tryf.prog 10 #[.pointer (some ⟨pl, 0, none⟩), .int .i64 l] w (WPost t w) := by
  go_enter Tryf.func10, Tryf.ntmps10
  go_wp2_with fail
  refine h.mono ?_
  clear h
  rintro e w1 ⟨rfl, hb⟩
  have HB := Lib.hid hb
  clear hb
  go_wp2
  go_ret
  exact ⟨rfl, HB.out⟩
set_option maxRecDepth 100000 in
set_option maxHeartbeats 2000000 in
theorem law3 (F : Interp) (A : Option Addr) (n c : Nat) (z : Nat → FR) (src : ByteArray) (ld : Int) (child : Bool) (lv : Int) (w : World) (hF : F.told.answers w.tape) (ha : Fms w A n c z) (hw : ∀ i, i < n → (z i).name.size ≤ maxLen) (hs : src.size ≤ maxLen) (hl : ∀ i, i < n → (Lit.int .i64 (z i).line).wf = true) (hld : (Lit.int .i64 ld).wf = true) (hv : -9223372036854775808 ≤ lv ∧ lv ≤ 9223372036854775807) :
    Calls Tryf.prog 3 #[.slice A n c, .string src, .int .i64 ld, .bool child, .int .i64 lv] w (Yes w) := by
  have B := bytes5 A n c z src ld child lv w ha hw hs
  have m1 := ha.len
  unfold maxLen at m1 hs
  by_cases b1 : 4096 < n
  · clear ha hw hl hF hld
    go_enter Tryf.func3, Tryf.ntmps3
    go_wp2_with fail
    refine B.mono ?_
    rintro e w1 ⟨b, rfl, rfl, hb⟩
    clear B hb
    cases b
    · go_wp2
      go_ret
      exact ⟨rfl, Below.refl _ _⟩
    · go_wp2
      go_ret
      exact ⟨rfl, Below.refl _ _⟩
  · have b1' : n ≤ 4096 := by omega
    by_cases b2 : 65536 < src.size
    · clear ha hw hl hF hld
      go_enter Tryf.func3, Tryf.ntmps3
      go_wp2_with fail
      refine B.mono ?_
      rintro e w1 ⟨b, rfl, rfl, hb⟩
      clear B hb
      cases b
      · go_wp2
        go_ret
        exact ⟨rfl, Below.refl _ _⟩
      · go_wp2
        go_ret
        exact ⟨rfl, Below.refl _ _⟩
    · have b2' : src.size ≤ 65536 := by omega
      have HA := Lib.hid ha
      have HL := Lib.hid hl
      have HF := Lib.hid hF
      have HLD := Lib.hid hld
      have HV := Lib.hid hv
      clear ha hw hl hF hs hld hv
      go_enter Tryf.func3, Tryf.ntmps3
      go_wp2_with fail
      refine B.mono ?_
      clear B
      rintro e w1 ⟨b, rfl, rfl, hb⟩
      cases b
      · clear hb
        go_wp2
        go_ret
        exact ⟨rfl, Below.refl _ _⟩
      · have hb' := hb rfl
        have O := ok6 A n c z src w HA.out hb'.1 (by omega)
        clear hb hb'
        go_wp2_with fail
        refine O.mono ?_
        clear O
        rintro e w1 ⟨b, rfl, rfl, hok⟩
        cases b
        · clear hok
          go_wp2
          go_ret
          exact ⟨rfl, Below.refl _ _⟩
        · have OK := Lib.hid (hok rfl)
          clear hok
          have U := unfold7 A n c z src w HA.out OK.out
          go_wp2_with fail
          refine U.mono ?_
          clear U
          rintro e w0 ⟨b, rfl, hb0⟩
          have HB0 := Lib.hid hb0
          clear hb0
          cases b
          · go_wp2
            go_ret
            exact ⟨rfl, HB0.out⟩
          · have HA0 := Lib.hid (HA.out.below HB0.out)
            have C := copy8 A n c z w0 HA0.out b1'
            go_wp2_with fail
            refine C.mono ?_
            clear C
            rintro e w1 ⟨A', rfl, hfm, hb1⟩
            have HFM := Lib.hid hfm
            have HB1 := Lib.hid (HB0.out.trans (hb1.mono HB0.out.size))
            clear hfm hb1
            have D := build9 A' n n z src ld child w1 HFM.out b1'
            go_wp2_with fail
            refine D.mono ?_
            clear D
            rintro e w2 ⟨pl, B, pa, pcs, pt, rfl, hst⟩
            have HST := Lib.hid hst
            have HB2 := Lib.hid (HB1.out.trans (hst.sk.bel.mono HB1.out.size))
            clear hst
            have rn : RN F w1 w2 pl n z src ld child B pa pcs pt := ⟨HST.out, by rw [HB2.out.tape]; exact HF.out, OK.out, HL.out⟩
            have E := trace10 (trace22 rn HLD.out lv HV.out)
            clear rn
            go_wp2_with fail
            refine E.mono ?_
            clear E
            rintro e w3 ⟨rfl, hb3⟩
            have HB3 := Lib.hid (HB2.out.trans (hb3.mono HB2.out.size))
            have HFM3 := Lib.hid ((HFM.out.below HST.out.sk.bel).below hb3)
            clear hb3
            have G := text11 A' n n z src ld child lv w3 HFM3.out OK.out HL.out HLD.out HV.out
            obtain ⟨T, hT⟩ : ∃ T, traceT z src ld child n lv = T := ⟨_, rfl⟩
            rw [hT] at G
            rw [hT]
            clear hT
            go_wp2_with fail
            refine G.mono ?_
            clear G
            rintro e w4 ⟨rfl, hb4⟩
            have HB4 := Lib.hid (HB3.out.trans (hb4.mono HB3.out.size))
            clear hb4
            go_wp2
            go_ret
            exact ⟨rfl, HB4.out⟩
end Go.Proofs.YtlpnagpdjkgbcaaFmt
