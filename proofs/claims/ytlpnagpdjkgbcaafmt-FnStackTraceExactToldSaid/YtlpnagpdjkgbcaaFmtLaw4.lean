/- For every stack of frames, source name and level: where(level, true) names the first Lua frame from that level on; the walk of the law. -/
import Derived.Test.YtlpnagpdjkgbcaaFmtSk
namespace Go.Proofs.YtlpnagpdjkgbcaaFmt
set_option linter.unusedVariables false
open Go.RowKit Go.ChangeShapes Go.Deep Go.Extern.Stop Go.Stop Go.Extern Go.Kit
def Yes (w : World) (e : Ending) (w' : World) : Prop := e = .returned (.bool true) ∧ Below w.heap.size w w'
theorem where13 {w : World} {pl : Nat} {l : Int} {sk : Bool} {t : List UInt8} (h : Calls Tryf.prog 25 #[.pointer (some ⟨pl, 0, none⟩), .int .i64 l, .bool sk] w (WPost t w)) : Calls Tryf.prog 13 #[.pointer (some ⟨pl, 0, none⟩), .int .i64 l, .bool sk] w (WPost t w) := by
  go_enter Tryf.func13, Tryf.ntmps13
  go_wp2_with fail
  refine h.mono ?_
  clear h
  rintro e w1 ⟨rfl, hb⟩
  have HB := Lib.hid hb
  clear hb
  go_wp2
  go_ret
  exact ⟨rfl, HB.out⟩
set_option maxRecDepth 100000 in
set_option maxHeartbeats 2000000 in
theorem law4 (F : Interp) (A : Option Addr) (n c : Nat) (z : Nat → FR) (src : ByteArray) (lv : Int) (w : World) (hF : F.told.answers w.tape) (ha : Fms w A n c z) (hw : ∀ i, i < n → (z i).name.size ≤ maxLen) (hs : src.size ≤ maxLen) (hl : ∀ i, i < n → (Lit.int .i64 (z i).line).wf = true) (hv : lv ≤ 9223372036854775807) :
    Calls Tryf.prog 4 #[.slice A n c, .string src, .int .i64 lv] w (Yes w) := by
  have B := bytes12 A n c z src lv w ha hw hs
  have m1 := ha.len
  unfold maxLen at m1 hs
  by_cases b1 : 4096 < n
  · clear ha hw hl hF
    go_enter Tryf.func4, Tryf.ntmps4
    go_wp2_with fail
    refine B.mono ?_
    rintro e w1 ⟨b, rfl, rfl, hb⟩
    clear B hb
    cases b
    · go_wp2
      go_ret
      exact ⟨rfl, Below.refl _ _⟩
    · go_wp2
      go_ret
      exact ⟨rfl, Below.refl _ _⟩
  · have b1' : n ≤ 4096 := by omega
    by_cases b2 : 65536 < src.size
    · clear ha hw hl hF
      go_enter Tryf.func4, Tryf.ntmps4
      go_wp2_with fail
      refine B.mono ?_
      rintro e w1 ⟨b, rfl, rfl, hb⟩
      clear B hb
      cases b
      · go_wp2
        go_ret
        exact ⟨rfl, Below.refl _ _⟩
      · go_wp2
        go_ret
        exact ⟨rfl, Below.refl _ _⟩
    · have b2' : src.size ≤ 65536 := by omega
      have HA := Lib.hid ha
      have HL := Lib.hid hl
      have HF := Lib.hid hF
      clear ha hw hl hF hs
      go_enter Tryf.func4, Tryf.ntmps4
      go_wp2_with fail
      refine B.mono ?_
      clear B
      rintro e w1 ⟨b, rfl, rfl, hb⟩
      cases b
      · clear hb
        go_wp2
        go_ret
        exact ⟨rfl, Below.refl _ _⟩
      · have hb' := hb rfl
        have O := ok6 A n c z src w HA.out hb'.1 (by omega)
        clear hb hb'
        go_wp2_with fail
        refine O.mono ?_
        clear O
        rintro e w1 ⟨b, rfl, rfl, hok⟩
        cases b
        · clear hok
          go_wp2
          go_ret
          exact ⟨rfl, Below.refl _ _⟩
        · have OK := Lib.hid (hok rfl)
          clear hok
          by_cases b3 : lv < -65536
          · go_wp2
            go_ret
            exact ⟨rfl, Below.refl _ _⟩
          · have b3' : -65536 ≤ lv := by omega
            have C := copy8 A n c z w HA.out b1'
            go_wp2_with fail
            refine C.mono ?_
            clear C
            rintro e w1 ⟨A', rfl, hfm, hb1⟩
            have HFM := Lib.hid hfm
            have HB1 := Lib.hid hb1
            clear hfm hb1
            have D := build9 A' n n z src 0 false w1 HFM.out b1'
            go_wp2_with fail
            refine D.mono ?_
            clear D
            rintro e w2 ⟨pl, B, pa, pcs, pt, rfl, hst⟩
            have HST := Lib.hid hst
            have HB2 := Lib.hid (HB1.out.trans (hst.sk.bel.mono HB1.out.size))
            clear hst
            have rn : RN F w1 w2 pl n z src 0 false B pa pcs pt := ⟨HST.out, by rw [HB2.out.tape]; exact HF.out, OK.out, HL.out⟩
            have E := where13 (where_skip ((n : Int) + ts z n - lv).toNat w2 lv rn (by omega) hv (Nat.le_refl _))
            clear rn
            go_wp2_with fail
            refine E.mono ?_
            clear E
            rintro e w3 ⟨rfl, hb3⟩
            have HB3 := Lib.hid (HB2.out.trans (hb3.mono HB2.out.size))
            have HFM3 := Lib.hid ((HFM.out.below HST.out.sk.bel).below hb3)
            clear hb3
            have G := skip14 A' n n z src lv w3 HFM3.out OK.out HL.out (by omega) hv
            obtain ⟨T, hT⟩ : ∃ T, wv z n src lv = T := ⟨_, rfl⟩
            have hT2 : whr z n src ((n : Int) + ts z n - lv).toNat lv = T := hT
            rw [hT2]
            rw [hT] at G
            clear hT hT2
            go_wp2_with fail
            refine G.mono ?_
            clear G
            rintro e w4 ⟨rfl, hb4⟩
            have HB4 := Lib.hid (HB3.out.trans (hb4.mono HB3.out.size))
            clear hb4
            go_wp2
            go_ret
            exact ⟨rfl, HB4.out⟩
end Go.Proofs.YtlpnagpdjkgbcaaFmt
