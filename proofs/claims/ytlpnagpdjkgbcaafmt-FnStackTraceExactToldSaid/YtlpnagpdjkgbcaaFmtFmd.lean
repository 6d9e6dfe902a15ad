/- formattedFrameFuncName; Where. -/
import Derived.Test.YtlpnagpdjkgbcaaFmtNmb
namespace Go.Proofs.YtlpnagpdjkgbcaaFmt
set_option linter.unusedVariables false
open Go.RowKit Go.ChangeShapes Go.Deep Go.Extern.Stop Go.Stop Go.Extern Go.Kit
section
variable {F : Interp} {w0 w : World} {pl n : Nat} {z : Nat → FR} {src : ByteArray} {ld : Int} {child : Bool} {B pa pcs : Nat} {pt : Option Addr}
set_option maxRecDepth 100000 in
theorem fmt_0 (h : RN F w0 w pl n z src ld child B pa pcs pt) (hk : 0 < n) (v : Addr) (c37 : Calls Tryf.prog 37 #[.pointer (some ⟨pl, 0, none⟩), .pointer (some v)] w (NPost (rawT z src ld child 0) true w)) :
    Calls Tryf.prog 31 #[.pointer (some ⟨pl, 0, none⟩), .pointer (some v)] w (WPost (fmtT z src ld child 0) w) := by
  have HT : Hid (fmtT z src ld child 0 = rawT z src ld child 0) := Lib.hid (by rw [fmtT, if_pos rfl])
  generalize rawT z src ld child 0 = T at *
  clear h
  go_enter Tryf.func31, Tryf.ntmps31
  go_wp2_with fail
  refine c37.mono ?_
  clear c37
  rintro e w1 ⟨rfl, hb⟩
  have HB := Lib.hid hb
  clear hb
  go_wp2
  go_ret
  exact ⟨by rw [HT.out]; rfl, HB.out⟩
set_option maxRecDepth 100000 in
theorem fmt_s (h : RN F w0 w pl n z src ld child B pa pcs pt) (hld : (Lit.int .i64 ld).wf = true) {k : Nat} (hk : k < n) (hk0 : k ≠ 0) (v : Addr) (c37 : Calls Tryf.prog 37 #[.pointer (some ⟨pl, 0, none⟩), .pointer (some v)] w (NPost (rawT z src ld child k) false w)) :
    Calls Tryf.prog 31 #[.pointer (some ⟨pl, 0, none⟩), .pointer (some v)] w (WPost (fmtT z src ld child k) w) := by
  have hl := rawT_len (child := child) h.ok hld hk
  have HT : Hid (fmtT z src ld child k = dress (rawT z src ld child k)) := Lib.hid (by rw [fmtT, if_neg hk0])
  obtain ⟨c, t, hct⟩ : ∃ c t, rawT z src ld child k = c :: t := by
    cases hr : rawT z src ld child k with
    | nil => rw [hr] at hl; simp at hl
    | cons c t => exact ⟨c, t, rfl⟩
  rw [hct] at c37 HT hl
  have hF := h.hF
  clear h hct
  obtain ⟨S, hS⟩ : ∃ S : ByteArray, (⟨(c :: t).toArray⟩ : ByteArray) = S := ⟨_, rfl⟩
  have hSl : S.data.toList = c :: t := by rw [← hS]
  unfold NPost at c37
  rw [hS] at c37
  have hsz : 0 < S.size := by
    show 0 < S.data.toList.length
    rw [hSl]; exact hl.2
  have h0 : S[0]'hsz = c := by
    subst hS
    rfl
  by_cases hc : c = 40
  · subst hc
    obtain ⟨T1, hT1⟩ : ∃ T1 : ByteArray, (⟨(funT ++ S.data.toList).toArray⟩ : ByteArray) = T1 := ⟨_, rfl⟩
    have t1 := (tx_nq F S.data.toList (by rw [hSl]; omega)).trans hT1
    have HD : Hid ((⟨(dress (40 :: t)).toArray⟩ : ByteArray) = T1) := Lib.hid (by rw [← hT1, hSl, dress, if_pos (by simp)])
    have hx : ((S[0]'hsz).toNat : Int) = 40 := by rw [h0]; rfl
    have hF2 : ∀ w1, Below w.heap.size w w1 → F.told.answers w1.tape := fun w1 hb => by rw [hb.tape]; exact hF
    clear hF hS hSl hT1
    go_enter Tryf.func31, Tryf.ntmps31
    go_wp2_with fail
    refine c37.mono ?_
    clear c37
    rintro e w1 ⟨rfl, hb⟩
    have hF' := answers_open (hF2 w1 hb)
    have HB := Lib.hid hb
    clear hb hF2
    go_wp2
    go_ret
    exact ⟨by rw [HT.out, HD.out]; rfl, below_drew (below_one HB.out _)⟩
  by_cases hc2 : c = 60
  · subst hc2
    obtain ⟨T1, hT1⟩ : ∃ T1 : ByteArray, (⟨(funT ++ S.data.toList).toArray⟩ : ByteArray) = T1 := ⟨_, rfl⟩
    have t1 := (tx_nq F S.data.toList (by rw [hSl]; omega)).trans hT1
    have HD : Hid ((⟨(dress (60 :: t)).toArray⟩ : ByteArray) = T1) := Lib.hid (by rw [← hT1, hSl, dress, if_pos (by simp)])
    have hx : ((S[0]'hsz).toNat : Int) = 60 := by rw [h0]; rfl
    have hF2 : ∀ w1, Below w.heap.size w w1 → F.told.answers w1.tape := fun w1 hb => by rw [hb.tape]; exact hF
    clear hF hS hSl hT1
    go_enter Tryf.func31, Tryf.ntmps31
    go_wp2_with fail
    refine c37.mono ?_
    clear c37
    rintro e w1 ⟨rfl, hb⟩
    have hF' := answers_open (hF2 w1 hb)
    have HB := Lib.hid hb
    clear hb hF2
    go_wp2
    go_ret
    exact ⟨by rw [HT.out, HD.out]; rfl, below_drew (below_one HB.out _)⟩
  · obtain ⟨T1, hT1⟩ : ∃ T1 : ByteArray, (⟨([102, 117, 110, 99, 116, 105, 111, 110, 32, 39] ++ S.data.toList ++ [39]).toArray⟩ : ByteArray) = T1 := ⟨_, rfl⟩
    have t1 := (tx_q F S.data.toList (by rw [hSl]; omega)).trans hT1
    have HD : Hid ((⟨(dress (c :: t)).toArray⟩ : ByteArray) = T1) := Lib.hid (by rw [← hT1, hSl, dress, if_neg (by simp [hc, hc2])])
    have hx1 : ((c.toNat : Int) != 40) = true := by
      simp only [bne_iff_ne, ne_eq]
      intro e
      exact hc (UInt8.toNat.inj (by have : c.toNat = 40 := by omega
                                    rw [this]; rfl))
    have hx2 : ((c.toNat : Int) != 60) = true := by
      simp only [bne_iff_ne, ne_eq]
      intro e
      exact hc2 (UInt8.toNat.inj (by have : c.toNat = 60 := by omega
                                     rw [this]; rfl))
    have hy1 : ¬ (c.toNat : Int) = 40 := by simpa using hx1
    have hy2 : ¬ (c.toNat : Int) = 60 := by simpa using hx2
    have hF2 : ∀ w1, Below w.heap.size w w1 → F.told.answers w1.tape := fun w1 hb => by rw [hb.tape]; exact hF
    clear hF hS hSl hT1
    go_enter Tryf.func31, Tryf.ntmps31
    go_wp2_with fail
    refine c37.mono ?_
    clear c37
    rintro e w1 ⟨rfl, hb⟩
    have hF' := answers_open (hF2 w1 hb)
    have HB := Lib.hid hb
    clear hb hF2
    go_wp2
    go_ret
    exact ⟨by rw [HT.out, HD.out]; rfl, below_drew (below_one HB.out _)⟩
theorem fmt31 (h : RN F w0 w pl n z src ld child B pa pcs pt) (hld : (Lit.int .i64 ld).wf = true) {k : Nat} (hk : k < n) :
    Calls Tryf.prog 31 #[.pointer (some ⟨pl, 0, none⟩), .pointer (some ⟨pa, k * 10, none⟩)] w (WPost (fmtT z src ld child k) w) := by
  have c37 := name37 (child := child) h hld hk
  by_cases hk0 : k = 0
  · subst hk0
    exact fmt_0 h hk _ c37
  · rw [show decide (k = 0) = false by simp [hk0]] at c37
    exact fmt_s h hld hk hk0 _ c37
theorem where30 {T : List UInt8} {v : Int} (c25 : Calls Tryf.prog 25 #[.pointer (some ⟨pl, 0, none⟩), .int .i64 v, .bool false] w (WPost T w)) :
    Calls Tryf.prog 30 #[.pointer (some ⟨pl, 0, none⟩), .int .i64 v] w (WPost T w) := by
  go_enter Tryf.func30, Tryf.ntmps30
  go_wp2_with fail
  refine c25.mono ?_
  clear c25
  rintro e w1 ⟨rfl, hb⟩
  have HB := Lib.hid hb
  clear hb
  go_wp2
  go_ret
  exact ⟨rfl, HB.out⟩
end
end Go.Proofs.YtlpnagpdjkgbcaaFmt
