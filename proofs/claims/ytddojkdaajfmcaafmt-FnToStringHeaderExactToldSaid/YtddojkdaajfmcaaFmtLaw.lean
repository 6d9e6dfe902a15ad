/- For every 32-bit instruction: the listing opens with the header that the law reckons; the walk of the law. -/
import Derived.Test.YtddojkdaajfmcaaFmtNames
import Derived.Test.YtddojkdaajfmcaaFmtItoa
namespace Go.Proofs.YtddojkdaajfmcaaFmt
set_option linter.unusedVariables false
set_option linter.unusedSimpArgs false
open Go.RowKit Go.Extern.Stop Go.Stop Go.Extern Go.Kit
def Yes (w : World) (e : Ending) (w' : World) : Prop := e = .returned (.bool true) ∧ Below w.heap.size w w'
set_option maxRecDepth 100000 in
set_option maxHeartbeats 1000000 in
theorem big7 (x : Int) (h : 0 ≤ x ∧ x ≤ 4294967295) (w : World) (hb : 41 < OP x) : Calls Tryf.prog 7 #[.int .u32 x] w fun e w' => e = .returned (.string ⟨#[]⟩) ∧ w = w' := by
  have g8 := get8 x h w
  have hb2 : decide (41 < OP x) = true := decide_eq_true hb
  go_enter Tryf.func7, Tryf.ntmps7
  go_wp2_with fail
  refine g8.mono ?_
  clear g8
  rintro e w1 ⟨rfl, rfl⟩
  go_wp2
  go_ret
  exact ⟨rfl, rfl⟩
set_option maxHeartbeats 1000000 in
theorem law_big (x : Int) (h : 0 ≤ x ∧ x ≤ 4294967295) (w : World) (hb : 41 < OP x) : Calls Tryf.prog 3 #[.int .u32 x] w (Yes w) := by
  have b7 := fun w => big7 x h w hb
  have h1 := h.1
  have h2 := h.2
  have b0 : 0 ≤ x / 67108864 := by omega
  have b1 : x / 67108864 ≤ 63 := by omega
  have hb2 : 41 < x / 67108864 := hb
  have c4 : ∀ w, Calls Tryf.prog 4 #[.int .u32 x] w fun e w' => e = .returned (.string ⟨#[]⟩) ∧ w = w' := by
    intro w
    go_enter Tryf.func4, Tryf.ntmps4
    go_wp2_with fail
    refine (b7 w).mono ?_
    rintro e w1 ⟨rfl, rfl⟩
    go_wp2
    go_ret
    exact ⟨rfl, rfl⟩
  clear h b7 hb
  go_enter Tryf.func3, Tryf.ntmps3
  go_wp2_with fail
  refine (c4 _).mono ?_
  rintro e w1 ⟨rfl, rfl⟩
  go_wp2
  go_ret
  exact ⟨rfl, Below.refl _ _⟩
theorem call4 {name : List UInt8} {T : Nat} {more : Bool} {x : Int} {w : World} (h : Calls Tryf.prog 7 #[.int .u32 x] w (TS name T more x w)) : Calls Tryf.prog 4 #[.int .u32 x] w (TS name T more x w) := by
  go_enter Tryf.func4, Tryf.ntmps4
  go_wp2_with fail
  refine h.mono ?_
  rintro e w1 ⟨R, rfl, hb, hl, hr⟩
  have HB := Lib.hid hb
  have HL := Lib.hid hl
  have HR := Lib.hid hr
  clear hb hl hr
  go_wp2
  go_ret
  exact ⟨R, rfl, HB.out, HL.out, HR.out⟩
theorem itoa_size (n : Int) (h1 : -9000000 ≤ n) (h2 : n ≤ 9000000) {s : ByteArray} (h : s = ⟨(Lib.itoa n).toArray⟩) : s.size ≤ 21 := by
  subst h
  exact FmtText.itoa_length_le (wf_of ⟨h1, h2⟩)
theorem ext_facts {hd R : List UInt8} {S H : ByteArray} (hS : (⟨(hd ++ R).toArray⟩ : ByteArray) = S) (hH : H.data.toList = hd) {n : Nat} (hn : H.size = n) :
    S.extract 0 n = H ∧ S.extract n S.size = ⟨R.toArray⟩ ∧ S.size = n + R.length := by
  subst hS
  have hl : hd.length = n := by rw [← hH, ← hn]; rfl
  refine ⟨?_, ?_, ?_⟩
  · rw [bytes_ext hH]
    apply bytes_ext
    simp [ByteArray.data_extract, List.extract, ← hl]
  · apply bytes_ext
    simp [ByteArray.data_extract, ← hl, ByteArray.size]
  · simp [ByteArray.size, hl]
theorem two_facts {r : List UInt8} {RB : ByteArray} (h : (⟨(59 :: 32 :: r).toArray⟩ : ByteArray) = RB) : ∃ h2 : 2 ≤ RB.size, RB[0]'(by omega) = 59 ∧ RB[1]'(by omega) = 32 := by
  subst h
  exact ⟨by simp [ByteArray.size], rfl, rfl⟩
set_option maxRecDepth 100000 in
set_option maxHeartbeats 4000000 in
theorem law_0 (x : Int) (h : 0 ≤ x ∧ x ≤ 4294967295) (w : World) (k : Nat) (hk : k < 41) (hop : OP x = k) (N : List UInt8) (hN : N.length ≤ 100)
    (c7 : Calls Tryf.prog 7 #[.int .u32 x] w (TS N 0 true x w)) (c5 : ∀ w, Calls Tryf.prog 5 #[.int .i64 k] w fun e w' => e = .returned (.tuple #[.string ⟨N.toArray⟩, .int .i64 0]) ∧ w = w') :
    Calls Tryf.prog 3 #[.int .u32 x] w (Yes w) := by
  have h1 := h.1
  have h2 := h.2
  have b0 : 0 ≤ x / 67108864 := by omega
  have b1 : x / 67108864 ≤ 63 := by omega
  have b2 : x / 67108864 = (k : Int) := hop
  have b3 : ¬ (41 : Int) < (k : Int) := by omega
  have b4 : ((k : Int) == 41) = false := by simp; omega
  have b5 : ¬ (k : Int) = 41 := by omega
  have a0 : 0 ≤ x / 262144 := by omega
  have a1 : x / 262144 ≤ 16383 := by omega
  have a2 : 0 ≤ x / 262144 % 256 := by omega
  have a3 : x / 262144 % 256 ≤ 255 := by omega
  have d0 : 0 ≤ x % 512 := by omega
  have d1 : x % 512 ≤ 511 := by omega
  have e0 : 0 ≤ x / 512 := by omega
  have e1 : x / 512 ≤ 8388607 := by omega
  have e2 : 0 ≤ x / 512 % 512 := by omega
  have e3 : x / 512 % 512 ≤ 511 := by omega
  have f0 : 0 ≤ x % 262144 := by omega
  have f1 : x % 262144 ≤ 262143 := by omega
  obtain ⟨NB, hNB⟩ : ∃ NB : ByteArray, (⟨N.toArray⟩ : ByteArray) = NB := ⟨_, rfl⟩
  have c4 := call4 c7
  rw [hNB] at c5
  have HNB := Lib.hid hNB
  have nb : NB.size ≤ 100 := by rw [← hNB]; exact hN
  have q0 : ¬ 9223372036854775807 < NB.size + 9 := by omega
  clear h hop c7 hNB
  go_enter Tryf.func3, Tryf.ntmps3
  go_wp2_with fail
  refine c4.mono ?_
  clear c4
  rintro e w1 ⟨R, rfl, hb, hl, hr⟩
  obtain ⟨S, hS⟩ : ∃ S : ByteArray, (⟨(HD N 0 x ++ R).toArray⟩ : ByteArray) = S := ⟨_, rfl⟩
  rw [hS]
  have HS := Lib.hid hS
  have HB := Lib.hid hb
  have HL := Lib.hid hl
  have HR := Lib.hid hr
  clear hb hl hr hS
  go_wp2_with fail
  refine (c5 _).mono ?_
  clear c5
  rintro e w2 ⟨rfl, rfl⟩
  go_wp2_with fail
  refine (itoa_any _ (by omega) (by omega) _).mono ?_
  rintro e w3 ⟨SA, rfl, hSA, hbA⟩
  have na : SA.size ≤ 21 := itoa_size _ (by omega) (by omega) hSA
  have q1 : ¬ 9223372036854775807 < NB.size + 9 + SA.size := by omega
  have q2 : ¬ 9223372036854775807 < NB.size + 9 + SA.size + 2 := by omega
  have HSA := Lib.hid hSA
  have HBA := Lib.hid (HB.out.trans (hbA.mono HB.out.size))
  clear hSA hbA
  go_wp2_with fail
  refine (itoa_any _ (by omega) (by omega) _).mono ?_
  rintro e w4 ⟨SB, rfl, hSB, hbSB⟩
  have nSB : SB.size ≤ 21 := itoa_size _ (by omega) (by omega) hSB
  have q3 : ¬ 9223372036854775807 < NB.size + 9 + SA.size + 2 + SB.size := by omega
  have q4 : ¬ 9223372036854775807 < NB.size + 9 + SA.size + 2 + SB.size + 2 := by omega
  have HSB := Lib.hid hSB
  have HBSB := Lib.hid (HBA.out.trans (hbSB.mono HBA.out.size))
  clear hSB hbSB HBA
  go_wp2_with fail
  refine (itoa_any _ (by omega) (by omega) _).mono ?_
  rintro e w4 ⟨SC, rfl, hSC, hbSC⟩
  have nSC : SC.size ≤ 21 := itoa_size _ (by omega) (by omega) hSC
  have q5 : ¬ 9223372036854775807 < NB.size + 9 + SA.size + 2 + SB.size + 2 + SC.size := by omega
  have HSC := Lib.hid hSC
  have HBSC := Lib.hid (HBSB.out.trans (hbSC.mono HBSB.out.size))
  clear hSC hbSC HBSB
  have hH : (NB ++ ({ data := #[32, 32, 32, 32, 32, 32, 124, 32, 32] } : ByteArray) ++ SA ++ ({ data := #[44, 32] } : ByteArray) ++ SB ++ ({ data := #[44, 32] } : ByteArray) ++ SC).data.toList = HD N 0 x := by
    rw [← HNB.out, HSA.out, HSB.out, HSC.out]
    simp [HD, AA, BB, CC, BX, SX]
  obtain ⟨z1, z2, z3⟩ := ext_facts HS.out hH (n := NB.size + 9 + SA.size + 2 + SB.size + 2 + SC.size) (by simp [ByteArray.size_append]; rfl)
  obtain ⟨r, hr⟩ : ∃ r, R = 59 :: 32 :: r := by
    rcases HR.out with ⟨_, h⟩ | ⟨h, _⟩
    · exact h
    · cases h
  rw [hr] at z2
  obtain ⟨RB, hRB⟩ : ∃ RB : ByteArray, (⟨(59 :: 32 :: r).toArray⟩ : ByteArray) = RB := ⟨_, rfl⟩
  obtain ⟨y0, y1, y2⟩ := two_facts hRB
  rw [hRB] at z2
  have z4 : ¬ S.size < NB.size + 9 + SA.size + 2 + SB.size + 2 + SC.size := by omega
  have z5 : NB.size + 9 + SA.size + 2 + SB.size + 2 + SC.size ≤ S.size := by omega
  have y3 : decide ((2 : Int) ≤ (RB.size : Int)) = true := decide_eq_true (by omega)
  have y4 : 0 < RB.size := by omega
  have y5 : 1 < RB.size := by omega
  clear hH z3 hr hRB
  go_wp2
  go_ret
  exact ⟨rfl, HBSC.out⟩
set_option maxRecDepth 100000 in
set_option maxHeartbeats 4000000 in
theorem law_1 (x : Int) (h : 0 ≤ x ∧ x ≤ 4294967295) (w : World) (k : Nat) (hk : k < 41) (hop : OP x = k) (N : List UInt8) (hN : N.length ≤ 100)
    (c7 : Calls Tryf.prog 7 #[.int .u32 x] w (TS N 1 true x w)) (c5 : ∀ w, Calls Tryf.prog 5 #[.int .i64 k] w fun e w' => e = .returned (.tuple #[.string ⟨N.toArray⟩, .int .i64 1]) ∧ w = w') :
    Calls Tryf.prog 3 #[.int .u32 x] w (Yes w) := by
  have h1 := h.1
  have h2 := h.2
  have b0 : 0 ≤ x / 67108864 := by omega
  have b1 : x / 67108864 ≤ 63 := by omega
  have b2 : x / 67108864 = (k : Int) := hop
  have b3 : ¬ (41 : Int) < (k : Int) := by omega
  have b4 : ((k : Int) == 41) = false := by simp; omega
  have b5 : ¬ (k : Int) = 41 := by omega
  have a0 : 0 ≤ x / 262144 := by omega
  have a1 : x / 262144 ≤ 16383 := by omega
  have a2 : 0 ≤ x / 262144 % 256 := by omega
  have a3 : x / 262144 % 256 ≤ 255 := by omega
  have d0 : 0 ≤ x % 512 := by omega
  have d1 : x % 512 ≤ 511 := by omega
  have e0 : 0 ≤ x / 512 := by omega
  have e1 : x / 512 ≤ 8388607 := by omega
  have e2 : 0 ≤ x / 512 % 512 := by omega
  have e3 : x / 512 % 512 ≤ 511 := by omega
  have f0 : 0 ≤ x % 262144 := by omega
  have f1 : x % 262144 ≤ 262143 := by omega
  obtain ⟨NB, hNB⟩ : ∃ NB : ByteArray, (⟨N.toArray⟩ : ByteArray) = NB := ⟨_, rfl⟩
  have c4 := call4 c7
  rw [hNB] at c5
  have HNB := Lib.hid hNB
  have nb : NB.size ≤ 100 := by rw [← hNB]; exact hN
  have q0 : ¬ 9223372036854775807 < NB.size + 9 := by omega
  clear h hop c7 hNB
  go_enter Tryf.func3, Tryf.ntmps3
  go_wp2_with fail
  refine c4.mono ?_
  clear c4
  rintro e w1 ⟨R, rfl, hb, hl, hr⟩
  obtain ⟨S, hS⟩ : ∃ S : ByteArray, (⟨(HD N 1 x ++ R).toArray⟩ : ByteArray) = S := ⟨_, rfl⟩
  rw [hS]
  have HS := Lib.hid hS
  have HB := Lib.hid hb
  have HL := Lib.hid hl
  have HR := Lib.hid hr
  clear hb hl hr hS
  go_wp2_with fail
  refine (c5 _).mono ?_
  clear c5
  rintro e w2 ⟨rfl, rfl⟩
  go_wp2_with fail
  refine (itoa_any _ (by omega) (by omega) _).mono ?_
  rintro e w3 ⟨SA, rfl, hSA, hbA⟩
  have na : SA.size ≤ 21 := itoa_size _ (by omega) (by omega) hSA
  have q1 : ¬ 9223372036854775807 < NB.size + 9 + SA.size := by omega
  have q2 : ¬ 9223372036854775807 < NB.size + 9 + SA.size + 2 := by omega
  have HSA := Lib.hid hSA
  have HBA := Lib.hid (HB.out.trans (hbA.mono HB.out.size))
  clear hSA hbA
  go_wp2_with fail
  refine (itoa_any _ (by omega) (by omega) _).mono ?_
  rintro e w4 ⟨SB, rfl, hSB, hbSB⟩
  have nSB : SB.size ≤ 21 := itoa_size _ (by omega) (by omega) hSB
  have q3 : ¬ 9223372036854775807 < NB.size + 9 + SA.size + 2 + SB.size := by omega
  have HSB := Lib.hid hSB
  have HBSB := Lib.hid (HBA.out.trans (hbSB.mono HBA.out.size))
  clear hSB hbSB HBA
  have hH : (NB ++ ({ data := #[32, 32, 32, 32, 32, 32, 124, 32, 32] } : ByteArray) ++ SA ++ ({ data := #[44, 32] } : ByteArray) ++ SB).data.toList = HD N 1 x := by
    rw [← HNB.out, HSA.out, HSB.out]
    simp [HD, AA, BB, CC, BX, SX]
  obtain ⟨z1, z2, z3⟩ := ext_facts HS.out hH (n := NB.size + 9 + SA.size + 2 + SB.size) (by simp [ByteArray.size_append]; rfl)
  obtain ⟨r, hr⟩ : ∃ r, R = 59 :: 32 :: r := by
    rcases HR.out with ⟨_, h⟩ | ⟨h, _⟩
    · exact h
    · cases h
  rw [hr] at z2
  obtain ⟨RB, hRB⟩ : ∃ RB : ByteArray, (⟨(59 :: 32 :: r).toArray⟩ : ByteArray) = RB := ⟨_, rfl⟩
  obtain ⟨y0, y1, y2⟩ := two_facts hRB
  rw [hRB] at z2
  have z4 : ¬ S.size < NB.size + 9 + SA.size + 2 + SB.size := by omega
  have z5 : NB.size + 9 + SA.size + 2 + SB.size ≤ S.size := by omega
  have y3 : decide ((2 : Int) ≤ (RB.size : Int)) = true := decide_eq_true (by omega)
  have y4 : 0 < RB.size := by omega
  have y5 : 1 < RB.size := by omega
  clear hH z3 hr hRB
  go_wp2
  go_ret
  exact ⟨rfl, HBSB.out⟩
set_option maxRecDepth 100000 in
set_option maxHeartbeats 4000000 in
theorem law_2 (x : Int) (h : 0 ≤ x ∧ x ≤ 4294967295) (w : World) (k : Nat) (hk : k < 41) (hop : OP x = k) (N : List UInt8) (hN : N.length ≤ 100)
    (c7 : Calls Tryf.prog 7 #[.int .u32 x] w (TS N 2 true x w)) (c5 : ∀ w, Calls Tryf.prog 5 #[.int .i64 k] w fun e w' => e = .returned (.tuple #[.string ⟨N.toArray⟩, .int .i64 2]) ∧ w = w') :
    Calls Tryf.prog 3 #[.int .u32 x] w (Yes w) := by
  have h1 := h.1
  have h2 := h.2
  have b0 : 0 ≤ x / 67108864 := by omega
  have b1 : x / 67108864 ≤ 63 := by omega
  have b2 : x / 67108864 = (k : Int) := hop
  have b3 : ¬ (41 : Int) < (k : Int) := by omega
  have b4 : ((k : Int) == 41) = false := by simp; omega
  have b5 : ¬ (k : Int) = 41 := by omega
  have a0 : 0 ≤ x / 262144 := by omega
  have a1 : x / 262144 ≤ 16383 := by omega
  have a2 : 0 ≤ x / 262144 % 256 := by omega
  have a3 : x / 262144 % 256 ≤ 255 := by omega
  have d0 : 0 ≤ x % 512 := by omega
  have d1 : x % 512 ≤ 511 := by omega
  have e0 : 0 ≤ x / 512 := by omega
  have e1 : x / 512 ≤ 8388607 := by omega
  have e2 : 0 ≤ x / 512 % 512 := by omega
  have e3 : x / 512 % 512 ≤ 511 := by omega
  have f0 : 0 ≤ x % 262144 := by omega
  have f1 : x % 262144 ≤ 262143 := by omega
  obtain ⟨NB, hNB⟩ : ∃ NB : ByteArray, (⟨N.toArray⟩ : ByteArray) = NB := ⟨_, rfl⟩
  have c4 := call4 c7
  rw [hNB] at c5
  have HNB := Lib.hid hNB
  have nb : NB.size ≤ 100 := by rw [← hNB]; exact hN
  have q0 : ¬ 9223372036854775807 < NB.size + 9 := by omega
  clear h hop c7 hNB
  go_enter Tryf.func3, Tryf.ntmps3
  go_wp2_with fail
  refine c4.mono ?_
  clear c4
  rintro e w1 ⟨R, rfl, hb, hl, hr⟩
  obtain ⟨S, hS⟩ : ∃ S : ByteArray, (⟨(HD N 2 x ++ R).toArray⟩ : ByteArray) = S := ⟨_, rfl⟩
  rw [hS]
  have HS := Lib.hid hS
  have HB := Lib.hid hb
  have HL := Lib.hid hl
  have HR := Lib.hid hr
  clear hb hl hr hS
  go_wp2_with fail
  refine (c5 _).mono ?_
  clear c5
  rintro e w2 ⟨rfl, rfl⟩
  go_wp2_with fail
  refine (itoa_any _ (by omega) (by omega) _).mono ?_
  rintro e w3 ⟨SA, rfl, hSA, hbA⟩
  have na : SA.size ≤ 21 := itoa_size _ (by omega) (by omega) hSA
  have q1 : ¬ 9223372036854775807 < NB.size + 9 + SA.size := by omega
  have q2 : ¬ 9223372036854775807 < NB.size + 9 + SA.size + 2 := by omega
  have HSA := Lib.hid hSA
  have HBA := Lib.hid (HB.out.trans (hbA.mono HB.out.size))
  clear hSA hbA
  go_wp2_with fail
  refine (itoa_any _ (by omega) (by omega) _).mono ?_
  rintro e w4 ⟨SB, rfl, hSB, hbSB⟩
  have nSB : SB.size ≤ 21 := itoa_size _ (by omega) (by omega) hSB
  have q3 : ¬ 9223372036854775807 < NB.size + 9 + SA.size + 2 + SB.size := by omega
  have HSB := Lib.hid hSB
  have HBSB := Lib.hid (HBA.out.trans (hbSB.mono HBA.out.size))
  clear hSB hbSB HBA
  have hH : (NB ++ ({ data := #[32, 32, 32, 32, 32, 32, 124, 32, 32] } : ByteArray) ++ SA ++ ({ data := #[44, 32] } : ByteArray) ++ SB).data.toList = HD N 2 x := by
    rw [← HNB.out, HSA.out, HSB.out]
    simp [HD, AA, BB, CC, BX, SX]
  obtain ⟨z1, z2, z3⟩ := ext_facts HS.out hH (n := NB.size + 9 + SA.size + 2 + SB.size) (by simp [ByteArray.size_append]; rfl)
  obtain ⟨r, hr⟩ : ∃ r, R = 59 :: 32 :: r := by
    rcases HR.out with ⟨_, h⟩ | ⟨h, _⟩
    · exact h
    · cases h
  rw [hr] at z2
  obtain ⟨RB, hRB⟩ : ∃ RB : ByteArray, (⟨(59 :: 32 :: r).toArray⟩ : ByteArray) = RB := ⟨_, rfl⟩
  obtain ⟨y0, y1, y2⟩ := two_facts hRB
  rw [hRB] at z2
  have z4 : ¬ S.size < NB.size + 9 + SA.size + 2 + SB.size := by omega
  have z5 : NB.size + 9 + SA.size + 2 + SB.size ≤ S.size := by omega
  have y3 : decide ((2 : Int) ≤ (RB.size : Int)) = true := decide_eq_true (by omega)
  have y4 : 0 < RB.size := by omega
  have y5 : 1 < RB.size := by omega
  clear hH z3 hr hRB
  go_wp2
  go_ret
  exact ⟨rfl, HBSB.out⟩
set_option maxRecDepth 100000 in
set_option maxHeartbeats 4000000 in
theorem law_41 (x : Int) (h : 0 ≤ x ∧ x ≤ 4294967295) (w : World) (k : Nat) (hk : k = 41) (hop : OP x = k) (N : List UInt8) (hN : N.length ≤ 100)
    (c7 : Calls Tryf.prog 7 #[.int .u32 x] w (TS N 2 false x w)) (c5 : ∀ w, Calls Tryf.prog 5 #[.int .i64 k] w fun e w' => e = .returned (.tuple #[.string ⟨N.toArray⟩, .int .i64 2]) ∧ w = w') :
    Calls Tryf.prog 3 #[.int .u32 x] w (Yes w) := by
  have h1 := h.1
  have h2 := h.2
  have b0 : 0 ≤ x / 67108864 := by omega
  have b1 : x / 67108864 ≤ 63 := by omega
  have b2 : x / 67108864 = 41 := by rw [hk] at hop; exact hop
  have a0 : 0 ≤ x / 262144 := by omega
  have a1 : x / 262144 ≤ 16383 := by omega
  have a2 : 0 ≤ x / 262144 % 256 := by omega
  have a3 : x / 262144 % 256 ≤ 255 := by omega
  have d0 : 0 ≤ x % 512 := by omega
  have d1 : x % 512 ≤ 511 := by omega
  have e0 : 0 ≤ x / 512 := by omega
  have e1 : x / 512 ≤ 8388607 := by omega
  have e2 : 0 ≤ x / 512 % 512 := by omega
  have e3 : x / 512 % 512 ≤ 511 := by omega
  have f0 : 0 ≤ x % 262144 := by omega
  have f1 : x % 262144 ≤ 262143 := by omega
  obtain ⟨NB, hNB⟩ : ∃ NB : ByteArray, (⟨N.toArray⟩ : ByteArray) = NB := ⟨_, rfl⟩
  have c4 := call4 c7
  subst hk
  rw [hNB] at c5
  have HNB := Lib.hid hNB
  have nb : NB.size ≤ 100 := by rw [← hNB]; exact hN
  have q0 : ¬ 9223372036854775807 < NB.size + 9 := by omega
  clear h hop c7 hNB
  go_enter Tryf.func3, Tryf.ntmps3
  go_wp2_with fail
  refine c4.mono ?_
  clear c4
  rintro e w1 ⟨R, rfl, hb, hl, hr⟩
  obtain ⟨S, hS⟩ : ∃ S : ByteArray, (⟨(HD N 2 x ++ R).toArray⟩ : ByteArray) = S := ⟨_, rfl⟩
  rw [hS]
  have HS := Lib.hid hS
  have HB := Lib.hid hb
  have HL := Lib.hid hl
  have HR := Lib.hid hr
  clear hb hl hr hS
  go_wp2_with fail
  refine (c5 _).mono ?_
  clear c5
  rintro e w2 ⟨rfl, rfl⟩
  go_wp2_with fail
  refine (itoa_any _ (by omega) (by omega) _).mono ?_
  rintro e w3 ⟨SA, rfl, hSA, hbA⟩
  have na : SA.size ≤ 21 := itoa_size _ (by omega) (by omega) hSA
  have q1 : ¬ 9223372036854775807 < NB.size + 9 + SA.size := by omega
  have q2 : ¬ 9223372036854775807 < NB.size + 9 + SA.size + 2 := by omega
  have HSA := Lib.hid hSA
  have HBA := Lib.hid (HB.out.trans (hbA.mono HB.out.size))
  clear hSA hbA
  go_wp2_with fail
  refine (itoa_any _ (by omega) (by omega) _).mono ?_
  rintro e w4 ⟨SB, rfl, hSB, hbSB⟩
  have nSB : SB.size ≤ 21 := itoa_size _ (by omega) (by omega) hSB
  have q3 : ¬ 9223372036854775807 < NB.size + 9 + SA.size + 2 + SB.size := by omega
  have HSB := Lib.hid hSB
  have HBSB := Lib.hid (HBA.out.trans (hbSB.mono HBA.out.size))
  clear hSB hbSB HBA
  have hH : (NB ++ ({ data := #[32, 32, 32, 32, 32, 32, 124, 32, 32] } : ByteArray) ++ SA ++ ({ data := #[44, 32] } : ByteArray) ++ SB).data.toList = HD N 2 x := by
    rw [← HNB.out, HSA.out, HSB.out]
    simp [HD, AA, BB, CC, BX, SX]
  obtain ⟨z1, z2, z3⟩ := ext_facts HS.out hH (n := NB.size + 9 + SA.size + 2 + SB.size) (by simp [ByteArray.size_append]; rfl)
  have hR : R = [] := by
    rcases HR.out with ⟨h, _⟩ | ⟨_, h⟩
    · cases h
    · exact h
  rw [hR] at z2 z3
  have z4 : ¬ S.size < NB.size + 9 + SA.size + 2 + SB.size := by omega
  have z5 : NB.size + 9 + SA.size + 2 + SB.size ≤ S.size := by omega
  have z6 : S.extract (NB.size + 9 + SA.size + 2 + SB.size) S.size = ⟨#[]⟩ := z2
  clear hH z2 z3 hR
  go_wp2
  go_ret
  exact ⟨rfl, HBSB.out⟩
theorem tab_facts : ∀ k, k < 42 → (nameOf k).length ≤ 100 ∧ (typOf k = 0 ∨ typOf k = 1 ∨ typOf k = 2) ∧ (k = 41 → typOf k = 2) := by decide
theorem law (F : Interp) (x : Int) (h : 0 ≤ x ∧ x ≤ 4294967295) (w : World) (hF : F.told.answers w.tape) (b off cap : Nat) (H : OT w b off cap) : Calls Tryf.prog 3 #[.int .u32 x] w (Yes w) := by
  by_cases hb : 41 < OP x
  · exact law_big x h w hb
  · obtain ⟨k, hk⟩ : ∃ k : Nat, OP x = k := ⟨(OP x).toNat, by unfold OP; unfold OP at hb; omega⟩
    have hk42 : k < 42 := by omega
    have c7 := ts_all F x h w hF b off cap H k hk42 hk
    have c5 := name_all k hk42
    obtain ⟨hl, ht, h41⟩ := tab_facts k hk42
    by_cases e : k = 41
    · rw [h41 e] at c7 c5
      rw [show decide (k ≠ 41) = false by simp [e]] at c7
      exact law_41 x h w k e hk _ hl c7 c5
    · rw [show decide (k ≠ 41) = true by simp [e]] at c7
      rcases ht with ht | ht | ht <;> rw [ht] at c7 c5
      · exact law_0 x h w k (by omega) hk _ hl c7 c5
      · exact law_1 x h w k (by omega) hk _ hl c7 c5
      · exact law_2 x h w k (by omega) hk _ hl c7 c5
end Go.Proofs.YtddojkdaajfmcaaFmt
