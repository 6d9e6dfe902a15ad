/- The law's builder, whole: the state with its stack. -/
import Derived.Test.YtlpnagpdjkgbcaaFmtBld
namespace Go.Proofs.YtlpnagpdjkgbcaaFmt
set_option linter.unusedVariables false
open Go.RowKit Go.ChangeShapes Go.Deep
/-- The state: its parent thread, its stack, its current frame. -/
structure LS (w : World) (pl pcs pa n : Nat) (pt : Option Addr) : Prop where
  c1 : w.cell? ⟨pl, 1, none⟩ = some (.pointer pt)
  c14 : w.cell? ⟨pl, 14, none⟩ = some (.iface 27 (.pointer (some ⟨pcs, 0, none⟩)))
  c16 : w.cell? ⟨pl, 16, none⟩ = some (.pointer (parA pa n))
structure ST (w0 w : World) (pl n : Nat) (z : Nat → FR) (src : ByteArray) (ld : Int) (child : Bool) (B pa pcs : Nat) (pt : Option Addr) : Prop where
  sk : SK B w0 w pa pcs n n z src ld
  ls : LS w pl pcs pa n pt
  ch : child = false → pt = none
  ch' : child = true → pt ≠ none
theorem LS.below {w w' : World} {pl pcs pa n : Nat} {pt : Option Addr} (h : LS w pl pcs pa n pt) (hb : Below w.heap.size w w') : LS w' pl pcs pa n pt :=
  have k := Kp.of_below (B := 0) hb
  ⟨k _ _ (Nat.zero_le _) h.c1, k _ _ (Nat.zero_le _) h.c14, k _ _ (Nat.zero_le _) h.c16⟩
theorem ST.below {w0 w w' : World} {pl n : Nat} {z : Nat → FR} {src : ByteArray} {ld : Int} {child : Bool} {B pa pcs : Nat} {pt : Option Addr} (h : ST w0 w pl n z src ld child B pa pcs pt) (hb : Below w.heap.size w w') : ST w0 w' pl n z src ld child B pa pcs pt :=
  ⟨h.sk.below hb, h.ls.below hb, h.ch, h.ch'⟩
def BuildPost (w : World) (n : Nat) (z : Nat → FR) (src : ByteArray) (ld : Int) (child : Bool) (e : Ending) (w' : World) : Prop :=
  ∃ pl B pa pcs pt, e = .returned (.tuple #[.pointer (some ⟨pl, 0, none⟩), .pointer (some ⟨pcs, 0, none⟩)]) ∧ ST w w' pl n z src ld child B pa pcs pt
theorem new21 (pcs pa n : Nat) (pt : Option Addr) (w : World) :
    Calls Tryf.prog 21 #[.pointer (some ⟨pcs, 0, none⟩), .pointer (parA pa n), .pointer pt] w fun e w' => e = .returned (.pointer (some ⟨w.heap.size, 0, none⟩)) ∧ Below w.heap.size w w' ∧ LS w' w.heap.size pcs pa n pt := by
  obtain ⟨po, hpo⟩ : ∃ po, parA pa n = po := ⟨_, rfl⟩
  have HPO := Lib.hid hpo
  rw [hpo]
  clear hpo
  go_enter Tryf.func21, Tryf.ntmps21
  go_wp2
  go_ret
  exact ⟨rfl, by go_grown, ⟨by go_simp, by go_simp, by rw [HPO.out]; go_simp⟩⟩
set_option maxRecDepth 100000 in
set_option maxHeartbeats 2000000 in
theorem build9 (A : Option Addr) (n c : Nat) (z : Nat → FR) (src : ByteArray) (ld : Int) (child : Bool) (w : World) (ha : Fms w A n c z) (hn : n ≤ 4096) :
    Calls Tryf.prog 9 #[.slice A n c, .string src, .int .i64 ld, .bool child] w (BuildPost w n z src ld child) := by
  have HA := Lib.hid ha
  have S := fun w => stack16 n hn z src ld w
  clear ha
  go_enter Tryf.func9, Tryf.ntmps9
  go_wp2_with fail
  refine (S _).mono ?_
  rintro e w1 ⟨B, pa, pcs, rfl, hs⟩
  have HS := Lib.hid hs
  clear hs S
  go_wp2
  go_loopw [12, 13, 14] (fun v12 v13 v14 wr => ∃ k : Nat, k ≤ n ∧ v13 = .int .i64 k ∧ v12 = .pointer (parA pa k) ∧ SK B w wr pa pcs n k z src ld) (fun _ v _ _ => n - (intOf v).toNat)
  case atStart => exact ⟨0, Nat.zero_le _, rfl, rfl, HS.out⟩
  case round =>
    clear HS
    obtain ⟨k, hk, rfl, rfl, hsk⟩ := hrel
    have HK := Lib.hid hsk
    clear hsk
    by_cases hkn : k < n
    · have hw := HA.out.below (HK.out.bel)
      have hfr := fn17 A n c k z src ld wr hw hn hkn
      clear hw
      go_wp2_with fail
      refine hfr.mono ?_
      clear hfr
      rintro e w2 ⟨fp, rfl, hfn, hb2⟩
      have HFN := Lib.hid hfn
      have HB2 := Lib.hid hb2
      obtain ⟨b, off, hx, hlt, c0, c1, c2, c3, c4⟩ := ((HA.out.below HK.out.bel).below hb2).at_ hkn
      have HX := Lib.hid hx
      subst hx
      clear hfn hb2
      have ht := tail19 (z k) w2
      go_wp2_with fail
      refine ht.mono ?_
      clear ht c0 c1 c2 c3 c4
      rintro e w3 ⟨rfl, rfl⟩
      have b3 : Below w2.heap.size w2 (w2.alloc (.cells #[.bool (z k).g, .int .i64 (z k).line, .int .i64 (z k).tail, .string (z k).name, .int .i64 (z k).pc] 36)) := (Below.refl _ _).alloc (Nat.le_refl _) _
      have sk3 := (HK.out.below HB2.out).below b3
      have fn3 := ((HFN.out.mono HK.out.bw).kp (Kp.of_below b3))
      obtain ⟨F, hF, _⟩ := sk3.arr
      have p18 := push18 (some ⟨fp, 0, none⟩) (parA pa k) (zt (z k)) hF sk3.cs sk3.ne hn hkn
      have HSK := Lib.hid (fun w1 hp => sk3.step fn3 hkn hF (w1 := w1) hp)
      generalize (w2.alloc (.cells #[.bool (z k).g, .int .i64 (z k).line, .int .i64 (z k).tail, .string (z k).name, .int .i64 (z k).pc] 36)) = w3 at *
      clear b3 sk3 fn3 hF
      go_wp2_with fail
      refine p18.mono ?_
      clear p18
      rintro e w4 ⟨rfl, hp⟩
      have HP := Lib.hid (HSK.out w4 hp)
      clear hp HSK
      have p20 := at20 k HP.out.cs hkn hn
      go_wp2_with fail
      refine p20.mono ?_
      clear p20
      rintro e w5 ⟨rfl, rfl⟩
      have hpar : Hid (Value.pointer (some ⟨pa, k * 10, none⟩) = .pointer (parA pa (k + 1))) := Lib.hid (by simp [parA])
      go_wp2
      go_roundw
      case rel => exact ⟨k + 1, by omega, by go_num, hpar.out, HP.out⟩
      case measure => simp [intOf]; omega
    · obtain rfl : k = n := by omega
      obtain ⟨po, hpo⟩ : ∃ po, parA pa k = po := ⟨_, rfl⟩
      cases child
      · have n21 := new21 pcs pa k none wr
        rw [hpo] at n21 ⊢
        have HPO := Lib.hid hpo
        clear hpo
        go_wp2_with fail
        refine n21.mono ?_
        clear n21
        rintro e w2 ⟨rfl, hb, hl⟩
        have HST := Lib.hid (show ST w w2 wr.heap.size k z src ld false B pa pcs none from ⟨HK.out.below hb, hl, fun _ => rfl, fun h => by cases h⟩)
        clear hb hl
        go_wp2
        go_ret2
        exact ⟨_, B, pa, pcs, none, rfl, HST.out⟩
      · have n21 := fun W => new21 pcs pa k (some ⟨wr.heap.size, 0, none⟩) W
        rw [hpo] at n21 ⊢
        have HPO := Lib.hid hpo
        clear hpo
        go_wp2_with fail
        refine (n21 _).mono ?_
        clear n21
        rintro e w2 ⟨rfl, hb, hl⟩
        have hb0 : ∀ ob, Below wr.heap.size wr (wr.alloc ob) := fun ob => (Below.refl _ _).alloc (Nat.le_refl _) _
        have HST := Lib.hid (show ST w w2 _ k z src ld true B pa pcs (some ⟨wr.heap.size, 0, none⟩) from ⟨(HK.out.below (hb0 _)).below hb, hl, (fun h => by cases h), (fun _ => by simp)⟩)
        rw [World.size_alloc] at HST
        clear hb hl hb0
        go_wp2
        go_ret2
        exact ⟨_, B, pa, pcs, _, rfl, HST.out⟩
end Go.Proofs.YtlpnagpdjkgbcaaFmt
