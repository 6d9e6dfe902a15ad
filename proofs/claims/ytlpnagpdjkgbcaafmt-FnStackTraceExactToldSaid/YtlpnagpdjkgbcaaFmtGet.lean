/- GetStack: which frame a level gives. -/
import Derived.Test.YtlpnagpdjkgbcaaFmtAll
namespace Go.Proofs.YtlpnagpdjkgbcaaFmt
set_option linter.unusedVariables false
open Go.RowKit Go.ChangeShapes Go.Deep
/-- The frame that a level gives, j frames being left. -/
def gs (z : Nat → FR) (n : Nat) : Nat → Int → Option Nat
  | 0, l => if l < 0 ∧ 0 < n then some 0 else none
  | j + 1, l => if 0 < l then gs z n j (l - 1 - zt (z j)) else if l = 0 then some j else some 0
theorem gs_neg {z : Nat → FR} {n j : Nat} {l : Int} (h : l < 0) (hn : 0 < n) : gs z n j l = some 0 := by
  cases j with
  | zero => rw [gs, if_pos ⟨h, hn⟩]
  | succ j => rw [gs, if_neg (by omega), if_neg (by omega)]
theorem gs_lt {z : Nat → FR} {n j : Nat} {l : Int} (hj : j ≤ n) {k : Nat} (h : gs z n j l = some k) : k < n := by
  induction j generalizing l with
  | zero =>
    rw [gs] at h
    split at h
    · injection h with h; omega
    · cases h
  | succ j ih =>
    rw [gs] at h
    split at h
    · exact ih (by omega) h
    · split at h
      · injection h with h; omega
      · injection h with h; omega
theorem sp65 {w : World} {pa pcs n k : Nat} (hc : w.rowIs pcs 68 2 (csF pa n k)) :
    Calls Tryf.prog 65 #[.pointer (some ⟨pcs, 0, none⟩)] w fun e w' => e = .returned (.int .i64 k) ∧ w = w' := by
  have c1 := hc.cell (i := 1) (by omega)
  simp only [csF] at c1
  clear hc
  go_enter Tryf.func65, Tryf.ntmps65
  go_wp2
  go_ret
  exact ⟨rfl, rfl⟩
/-- What GetStack hands back. -/
def GPost (w : World) (pa : Nat) (r : Option Nat) (e : Ending) (w' : World) : Prop :=
  ∃ dp, (match r with
    | some k => e = .returned (.tuple #[.pointer (some ⟨dp, 0, none⟩), .bool true]) ∧ w'.cell? ⟨dp, 0, none⟩ = some (.pointer (some ⟨pa, k * 10, none⟩))
    | none => e = .returned (.tuple #[.pointer (some ⟨dp, 0, none⟩), .bool false])) ∧ Below w.heap.size w w'
theorem gpost_some {w w' : World} {pa k dp : Nat} {r : Option Nat} {e : Ending} (hr : r = some k) (he : e = .returned (.tuple #[.pointer (some ⟨dp, 0, none⟩), .bool true])) (hc : w'.cell? ⟨dp, 0, none⟩ = some (.pointer (some ⟨pa, k * 10, none⟩))) (hb : Below w.heap.size w w') : GPost w pa r e w' := by
  subst hr
  exact ⟨dp, ⟨he, hc⟩, hb⟩
theorem gpost_none {w w' : World} {pa dp : Nat} {r : Option Nat} {e : Ending} (hr : r = none) (he : e = .returned (.tuple #[.pointer (some ⟨dp, 0, none⟩), .bool false])) (hb : Below w.heap.size w w') : GPost w pa r e w' := by
  subst hr
  exact ⟨dp, he, hb⟩
set_option maxRecDepth 100000 in
set_option maxHeartbeats 2000000 in
theorem get28 {w0 w : World} {pl n : Nat} {z : Nat → FR} {src : ByteArray} {ld : Int} {child : Bool} {B pa pcs : Nat} {pt : Option Addr} (h : ST w0 w pl n z src ld child B pa pcs pt) (hn : n ≤ 4096) (hz : ∀ i, i < n → 0 ≤ zt (z i) ∧ zt (z i) ≤ 65536) (l : Int) (l0 : -70000 ≤ l) (l1 : l ≤ 9223372036854775807) :
    Calls Tryf.prog 28 #[.pointer (some ⟨pl, 0, none⟩), .int .i64 l] w (GPost w pa (gs z n n l)) := by
  have H := Lib.hid h
  have HZ := Lib.hid hz
  have k14 := h.ls.c14
  have k16 := h.ls.c16
  obtain ⟨po, hpo⟩ : ∃ po, parA pa n = po := ⟨_, rfl⟩
  rw [hpo] at k16
  have HPO := Lib.hid hpo
  have q0 := h.sk.cs.cell (i := 0) (by omega)
  have q1 := h.sk.cs.cell (i := 1) (by omega)
  simp only [csF] at q0 q1
  clear h hz hpo
  go_enter Tryf.func28, Tryf.ntmps28
  go_wp2
  go_loop [1, 6] (fun v1 v6 => ∃ (j : Nat) (l' : Int), j ≤ n ∧ v1 = .int .i64 l' ∧ v6 = .pointer (parA pa j) ∧ -70000 ≤ l' ∧ l' ≤ 9223372036854775807 ∧ Hid (gs z n n l = gs z n j l')) (fun v1 v6 => match v6 with | .pointer (some a) => a.off + 1 | _ => 0)
  case atStart => exact ⟨n, l, Nat.le_refl _, rfl, by rw [HPO.out], l0, l1, Lib.hid rfl⟩
  case round =>
    clear l0 l1
    obtain ⟨j, l', hj, rfl, rfl, l0, l1, HG⟩ := hrel
    cases j with
    | zero =>
      have hp0 : parA pa 0 = none := rfl
      rw [hp0]
      clear hp0
      by_cases hneg : l' < 0
      · have e0 : ¬ 0 < l' := by omega
        have e1 : ¬ l' = 0 := by omega
        have e2 : (l' == 0) = false := by simp [e1]
        by_cases hn0 : 0 < n
        · have hgs : Hid (gs z n n l = some 0) := Lib.hid (HG.out.trans (gs_neg hneg hn0))
          go_wp2
          go_ret2
          exact gpost_some hgs.out rfl (by go_simp) (by go_grown)
        · obtain rfl : n = 0 := by omega
          have hgs : Hid (gs z 0 0 l = none) := Lib.hid (by rw [HG.out, gs, if_neg (by omega)])
          go_wp2
          go_ret2
          exact gpost_none hgs.out rfl (by go_grown)
      · have e0 : 0 ≤ l' := by omega
        have hgs : Hid (gs z n n l = none) := Lib.hid (by rw [HG.out, gs, if_neg (by omega)])
        by_cases hp : 0 < l'
        · have e1 : ¬ l' = 0 := by omega
          have e2 : (l' == 0) = false := by simp [e1]
          go_wp2
          go_ret2
          exact gpost_none hgs.out rfl (by go_grown)
        · obtain rfl : l' = 0 := by omega
          go_wp2
          go_ret2
          exact gpost_none hgs.out rfl (by go_grown)
    | succ j =>
      have hp1 : parA pa (j + 1) = some ⟨pa, j * 10, none⟩ := by simp [parA]
      rw [hp1]
      clear hp1
      obtain ⟨F, hF, hf⟩ := H.out.sk.arr
      obtain ⟨fp, hs⟩ := hf j (by omega)
      have f1 := hF.cell (i := j * 10 + 1) (by omega)
      have f2 := hF.cell (i := j * 10 + 2) (by omega)
      have f9 := hF.cell (i := j * 10 + 9) (by omega)
      rw [hs.f1] at f1
      rw [hs.f2] at f2
      rw [hs.f9] at f9
      have g0 := hs.fn.g.2
      clear hF hf hs
      by_cases hp : 0 < l'
      · have hzj := HZ.out j (by omega)
        have z0 := hzj.1
        have z1 := hzj.2
        have hG : Hid (gs z n n l = gs z n j (l' - 1 - zt (z j))) := Lib.hid (by rw [HG.out, gs, if_pos hp])
        clear hzj
        obtain ⟨po', hpo'⟩ : ∃ po', parA pa j = po' := ⟨_, rfl⟩
        rw [hpo'] at f2
        have HP' := Lib.hid hpo'
        clear hpo'
        cases hg : (z j).g
        · rw [hg] at g0
          have HGG := Lib.hid hg
          clear hg
          go_wp2
          go_round
          case rel => exact ⟨j, l' - 1 - zt (z j), by omega, rfl, by rw [HP'.out], by omega, by omega, hG⟩
          case measure => rw [← HP'.out]; cases j <;> simp [parA]
        · rw [hg] at g0
          have hz0 : Hid (zt (z j) = 0) := Lib.hid (by simp [zt, hg])
          have HGG := Lib.hid hg
          clear hg
          go_wp2
          go_round
          case rel => exact ⟨j, l' - 1, by omega, rfl, by rw [HP'.out], by omega, by omega, Lib.hid (by rw [hG.out, hz0.out]; simp)⟩
          case measure => rw [← HP'.out]; cases j <;> simp [parA]
      · by_cases hz0 : l' = 0
        · subst hz0
          have hgs : Hid (gs z n n l = some j) := Lib.hid (by rw [HG.out, gs, if_neg (by omega), if_pos rfl])
          clear f1 f2 f9 g0
          go_wp2
          go_ret2
          exact gpost_some hgs.out rfl (by go_simp) (by go_grown)
        · have hneg : l' < 0 := by omega
          have e2 : (l' == 0) = false := by simp [hz0]
          have hn0 : 0 < n := by omega
          have hgs : Hid (gs z n n l = some 0) := Lib.hid (HG.out.trans (gs_neg hneg hn0))
          clear f1 f2 f9 g0
          go_wp2
          go_ret2
          exact gpost_some hgs.out rfl (by go_simp) (by go_grown)
end Go.Proofs.YtlpnagpdjkgbcaaFmt
