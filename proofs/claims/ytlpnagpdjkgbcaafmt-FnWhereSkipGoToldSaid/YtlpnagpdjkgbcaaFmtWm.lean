/- What where(level, true) answers, in plain mathematics: level after level, or in one pass over the layout. -/
import Derived.Test.YtlpnagpdjkgbcaaFmtItoa
namespace Go.Proofs.YtlpnagpdjkgbcaaFmt
set_option linter.unusedVariables false
section
variable {z : Nat → FR} {n : Nat} {src : ByteArray}
/-- Where the layout of the frames from j on ends. -/
def pz (z : Nat → FR) (n j : Nat) : Int := (n : Int) - j + (ts z n - ts z j)
theorem pz_top : pz z n n = 0 := by unfold pz; omega
theorem pz_bot : pz z n 0 = (n : Int) + ts z n := by unfold pz; simp [ts]
theorem pz_step (j : Nat) : pz z n j = pz z n (j + 1) + 1 + zt (z j) := by
  unfold pz
  have : ts z (j + 1) = ts z j + zt (z j) := rfl
  omega
theorem gs_skip (hz : ∀ i, i < n → 0 ≤ zt (z i) ∧ zt (z i) ≤ 65536) {j : Nat} (hj : j ≤ n) {l : Int} (hl : pz z n j ≤ l) (h0 : 0 ≤ l) : gs z n n l = gs z n j (l - pz z n j) := by
  obtain ⟨d, hd⟩ : ∃ d, n = j + d := ⟨n - j, by omega⟩
  induction d generalizing j with
  | zero =>
    have e : n = j := by omega
    subst e
    rw [pz_top]
    simp
  | succ d ih =>
    have hzj := hz j (by omega)
    have e := pz_step (z := z) (n := n) j
    rw [ih (j := j + 1) (by omega) (by omega) (by omega), gs, if_pos (by omega)]
    congr 1
    omega
theorem pz_nonneg (hz : ∀ i, i < n → 0 ≤ zt (z i) ∧ zt (z i) ≤ 65536) {j : Nat} (hj : j ≤ n) : 0 ≤ pz z n j := by
  obtain ⟨d, hd⟩ : ∃ d, n = j + d := ⟨n - j, by omega⟩
  induction d generalizing j with
  | zero =>
    have e : n = j := by omega
    subst e
    rw [pz_top]
    exact Int.le_refl _
  | succ d ih =>
    have hzj := hz j (by omega)
    have e := pz_step (z := z) (n := n) j
    have := ih (j := j + 1) (by omega) (by omega)
    omega
theorem gs_at (hz : ∀ i, i < n → 0 ≤ zt (z i) ∧ zt (z i) ≤ 65536) {j : Nat} (hj : j < n) : gs z n n (pz z n (j + 1)) = some j := by
  rw [gs_skip hz (j := j + 1) (by omega) (Int.le_refl _) (pz_nonneg hz (by omega)), Int.sub_self, gs, if_neg (by omega), if_pos rfl]
theorem gs_gap (hz : ∀ i, i < n → 0 ≤ zt (z i) ∧ zt (z i) ≤ 65536) {j : Nat} (hj : j < n) {l : Int} (h1 : pz z n (j + 1) < l) (h2 : l < pz z n j) : gs z n n l = some 0 := by
  have := pz_nonneg hz (j := j + 1) (by omega)
  have e := pz_step (z := z) (n := n) j
  rw [gs_skip hz (j := j + 1) (by omega) (by omega) (by omega), gs, if_pos (by omega)]
  exact gs_neg (by omega) (by omega)
theorem gs_end (hz : ∀ i, i < n → 0 ≤ zt (z i) ∧ zt (z i) ≤ 65536) {l : Int} (h : pz z n 0 ≤ l) : gs z n n l = none := by
  have := pz_nonneg hz (j := 0) (by omega)
  rw [gs_skip hz (j := 0) (by omega) h (by omega), gs, if_neg (by omega)]
theorem whr_more (hz : ∀ i, i < n → 0 ≤ zt (z i) ∧ zt (z i) ≤ 65536) (m : Nat) : ∀ l : Int, ((n : Int) + ts z n - l).toNat ≤ m → whr z n src m l = whr z n src (m + 1) l := by
  induction m with
  | zero =>
    intro l hl
    have : gs z n n l = none := gs_end hz (by rw [pz_bot]; omega)
    rw [whr, whr, this]
  | succ m ih =>
    intro l hl
    rw [whr]
    conv => rhs; rw [whr]
    cases hg : gs z n n l with
    | none => rfl
    | some k =>
      cases hk : (z k).g
      · simp [hk]
      · simp only [hk, if_true]
        exact ih (l + 1) (by omega)
/-- The answer at a level. -/
def wv (z : Nat → FR) (n : Nat) (src : ByteArray) (l : Int) : List UInt8 := whr z n src ((n : Int) + ts z n - l).toNat l
theorem wv_fuel (hz : ∀ i, i < n → 0 ≤ zt (z i) ∧ zt (z i) ≤ 65536) {l : Int} (m : Nat) (h : ((n : Int) + ts z n - l).toNat ≤ m) : whr z n src m l = wv z n src l := by
  obtain ⟨d, rfl⟩ : ∃ d, m = ((n : Int) + ts z n - l).toNat + d := ⟨m - ((n : Int) + ts z n - l).toNat, by omega⟩
  induction d with
  | zero => rfl
  | succ d ih => rw [← ih (by omega)]; exact (whr_more hz (((n : Int) + ts z n - l).toNat + d) l (by omega)).symm
theorem wv_none {l : Int} (h : gs z n n l = none) : wv z n src l = [] := by
  unfold wv
  cases ((n : Int) + ts z n - l).toNat with
  | zero => rfl
  | succ m => rw [whr, h]
theorem wv_lt (hz : ∀ i, i < n → 0 ≤ zt (z i) ∧ zt (z i) ≤ 65536) {l : Int} {k : Nat} (h : gs z n n l = some k) : l < (n : Int) + ts z n := by
  rcases Int.lt_or_le l ((n : Int) + ts z n) with h1 | h1
  · exact h1
  · rw [gs_end hz (by rw [pz_bot]; exact h1)] at h; cases h
theorem wv_lua (hz : ∀ i, i < n → 0 ≤ zt (z i) ∧ zt (z i) ≤ 65536) {l : Int} {k : Nat} (h : gs z n n l = some k) (hk : (z k).g = false) : wv z n src l = wtext (z k) src := by
  have := wv_lt hz h
  unfold wv
  obtain ⟨m, hm⟩ : ∃ m, ((n : Int) + ts z n - l).toNat = m + 1 := ⟨((n : Int) + ts z n - l).toNat - 1, by omega⟩
  rw [hm, whr, h]
  simp [hk]
theorem wv_g (hz : ∀ i, i < n → 0 ≤ zt (z i) ∧ zt (z i) ≤ 65536) {l : Int} {k : Nat} (h : gs z n n l = some k) (hk : (z k).g = true) : wv z n src l = wv z n src (l + 1) := by
  have := wv_lt hz h
  rw [← wv_fuel hz (src := src) (l := l) (((n : Int) + ts z n - (l + 1)).toNat + 1) (by omega), whr, h]
  simp only [hk, if_true]
  exact wv_fuel hz _ (Nat.le_refl _)
/-- A stretch of levels that give the bottom frame, where that is none of Lua's. -/
theorem wv_run (hz : ∀ i, i < n → 0 ≤ zt (z i) ∧ zt (z i) ≤ 65536) (d : Nat) : ∀ l : Int, (∀ t, l ≤ t → t < l + d → gs z n n t = some 0) → (z 0).g = true → wv z n src l = wv z n src (l + d) := by
  induction d with
  | zero => intro l _ _; simp
  | succ d ih =>
    intro l h hg
    rw [wv_g hz (h l (Int.le_refl _) (by omega)) hg, ih (l + 1) (fun t h1 h2 => h t (by omega) (by omega)) hg]
    congr 1
    omega
theorem wv_gap (hz : ∀ i, i < n → 0 ≤ zt (z i) ∧ zt (z i) ≤ 65536) {j : Nat} (hj : j < n) {l : Int} (h1 : pz z n (j + 1) < l) (h2 : l < pz z n j) (hg : (z 0).g = true) : wv z n src l = wv z n src (pz z n j) := by
  have := wv_run hz (src := src) (pz z n j - l).toNat l (fun t a b => gs_gap hz hj (by omega) (by omega)) hg
  rw [this]
  congr 1
  omega
theorem wv_neg (hz : ∀ i, i < n → 0 ≤ zt (z i) ∧ zt (z i) ≤ 65536) {l : Int} (hn : 0 < n) (h : l < 0) (hg : (z 0).g = true) : wv z n src l = wv z n src 0 := by
  have := wv_run hz (src := src) (0 - l).toNat l (fun t a b => gs_neg (by omega) hn) hg
  rw [this]
  congr 1
  omega
end
end Go.Proofs.YtlpnagpdjkgbcaaFmt
