/- The law's model of a frame's name, walked: printed by our program wip/mkmod.py. -/
import Derived.Test.YtlpnagpdjkgbcaaFmtTrt
import Derived.Test.YtlpnagpdjkgbcaaFmtSk
namespace Go.Proofs.YtlpnagpdjkgbcaaFmt
set_option linter.unusedVariables false
open Go.RowKit Go.ChangeShapes Go.Deep Go.Extern.Stop Go.Stop Go.Extern Go.Kit
theorem pos41 (src : ByteArray) (ld : Int) (w : World) (hs : src.size ≤ 65536) (hl : (Lit.int .i64 ld).wf = true) :
    Calls Tryf.prog 41 #[.string src, .int .i64 ld] w (WPost (posT src ld) w) := by
  have HL := Lib.hid hl
  have q0 : ¬ 9223372036854775807 < 1 + src.size := by omega
  have q1 : ¬ 9223372036854775807 < 1 + src.size + 1 := by omega
  clear hl
  go_enter Tryf.func41, Tryf.ntmps41
  go_wp2_with fail
  refine (itoa_any _ HL.out _).mono ?_
  rintro e w1 ⟨S, rfl, hS, hb⟩
  have sz : S.size ≤ 21 := by rw [hS]; exact FmtText.itoa_length_le HL.out
  have HS := Lib.hid hS
  have HB := Lib.hid hb
  have q2 : ¬ 9223372036854775807 < 1 + src.size + 1 + S.size := by omega
  have q3 : ¬ 9223372036854775807 < 1 + src.size + 1 + S.size + 1 := by omega
  clear hS hb
  go_wp2
  go_ret
  refine ⟨congrArg (fun t => Ending.returned (.string t)) (bytes_ext ?_), HB.out⟩
  rw [HS.out, posT]
  simp [ByteArray.data_append]
theorem raw36_0 (A : Option Addr) (n c : Nat) (z : Nat → FR) (src : ByteArray) (ld : Int) (child : Bool) (w : World) :
    Calls Tryf.prog 36 #[.slice A n c, .int .i64 0, .string src, .int .i64 ld, .bool child] w (WPost (rawT z src ld child 0) w) := by
  cases child
  · go_enter Tryf.func36, Tryf.ntmps36
    go_wp2
    go_ret
    exact ⟨rfl, Below.refl _ _⟩
  · go_enter Tryf.func36, Tryf.ntmps36
    go_wp2
    go_ret
    exact ⟨rfl, Below.refl _ _⟩
theorem below_alloc_then {w w1 : World} {a : Obj} (h : Below (w.alloc a).heap.size (w.alloc a) w1) : Below w.heap.size w w1 := (below_one (Below.refl _ _) a).trans (h.mono (by simp))
set_option maxRecDepth 100000 in
set_option maxHeartbeats 2000000 in
theorem raw_a1 (A : Option Addr) (n c : Nat) (z : Nat → FR) (src : ByteArray) (ld : Int) (child : Bool) (w : World) (ha : Fms w A n c z) (hs : src.size ≤ 65536) (hld : (Lit.int .i64 ld).wf = true) {k : Nat} (hk : k + 1 < n) (K : Int) (hK : K = ((k + 1 : Nat) : Int)) (hg : (z k).g = true) (hg1 : (z (k + 1)).g = true) :
    Calls Tryf.prog 36 #[.slice A n c, .int .i64 K, .string src, .int .i64 ld, .bool child] w (WPost (rawT z src ld child (k + 1)) w) := by
  have hn := ha.len
  unfold maxLen at hn
  obtain ⟨b, off, hx, hlt, c0, c1, c2, c3, c4⟩ := ha.at_ hk
  obtain ⟨b', off', hx', hlt', d0, d1, d2, d3, d4⟩ := ha.at_ (k := k) (by omega)
  subst hx
  injection hx' with hx'
  injection hx' with hx' hx''
  subst hx' hx''
  have k0 : K.toNat = k + 1 := by omega
  have k1 : (K - 1).toNat = k := by omega
  have k2 : 0 ≤ K - 1 := by omega
  have k3 : K - 1 < n := by omega
  have k4 : 0 ≤ K := by omega
  have k5 : K < n := by omega
  have k6 : ¬ K = 0 := by omega
  have k7 : (K == 0) = false := by simp [k6]
  have k8 : 1 ≤ K := by omega
  have HLD := Lib.hid hld
  have HT : Hid ((⟨(rawT z src ld child (k + 1)).toArray⟩ : ByteArray) = ⟨#[40, 97, 110, 111, 110, 121, 109, 111, 117, 115, 41]⟩) := Lib.hid (by rw [rawT, if_neg (by simp [hg]), if_neg (by simp [hg1]), anonT])
  rw [hg1] at c0
  rw [hg] at d0
  generalize (z (k + 1)).line = L1 at *
  generalize (z k).line = L0 at *
  generalize (z k).tail = T0 at *
  generalize (z k).name = N0 at *
  generalize (z k).pc = P0 at *
  clear hld ha hK hlt'
  clear hg hg1
  go_enter Tryf.func36, Tryf.ntmps36
  go_wp2
  go_ret
  exact ⟨by first | (rw [HT.out]; done) | (rw [HT.out]; rfl), below_one (Below.refl _ _) _⟩
set_option maxRecDepth 100000 in
set_option maxHeartbeats 2000000 in
theorem raw_a0 (A : Option Addr) (n c : Nat) (z : Nat → FR) (src : ByteArray) (ld : Int) (child : Bool) (w : World) (ha : Fms w A n c z) (hs : src.size ≤ 65536) (hld : (Lit.int .i64 ld).wf = true) {k : Nat} (hk : k + 1 < n) (K : Int) (hK : K = ((k + 1 : Nat) : Int)) (hg : (z k).g = true) (hg1 : (z (k + 1)).g = false) :
    Calls Tryf.prog 36 #[.slice A n c, .int .i64 K, .string src, .int .i64 ld, .bool child] w (WPost (rawT z src ld child (k + 1)) w) := by
  have hn := ha.len
  unfold maxLen at hn
  obtain ⟨b, off, hx, hlt, c0, c1, c2, c3, c4⟩ := ha.at_ hk
  obtain ⟨b', off', hx', hlt', d0, d1, d2, d3, d4⟩ := ha.at_ (k := k) (by omega)
  subst hx
  injection hx' with hx'
  injection hx' with hx' hx''
  subst hx' hx''
  have k0 : K.toNat = k + 1 := by omega
  have k1 : (K - 1).toNat = k := by omega
  have k2 : 0 ≤ K - 1 := by omega
  have k3 : K - 1 < n := by omega
  have k4 : 0 ≤ K := by omega
  have k5 : K < n := by omega
  have k6 : ¬ K = 0 := by omega
  have k7 : (K == 0) = false := by simp [k6]
  have k8 : 1 ≤ K := by omega
  have HLD := Lib.hid hld
  have HT : Hid (rawT z src ld child (k + 1) = posT src ld) := Lib.hid (by rw [rawT, if_neg (by simp [hg]), if_pos hg1])
  rw [hg1] at c0
  rw [hg] at d0
  generalize (z (k + 1)).line = L1 at *
  generalize (z k).line = L0 at *
  generalize (z k).tail = T0 at *
  generalize (z k).name = N0 at *
  generalize (z k).pc = P0 at *
  clear hld ha hK hlt'
  clear hg hg1
  go_enter Tryf.func36, Tryf.ntmps36
  go_wp2_with fail
  refine (pos41 src ld _ hs HLD.out).mono ?_
  rintro e w1 ⟨rfl, hb⟩
  have HB := Lib.hid hb
  clear hb
  go_wp2
  go_ret
  exact ⟨by rw [HT.out]; rfl, below_alloc_then HB.out⟩
set_option maxRecDepth 100000 in
set_option maxHeartbeats 2000000 in
theorem raw_b1 (A : Option Addr) (n c : Nat) (z : Nat → FR) (src : ByteArray) (ld : Int) (child : Bool) (w : World) (ha : Fms w A n c z) (hs : src.size ≤ 65536) (hld : (Lit.int .i64 ld).wf = true) {k : Nat} (hk : k + 1 < n) (K : Int) (hK : K = ((k + 1 : Nat) : Int)) (hg : (z k).g = false) (hN : (z (k + 1)).name.size = 0) (hg1 : (z (k + 1)).g = true) :
    Calls Tryf.prog 36 #[.slice A n c, .int .i64 K, .string src, .int .i64 ld, .bool child] w (WPost (rawT z src ld child (k + 1)) w) := by
  have hn := ha.len
  unfold maxLen at hn
  obtain ⟨b, off, hx, hlt, c0, c1, c2, c3, c4⟩ := ha.at_ hk
  obtain ⟨b', off', hx', hlt', d0, d1, d2, d3, d4⟩ := ha.at_ (k := k) (by omega)
  subst hx
  injection hx' with hx'
  injection hx' with hx' hx''
  subst hx' hx''
  have k0 : K.toNat = k + 1 := by omega
  have k1 : (K - 1).toNat = k := by omega
  have k2 : 0 ≤ K - 1 := by omega
  have k3 : K - 1 < n := by omega
  have k4 : 0 ≤ K := by omega
  have k5 : K < n := by omega
  have k6 : ¬ K = 0 := by omega
  have k7 : (K == 0) = false := by simp [k6]
  have k8 : 1 ≤ K := by omega
  have HLD := Lib.hid hld
  have HT : Hid ((⟨(rawT z src ld child (k + 1)).toArray⟩ : ByteArray) = ⟨#[40, 97, 110, 111, 110, 121, 109, 111, 117, 115, 41]⟩) := Lib.hid (by rw [rawT, if_neg (fun h => h.2.1 hN), if_neg (by simp [hg1]), anonT])
  have m1 : (z (k + 1)).name.toList = [] := by
    rw [ByteArray.toList_eq]
    exact List.length_eq_zero_iff.1 hN
  have m2 : (z (k + 1)).name.toList.isEmpty = true := by rw [m1]; rfl
  rw [hg1] at c0
  rw [hg] at d0
  generalize (z (k + 1)).name = N1 at *
  generalize (z (k + 1)).line = L1 at *
  generalize (z k).line = L0 at *
  generalize (z k).tail = T0 at *
  generalize (z k).name = N0 at *
  generalize (z k).pc = P0 at *
  clear hld ha hK hlt'
  clear hg hg1 hN
  go_enter Tryf.func36, Tryf.ntmps36
  go_wp2
  go_ret
  exact ⟨by first | (rw [HT.out]; done) | (rw [HT.out]; rfl), below_one (Below.refl _ _) _⟩
set_option maxRecDepth 100000 in
set_option maxHeartbeats 2000000 in
theorem raw_b0 (A : Option Addr) (n c : Nat) (z : Nat → FR) (src : ByteArray) (ld : Int) (child : Bool) (w : World) (ha : Fms w A n c z) (hs : src.size ≤ 65536) (hld : (Lit.int .i64 ld).wf = true) {k : Nat} (hk : k + 1 < n) (K : Int) (hK : K = ((k + 1 : Nat) : Int)) (hg : (z k).g = false) (hN : (z (k + 1)).name.size = 0) (hg1 : (z (k + 1)).g = false) :
    Calls Tryf.prog 36 #[.slice A n c, .int .i64 K, .string src, .int .i64 ld, .bool child] w (WPost (rawT z src ld child (k + 1)) w) := by
  have hn := ha.len
  unfold maxLen at hn
  obtain ⟨b, off, hx, hlt, c0, c1, c2, c3, c4⟩ := ha.at_ hk
  obtain ⟨b', off', hx', hlt', d0, d1, d2, d3, d4⟩ := ha.at_ (k := k) (by omega)
  subst hx
  injection hx' with hx'
  injection hx' with hx' hx''
  subst hx' hx''
  have k0 : K.toNat = k + 1 := by omega
  have k1 : (K - 1).toNat = k := by omega
  have k2 : 0 ≤ K - 1 := by omega
  have k3 : K - 1 < n := by omega
  have k4 : 0 ≤ K := by omega
  have k5 : K < n := by omega
  have k6 : ¬ K = 0 := by omega
  have k7 : (K == 0) = false := by simp [k6]
  have k8 : 1 ≤ K := by omega
  have HLD := Lib.hid hld
  have HT : Hid (rawT z src ld child (k + 1) = posT src ld) := Lib.hid (by rw [rawT, if_neg (fun h => h.2.1 hN), if_pos hg1])
  have m1 : (z (k + 1)).name.toList = [] := by
    rw [ByteArray.toList_eq]
    exact List.length_eq_zero_iff.1 hN
  have m2 : (z (k + 1)).name.toList.isEmpty = true := by rw [m1]; rfl
  rw [hg1] at c0
  rw [hg] at d0
  generalize (z (k + 1)).name = N1 at *
  generalize (z (k + 1)).line = L1 at *
  generalize (z k).line = L0 at *
  generalize (z k).tail = T0 at *
  generalize (z k).name = N0 at *
  generalize (z k).pc = P0 at *
  clear hld ha hK hlt'
  clear hg hg1 hN
  go_enter Tryf.func36, Tryf.ntmps36
  go_wp2_with fail
  refine (pos41 src ld _ hs HLD.out).mono ?_
  rintro e w1 ⟨rfl, hb⟩
  have HB := Lib.hid hb
  clear hb
  go_wp2
  go_ret
  exact ⟨by rw [HT.out]; rfl, below_alloc_then HB.out⟩
set_option maxRecDepth 100000 in
set_option maxHeartbeats 2000000 in
theorem raw_c1 (A : Option Addr) (n c : Nat) (z : Nat → FR) (src : ByteArray) (ld : Int) (child : Bool) (w : World) (ha : Fms w A n c z) (hs : src.size ≤ 65536) (hld : (Lit.int .i64 ld).wf = true) {k : Nat} (hk : k + 1 < n) (K : Int) (hK : K = ((k + 1 : Nat) : Int)) (hg : (z k).g = false) (hN : (z (k + 1)).name.size ≠ 0) (hP : (z (k + 1)).pc ≠ 0) (hg1 : (z (k + 1)).g = true) :
    Calls Tryf.prog 36 #[.slice A n c, .int .i64 K, .string src, .int .i64 ld, .bool child] w (WPost (rawT z src ld child (k + 1)) w) := by
  have hn := ha.len
  unfold maxLen at hn
  obtain ⟨b, off, hx, hlt, c0, c1, c2, c3, c4⟩ := ha.at_ hk
  obtain ⟨b', off', hx', hlt', d0, d1, d2, d3, d4⟩ := ha.at_ (k := k) (by omega)
  subst hx
  injection hx' with hx'
  injection hx' with hx' hx''
  subst hx' hx''
  have k0 : K.toNat = k + 1 := by omega
  have k1 : (K - 1).toNat = k := by omega
  have k2 : 0 ≤ K - 1 := by omega
  have k3 : K - 1 < n := by omega
  have k4 : 0 ≤ K := by omega
  have k5 : K < n := by omega
  have k6 : ¬ K = 0 := by omega
  have k7 : (K == 0) = false := by simp [k6]
  have k8 : 1 ≤ K := by omega
  have HLD := Lib.hid hld
  have HT : Hid ((⟨(rawT z src ld child (k + 1)).toArray⟩ : ByteArray) = ⟨#[40, 97, 110, 111, 110, 121, 109, 111, 117, 115, 41]⟩) := Lib.hid (by rw [rawT, if_neg (fun h => hP h.2.2), if_neg (by simp [hg1]), anonT])
  have m1 : ¬ (z (k + 1)).name.toList = [] := fun e => hN (by
    have : (z (k + 1)).name.data.toList = [] := by rw [← ByteArray.toList_eq]; exact e
    show (z (k + 1)).name.data.toList.length = 0
    rw [this]; rfl)
  have m2 : (!(z (k + 1)).name.toList.isEmpty) = true := by simp [m1]
  have p2 : ((z (k + 1)).pc == 0) = false := by simp [hP]
  rw [hg1] at c0
  rw [hg] at d0
  generalize (z (k + 1)).name = N1 at *
  generalize (z (k + 1)).pc = P1 at *
  generalize (z (k + 1)).line = L1 at *
  generalize (z k).line = L0 at *
  generalize (z k).tail = T0 at *
  generalize (z k).name = N0 at *
  generalize (z k).pc = P0 at *
  clear hld ha hK hlt'
  clear hg hg1 hN
  go_enter Tryf.func36, Tryf.ntmps36
  go_wp2
  go_ret
  exact ⟨by first | (rw [HT.out]; done) | (rw [HT.out]; rfl), below_one (Below.refl _ _) _⟩
set_option maxRecDepth 100000 in
set_option maxHeartbeats 2000000 in
theorem raw_c0 (A : Option Addr) (n c : Nat) (z : Nat → FR) (src : ByteArray) (ld : Int) (child : Bool) (w : World) (ha : Fms w A n c z) (hs : src.size ≤ 65536) (hld : (Lit.int .i64 ld).wf = true) {k : Nat} (hk : k + 1 < n) (K : Int) (hK : K = ((k + 1 : Nat) : Int)) (hg : (z k).g = false) (hN : (z (k + 1)).name.size ≠ 0) (hP : (z (k + 1)).pc ≠ 0) (hg1 : (z (k + 1)).g = false) :
    Calls Tryf.prog 36 #[.slice A n c, .int .i64 K, .string src, .int .i64 ld, .bool child] w (WPost (rawT z src ld child (k + 1)) w) := by
  have hn := ha.len
  unfold maxLen at hn
  obtain ⟨b, off, hx, hlt, c0, c1, c2, c3, c4⟩ := ha.at_ hk
  obtain ⟨b', off', hx', hlt', d0, d1, d2, d3, d4⟩ := ha.at_ (k := k) (by omega)
  subst hx
  injection hx' with hx'
  injection hx' with hx' hx''
  subst hx' hx''
  have k0 : K.toNat = k + 1 := by omega
  have k1 : (K - 1).toNat = k := by omega
  have k2 : 0 ≤ K - 1 := by omega
  have k3 : K - 1 < n := by omega
  have k4 : 0 ≤ K := by omega
  have k5 : K < n := by omega
  have k6 : ¬ K = 0 := by omega
  have k7 : (K == 0) = false := by simp [k6]
  have k8 : 1 ≤ K := by omega
  have HLD := Lib.hid hld
  have HT : Hid (rawT z src ld child (k + 1) = posT src ld) := Lib.hid (by rw [rawT, if_neg (fun h => hP h.2.2), if_pos hg1])
  have m1 : ¬ (z (k + 1)).name.toList = [] := fun e => hN (by
    have : (z (k + 1)).name.data.toList = [] := by rw [← ByteArray.toList_eq]; exact e
    show (z (k + 1)).name.data.toList.length = 0
    rw [this]; rfl)
  have m2 : (!(z (k + 1)).name.toList.isEmpty) = true := by simp [m1]
  have p2 : ((z (k + 1)).pc == 0) = false := by simp [hP]
  rw [hg1] at c0
  rw [hg] at d0
  generalize (z (k + 1)).name = N1 at *
  generalize (z (k + 1)).pc = P1 at *
  generalize (z (k + 1)).line = L1 at *
  generalize (z k).line = L0 at *
  generalize (z k).tail = T0 at *
  generalize (z k).name = N0 at *
  generalize (z k).pc = P0 at *
  clear hld ha hK hlt'
  clear hg hg1 hN
  go_enter Tryf.func36, Tryf.ntmps36
  go_wp2_with fail
  refine (pos41 src ld _ hs HLD.out).mono ?_
  rintro e w1 ⟨rfl, hb⟩
  have HB := Lib.hid hb
  clear hb
  go_wp2
  go_ret
  exact ⟨by rw [HT.out]; rfl, below_alloc_then HB.out⟩
set_option maxRecDepth 100000 in
set_option maxHeartbeats 2000000 in
theorem raw_d1 (A : Option Addr) (n c : Nat) (z : Nat → FR) (src : ByteArray) (ld : Int) (child : Bool) (w : World) (ha : Fms w A n c z) (hs : src.size ≤ 65536) (hld : (Lit.int .i64 ld).wf = true) {k : Nat} (hk : k + 1 < n) (K : Int) (hK : K = ((k + 1 : Nat) : Int)) (hg : (z k).g = false) (hN : (z (k + 1)).name.size ≠ 0) (hP : (z (k + 1)).pc = 0) (hg1 : (z (k + 1)).g = true) :
    Calls Tryf.prog 36 #[.slice A n c, .int .i64 K, .string src, .int .i64 ld, .bool child] w (WPost (rawT z src ld child (k + 1)) w) := by
  have hn := ha.len
  unfold maxLen at hn
  obtain ⟨b, off, hx, hlt, c0, c1, c2, c3, c4⟩ := ha.at_ hk
  obtain ⟨b', off', hx', hlt', d0, d1, d2, d3, d4⟩ := ha.at_ (k := k) (by omega)
  subst hx
  injection hx' with hx'
  injection hx' with hx' hx''
  subst hx' hx''
  have k0 : K.toNat = k + 1 := by omega
  have k1 : (K - 1).toNat = k := by omega
  have k2 : 0 ≤ K - 1 := by omega
  have k3 : K - 1 < n := by omega
  have k4 : 0 ≤ K := by omega
  have k5 : K < n := by omega
  have k6 : ¬ K = 0 := by omega
  have k7 : (K == 0) = false := by simp [k6]
  have k8 : 1 ≤ K := by omega
  have HLD := Lib.hid hld
  have HT : Hid ((⟨(rawT z src ld child (k + 1)).toArray⟩ : ByteArray) = (z (k + 1)).name) := Lib.hid (by rw [rawT, if_pos ⟨hg, hN, hP⟩, if_neg (by simp [hg1])])
  have m1 : ¬ (z (k + 1)).name.toList = [] := fun e => hN (by
    have : (z (k + 1)).name.data.toList = [] := by rw [← ByteArray.toList_eq]; exact e
    show (z (k + 1)).name.data.toList.length = 0
    rw [this]; rfl)
  have m2 : (!(z (k + 1)).name.toList.isEmpty) = true := by simp [m1]
  rw [hg1] at c0
  rw [hg] at d0
  rw [hP] at c4
  generalize (z (k + 1)).name = N1 at *
  generalize (z (k + 1)).line = L1 at *
  generalize (z k).line = L0 at *
  generalize (z k).tail = T0 at *
  generalize (z k).name = N0 at *
  generalize (z k).pc = P0 at *
  clear hld ha hK hlt'
  clear hg hg1 hP hN
  go_enter Tryf.func36, Tryf.ntmps36
  go_wp2
  go_ret
  exact ⟨by first | (rw [HT.out]; done) | (rw [HT.out]; rfl), below_one (Below.refl _ _) _⟩
set_option maxRecDepth 100000 in
set_option maxHeartbeats 2000000 in
theorem raw_d2 (A : Option Addr) (n c : Nat) (z : Nat → FR) (src : ByteArray) (ld : Int) (child : Bool) (w : World) (ha : Fms w A n c z) (hs : src.size ≤ 65536) (hld : (Lit.int .i64 ld).wf = true) {k : Nat} (hk : k + 1 < n) (K : Int) (hK : K = ((k + 1 : Nat) : Int)) (hg : (z k).g = false) (hN : (z (k + 1)).name.size ≠ 0) (hP : (z (k + 1)).pc = 0) (hg1 : (z (k + 1)).g = false) (hQ : (z (k + 1)).name = ⟨#[63]⟩) :
    Calls Tryf.prog 36 #[.slice A n c, .int .i64 K, .string src, .int .i64 ld, .bool child] w (WPost (rawT z src ld child (k + 1)) w) := by
  have hn := ha.len
  unfold maxLen at hn
  obtain ⟨b, off, hx, hlt, c0, c1, c2, c3, c4⟩ := ha.at_ hk
  obtain ⟨b', off', hx', hlt', d0, d1, d2, d3, d4⟩ := ha.at_ (k := k) (by omega)
  subst hx
  injection hx' with hx'
  injection hx' with hx' hx''
  subst hx' hx''
  have k0 : K.toNat = k + 1 := by omega
  have k1 : (K - 1).toNat = k := by omega
  have k2 : 0 ≤ K - 1 := by omega
  have k3 : K - 1 < n := by omega
  have k4 : 0 ≤ K := by omega
  have k5 : K < n := by omega
  have k6 : ¬ K = 0 := by omega
  have k7 : (K == 0) = false := by simp [k6]
  have k8 : 1 ≤ K := by omega
  have HLD := Lib.hid hld
  have HT : Hid (rawT z src ld child (k + 1) = posT src ld) := Lib.hid (by rw [rawT, if_pos ⟨hg, hN, hP⟩, if_pos ⟨hg1, .inl hQ⟩])
  have m1 : ¬ (z (k + 1)).name.toList = [] := fun e => hN (by
    have : (z (k + 1)).name.data.toList = [] := by rw [← ByteArray.toList_eq]; exact e
    show (z (k + 1)).name.data.toList.length = 0
    rw [this]; rfl)
  have m2 : (!(z (k + 1)).name.toList.isEmpty) = true := by simp [m1]
  have r1 : (z (k + 1)).name.toList = [63] := by
    rw [ByteArray.toList_eq, hQ]
  have r2 : ((z (k + 1)).name.toList == [63]) = true := by rw [r1]; rfl
  rw [hg1] at c0
  rw [hg] at d0
  rw [hP] at c4
  generalize (z (k + 1)).name = N1 at *
  generalize (z (k + 1)).line = L1 at *
  generalize (z k).line = L0 at *
  generalize (z k).tail = T0 at *
  generalize (z k).name = N0 at *
  generalize (z k).pc = P0 at *
  clear hld ha hK hlt'
  clear hg hg1 hP hN hQ
  go_enter Tryf.func36, Tryf.ntmps36
  go_wp2_with fail
  refine (pos41 src ld _ hs HLD.out).mono ?_
  rintro e w1 ⟨rfl, hb⟩
  have HB := Lib.hid hb
  clear hb
  go_wp2
  go_ret
  exact ⟨by rw [HT.out]; rfl, below_alloc_then HB.out⟩
set_option maxRecDepth 100000 in
set_option maxHeartbeats 2000000 in
theorem raw_d3 (A : Option Addr) (n c : Nat) (z : Nat → FR) (src : ByteArray) (ld : Int) (child : Bool) (w : World) (ha : Fms w A n c z) (hs : src.size ≤ 65536) (hld : (Lit.int .i64 ld).wf = true) {k : Nat} (hk : k + 1 < n) (K : Int) (hK : K = ((k + 1 : Nat) : Int)) (hg : (z k).g = false) (hN : (z (k + 1)).name.size ≠ 0) (hP : (z (k + 1)).pc = 0) (hg1 : (z (k + 1)).g = false) (hQ : (z (k + 1)).name ≠ ⟨#[63]⟩) (hT : 0 < (z (k + 1)).tail) :
    Calls Tryf.prog 36 #[.slice A n c, .int .i64 K, .string src, .int .i64 ld, .bool child] w (WPost (rawT z src ld child (k + 1)) w) := by
  have hn := ha.len
  unfold maxLen at hn
  obtain ⟨b, off, hx, hlt, c0, c1, c2, c3, c4⟩ := ha.at_ hk
  obtain ⟨b', off', hx', hlt', d0, d1, d2, d3, d4⟩ := ha.at_ (k := k) (by omega)
  subst hx
  injection hx' with hx'
  injection hx' with hx' hx''
  subst hx' hx''
  have k0 : K.toNat = k + 1 := by omega
  have k1 : (K - 1).toNat = k := by omega
  have k2 : 0 ≤ K - 1 := by omega
  have k3 : K - 1 < n := by omega
  have k4 : 0 ≤ K := by omega
  have k5 : K < n := by omega
  have k6 : ¬ K = 0 := by omega
  have k7 : (K == 0) = false := by simp [k6]
  have k8 : 1 ≤ K := by omega
  have HLD := Lib.hid hld
  have HT : Hid (rawT z src ld child (k + 1) = posT src ld) := Lib.hid (by rw [rawT, if_pos ⟨hg, hN, hP⟩, if_pos ⟨hg1, .inr (by simp [zt, hg1, hT])⟩])
  have m1 : ¬ (z (k + 1)).name.toList = [] := fun e => hN (by
    have : (z (k + 1)).name.data.toList = [] := by rw [← ByteArray.toList_eq]; exact e
    show (z (k + 1)).name.data.toList.length = 0
    rw [this]; rfl)
  have m2 : (!(z (k + 1)).name.toList.isEmpty) = true := by simp [m1]
  have r1 : ¬ (z (k + 1)).name.toList = [63] := fun e => hQ (by
    rw [ByteArray.toList_eq] at e
    exact bytes_ext e)
  have r2 : ((z (k + 1)).name.toList == [63]) = false := by simp [r1]
  rw [hg1] at c0
  rw [hg] at d0
  rw [hP] at c4
  generalize (z (k + 1)).name = N1 at *
  generalize (z (k + 1)).tail = T1 at *
  generalize (z (k + 1)).line = L1 at *
  generalize (z k).line = L0 at *
  generalize (z k).tail = T0 at *
  generalize (z k).name = N0 at *
  generalize (z k).pc = P0 at *
  clear hld ha hK hlt'
  clear hg hg1 hP hN hQ
  go_enter Tryf.func36, Tryf.ntmps36
  go_wp2_with fail
  refine (pos41 src ld _ hs HLD.out).mono ?_
  rintro e w1 ⟨rfl, hb⟩
  have HB := Lib.hid hb
  clear hb
  go_wp2
  go_ret
  exact ⟨by rw [HT.out]; rfl, below_alloc_then HB.out⟩
set_option maxRecDepth 100000 in
set_option maxHeartbeats 2000000 in
theorem raw_d4 (A : Option Addr) (n c : Nat) (z : Nat → FR) (src : ByteArray) (ld : Int) (child : Bool) (w : World) (ha : Fms w A n c z) (hs : src.size ≤ 65536) (hld : (Lit.int .i64 ld).wf = true) {k : Nat} (hk : k + 1 < n) (K : Int) (hK : K = ((k + 1 : Nat) : Int)) (hg : (z k).g = false) (hN : (z (k + 1)).name.size ≠ 0) (hP : (z (k + 1)).pc = 0) (hg1 : (z (k + 1)).g = false) (hQ : (z (k + 1)).name ≠ ⟨#[63]⟩) (hT : ¬ 0 < (z (k + 1)).tail) :
    Calls Tryf.prog 36 #[.slice A n c, .int .i64 K, .string src, .int .i64 ld, .bool child] w (WPost (rawT z src ld child (k + 1)) w) := by
  have hn := ha.len
  unfold maxLen at hn
  obtain ⟨b, off, hx, hlt, c0, c1, c2, c3, c4⟩ := ha.at_ hk
  obtain ⟨b', off', hx', hlt', d0, d1, d2, d3, d4⟩ := ha.at_ (k := k) (by omega)
  subst hx
  injection hx' with hx'
  injection hx' with hx' hx''
  subst hx' hx''
  have k0 : K.toNat = k + 1 := by omega
  have k1 : (K - 1).toNat = k := by omega
  have k2 : 0 ≤ K - 1 := by omega
  have k3 : K - 1 < n := by omega
  have k4 : 0 ≤ K := by omega
  have k5 : K < n := by omega
  have k6 : ¬ K = 0 := by omega
  have k7 : (K == 0) = false := by simp [k6]
  have k8 : 1 ≤ K := by omega
  have HLD := Lib.hid hld
  have HT : Hid ((⟨(rawT z src ld child (k + 1)).toArray⟩ : ByteArray) = (z (k + 1)).name) := Lib.hid (by rw [rawT, if_pos ⟨hg, hN, hP⟩, if_neg (by simp [zt, hg1, hT, hQ])])
  have m1 : ¬ (z (k + 1)).name.toList = [] := fun e => hN (by
    have : (z (k + 1)).name.data.toList = [] := by rw [← ByteArray.toList_eq]; exact e
    show (z (k + 1)).name.data.toList.length = 0
    rw [this]; rfl)
  have m2 : (!(z (k + 1)).name.toList.isEmpty) = true := by simp [m1]
  have r1 : ¬ (z (k + 1)).name.toList = [63] := fun e => hQ (by
    rw [ByteArray.toList_eq] at e
    exact bytes_ext e)
  have r2 : ((z (k + 1)).name.toList == [63]) = false := by simp [r1]
  rw [hg1] at c0
  rw [hg] at d0
  rw [hP] at c4
  generalize (z (k + 1)).name = N1 at *
  generalize (z (k + 1)).tail = T1 at *
  generalize (z (k + 1)).line = L1 at *
  generalize (z k).line = L0 at *
  generalize (z k).tail = T0 at *
  generalize (z k).name = N0 at *
  generalize (z k).pc = P0 at *
  clear hld ha hK hlt'
  clear hg hg1 hP hN hQ
  go_enter Tryf.func36, Tryf.ntmps36
  go_wp2
  go_ret
  exact ⟨by first | (rw [HT.out]; done) | (rw [HT.out]; rfl), below_one (Below.refl _ _) _⟩
theorem raw36 (A : Option Addr) (n c : Nat) (z : Nat → FR) (src : ByteArray) (ld : Int) (child : Bool) (w : World) (ha : Fms w A n c z) (hs : src.size ≤ 65536) (hld : (Lit.int .i64 ld).wf = true) {k : Nat} (hk : k < n) (K : Int) (hK : K = (k : Int)) :
    Calls Tryf.prog 36 #[.slice A n c, .int .i64 K, .string src, .int .i64 ld, .bool child] w (WPost (rawT z src ld child k) w) := by
  cases k with
  | zero =>
    obtain rfl : K = 0 := hK
    exact raw36_0 A n c z src ld child w
  | succ k =>
    cases hg : (z k).g
    · by_cases hN : (z (k + 1)).name.size = 0
      · cases hg1 : (z (k + 1)).g
        · exact raw_b0 A n c z src ld child w ha hs hld hk K hK hg hN hg1
        · exact raw_b1 A n c z src ld child w ha hs hld hk K hK hg hN hg1
      · by_cases hP : (z (k + 1)).pc = 0
        · cases hg1 : (z (k + 1)).g
          · by_cases hQ : (z (k + 1)).name = ⟨#[63]⟩
            · exact raw_d2 A n c z src ld child w ha hs hld hk K hK hg hN hP hg1 hQ
            · by_cases hT : 0 < (z (k + 1)).tail
              · exact raw_d3 A n c z src ld child w ha hs hld hk K hK hg hN hP hg1 hQ hT
              · exact raw_d4 A n c z src ld child w ha hs hld hk K hK hg hN hP hg1 hQ hT
          · exact raw_d1 A n c z src ld child w ha hs hld hk K hK hg hN hP hg1
        · cases hg1 : (z (k + 1)).g
          · exact raw_c0 A n c z src ld child w ha hs hld hk K hK hg hN hP hg1
          · exact raw_c1 A n c z src ld child w ha hs hld hk K hK hg hN hP hg1
    · cases hg1 : (z (k + 1)).g
      · exact raw_a0 A n c z src ld child w ha hs hld hk K hK hg hg1
      · exact raw_a1 A n c z src ld child w ha hs hld hk K hK hg hg1
theorem fmt24_0 (A : Option Addr) (n c : Nat) (z : Nat → FR) (src : ByteArray) (ld : Int) (child : Bool) (w : World) :
    Calls Tryf.prog 24 #[.slice A n c, .int .i64 0, .string src, .int .i64 ld, .bool child] w (WPost (fmtT z src ld child 0) w) := by
  have c36 := raw36_0 A n c z src ld child w
  have HT : Hid (fmtT z src ld child 0 = rawT z src ld child 0) := Lib.hid (by rw [fmtT, if_pos rfl])
  generalize rawT z src ld child 0 = T at *
  go_enter Tryf.func24, Tryf.ntmps24
  go_wp2_with fail
  refine c36.mono ?_
  clear c36
  rintro e w1 ⟨rfl, hb⟩
  have HB := Lib.hid hb
  clear hb
  go_wp2
  go_ret
  exact ⟨by rw [HT.out]; rfl, HB.out⟩
set_option maxRecDepth 100000 in
set_option maxHeartbeats 2000000 in
theorem fmt24_s (A : Option Addr) (n c : Nat) (z : Nat → FR) (src : ByteArray) (ld : Int) (child : Bool) (w : World) (ha : Fms w A n c z) (ok : FOK n z src) (hld : (Lit.int .i64 ld).wf = true) {k : Nat} (hk : k < n) (hk0 : k ≠ 0) (K : Int) (hK : K = (k : Int)) :
    Calls Tryf.prog 24 #[.slice A n c, .int .i64 K, .string src, .int .i64 ld, .bool child] w (WPost (fmtT z src ld child k) w) := by
  have hl := rawT_len (child := child) ok hld hk
  have c36 := raw36 A n c z src ld child w ha ok.hs hld hk K hK
  have HT : Hid (fmtT z src ld child k = dress (rawT z src ld child k)) := Lib.hid (by rw [fmtT, if_neg hk0])
  obtain ⟨c1, t, hct⟩ : ∃ c1 t, rawT z src ld child k = c1 :: t := by
    cases hr : rawT z src ld child k with
    | nil => rw [hr] at hl; simp at hl
    | cons c t => exact ⟨c, t, rfl⟩
  rw [hct] at c36 HT hl
  have k6 : ¬ K = 0 := by omega
  have k7 : (K == 0) = false := by simp [k6]
  clear ha ok hld hk hk0 hK hct
  obtain ⟨S, hS⟩ : ∃ S : ByteArray, (⟨(c1 :: t).toArray⟩ : ByteArray) = S := ⟨_, rfl⟩
  have hSl : S.data.toList = c1 :: t := by rw [← hS]
  unfold WPost at c36
  rw [hS] at c36
  have hsz : 0 < S.size := by
    show 0 < S.data.toList.length
    rw [hSl]; exact hl.2
  have hsz2 : S.size ≤ 1048576 := by
    show S.data.toList.length ≤ 1048576
    rw [hSl]; exact hl.1
  have h0 : S[0]'hsz = c1 := by
    subst hS
    rfl
  by_cases hc : c1 = 40
  · subst hc
    have HD : Hid ((⟨(dress (40 :: t)).toArray⟩ : ByteArray) = (⟨#[102, 117, 110, 99, 116, 105, 111, 110, 32]⟩ : ByteArray) ++ S) := Lib.hid (by rw [dress, if_pos (by simp)]; exact (bytes_ext (by simp [ByteArray.data_append, hSl, funT])).symm)
    have hx : ((S[0]'hsz).toNat : Int) = 40 := by rw [h0]; rfl
    have hq : ¬ 9223372036854775807 < 9 + S.size := by omega
    clear hS hSl h0 hl
    go_enter Tryf.func24, Tryf.ntmps24
    go_wp2_with fail
    refine c36.mono ?_
    clear c36
    rintro e w1 ⟨rfl, hb⟩
    have HB := Lib.hid hb
    clear hb
    go_wp2
    go_ret
    exact ⟨by rw [HT.out, HD.out]; rfl, HB.out⟩
  by_cases hc2 : c1 = 60
  · subst hc2
    have HD : Hid ((⟨(dress (60 :: t)).toArray⟩ : ByteArray) = (⟨#[102, 117, 110, 99, 116, 105, 111, 110, 32]⟩ : ByteArray) ++ S) := Lib.hid (by rw [dress, if_pos (by simp)]; exact (bytes_ext (by simp [ByteArray.data_append, hSl, funT])).symm)
    have hx : ((S[0]'hsz).toNat : Int) = 60 := by rw [h0]; rfl
    have hq : ¬ 9223372036854775807 < 9 + S.size := by omega
    clear hS hSl h0 hl
    go_enter Tryf.func24, Tryf.ntmps24
    go_wp2_with fail
    refine c36.mono ?_
    clear c36
    rintro e w1 ⟨rfl, hb⟩
    have HB := Lib.hid hb
    clear hb
    go_wp2
    go_ret
    exact ⟨by rw [HT.out, HD.out]; rfl, HB.out⟩
  have HD : Hid ((⟨(dress (c1 :: t)).toArray⟩ : ByteArray) = (⟨#[102, 117, 110, 99, 116, 105, 111, 110, 32, 39]⟩ : ByteArray) ++ S ++ ⟨#[39]⟩) := Lib.hid (by rw [dress, if_neg (by simp [hc, hc2])]; exact (bytes_ext (by simp [ByteArray.data_append, hSl])).symm)
  have hx1 : ((c1.toNat : Int) == 40) = false := by
    simp only [beq_eq_false_iff_ne, ne_eq]
    intro e
    exact hc (UInt8.toNat.inj (by have : c1.toNat = 40 := by omega
                                  rw [this]; rfl))
  have hx2 : ((c1.toNat : Int) == 60) = false := by
    simp only [beq_eq_false_iff_ne, ne_eq]
    intro e
    exact hc2 (UInt8.toNat.inj (by have : c1.toNat = 60 := by omega
                                   rw [this]; rfl))
  have hy1 : ¬ (c1.toNat : Int) = 40 := by simpa using hx1
  have hy2 : ¬ (c1.toNat : Int) = 60 := by simpa using hx2
  have hq : ¬ 9223372036854775807 < 10 + S.size := by omega
  have hq2 : ¬ 9223372036854775807 < 10 + S.size + 1 := by omega
  clear hS hSl hl
  go_enter Tryf.func24, Tryf.ntmps24
  go_wp2_with fail
  refine c36.mono ?_
  clear c36
  rintro e w1 ⟨rfl, hb⟩
  have HB := Lib.hid hb
  clear hb
  go_wp2
  go_ret
  exact ⟨by rw [HT.out, HD.out]; rfl, HB.out⟩
theorem fmt24 (A : Option Addr) (n c : Nat) (z : Nat → FR) (src : ByteArray) (ld : Int) (child : Bool) (w : World) (ha : Fms w A n c z) (ok : FOK n z src) (hld : (Lit.int .i64 ld).wf = true) {k : Nat} (hk : k < n) (K : Int) (hK : K = (k : Int)) :
    Calls Tryf.prog 24 #[.slice A n c, .int .i64 K, .string src, .int .i64 ld, .bool child] w (WPost (fmtT z src ld child k) w) := by
  by_cases hk0 : k = 0
  · subst hk0
    obtain rfl : K = 0 := hK
    exact fmt24_0 A n c z src ld child w
  · exact fmt24_s A n c z src ld child w ha ok hld hk hk0 K hK
end Go.Proofs.YtlpnagpdjkgbcaaFmt
