/- The pool of names: what each of its methods does to the memory that it owns, and what it answers. -/
import Derived.Test.YtpffohonpblfkaaFmtProg
import Derived.Test.YtpffohonpblfkaaFmtHp
import Derived.WalkKit
import Derived.WalkSpells
import Derived.WalkSmall
import Derived.Lib.Hide
import Derived.OpenShut
import Derived.Handy
import Derived.Deep.QuietTactic
import Derived.BigQuiet
import Derived.RegionTactic
import Derived.BigRegion
import Derived.Deep.AppendLies
namespace Go.Proofs.YtpffohonpblfkaaFmt
open Go.RowKit Go.ChangeShapes Go.Deep
theorem pool_info : (Tryf.prog.info? 9).map (fun i => (i.zero, i.size, i.bytes)) = some (some (.string ByteArray.empty), 1, 16) := by kernel_rfl
def strsV (l : List ByteArray) : List Value := l.map Value.string
structure VP (w : World) (own : Nat → Prop) (p : Nat) (off : Int) (names : List ByteArray) (gn cn : Nat) : Prop where
  row : w.rowIs p 91 2 (fun i => if i = 0 then .slice (some ⟨gn, 0, none⟩) names.length cn else .int .i64 off)
  nm : w.ownsRow 0 9 1 (.slice (some ⟨gn, 0, none⟩) names.length cn) names.length (strsV names)
  op : own p
  on : own gn
def VPool (w : World) (own : Nat → Prop) (p : Nat) (off : Int) (names : List ByteArray) : Prop := ∃ gn cn, VP w own p off names gn cn
/-- Name i of a list, by its index. -/
def nth (names : List ByteArray) (i : Nat) : ByteArray := names.getD i ByteArray.empty
theorem VP.at_ {w : World} {own : Nat → Prop} {p : Nat} {off : Int} {names : List ByteArray} {gn cn : Nat} (h : VP w own p off names gn cn) {i : Nat} (hi : i < names.length) : w.cell? ⟨gn, i, none⟩ = some (.string (nth names i)) := by
  rw [World.ownsRow.cellAt h.nm i (by omega), strsV, List.getElem?_map, List.getElem?_eq_getElem hi]
  simp [nth, List.getD, List.getElem?_eq_getElem hi]
section
variable {w : World} {own : Nat → Prop} {p : Nat} {off : Int} {names : List ByteArray}
theorem pool_find_no (h : VPool w own p off names) (hn : names.length ≤ 1048576) (name : ByteArray) (hno : ∀ i, i < names.length → (nth names i).toList ≠ name.toList) :
    Calls Tryf.prog 50 #[.pointer (some ⟨p, 0, none⟩), .string name] w fun e w' => e = .returned (.int .i64 (-1)) ∧ w = w' := by
  obtain ⟨gn, cn, h⟩ := h
  have c0 := h.row.cell (i := 0) (by omega)
  have c1 := h.row.cell (i := 1) (by omega)
  simp at c0 c1
  have hcell : ∀ i, i < names.length → w.cell? ⟨gn, i, none⟩ = some (.string (nth names i)) := fun i hi => h.at_ hi
  obtain ⟨n, hnl⟩ : ∃ n, names.length = n := ⟨_, rfl⟩
  rw [hnl] at c0 hn hcell hno
  have HC := Lib.hid hcell
  have HO := Lib.hid hno
  clear hnl hcell hno h
  go_enter Tryf.func50, Tryf.ntmps50
  go_wp2
  go_loop [5] (fun i => ∃ k : Nat, k ≤ n ∧ i = .int .i64 ((k : Int) - 1)) (fun i => (intOf i + 1).toNat)
  case atStart => exact ⟨n, Nat.le_refl _, rfl⟩
  case round =>
    obtain ⟨k, hk, rfl⟩ := hrel
    by_cases hk0 : 0 < k
    · have hc := HC.out (k - 1) (by omega)
      have hb : ((nth names (k - 1)).toList == name.toList) = false := beq_eq_false_iff_ne.2 (HO.out (k - 1) (by omega))
      go_wp2
      go_round
      case rel => exact ⟨k - 1, by omega, by rw [show ((k : Int) - 1 - 1) = ((k - 1 : Nat) : Int) - 1 by omega]⟩
      case measure => simp [intOf]; omega
    · obtain rfl : k = 0 := by omega
      go_wp2
      go_ret
      exact ⟨rfl, rfl⟩
theorem pool_find_yes (h : VPool w own p off names) (hn : names.length ≤ 1048576) (name : ByteArray) (j : Nat) (hj : j < names.length) (hyes : (nth names j).toList = name.toList) (hno : ∀ i, j < i → i < names.length → (nth names i).toList ≠ name.toList) :
    Calls Tryf.prog 50 #[.pointer (some ⟨p, 0, none⟩), .string name] w fun e w' => e = .returned (.int .i64 (wrap64 ((j : Int) + off))) ∧ w = w' := by
  obtain ⟨gn, cn, h⟩ := h
  have c0 := h.row.cell (i := 0) (by omega)
  have c1 := h.row.cell (i := 1) (by omega)
  simp at c0 c1
  have hcell : ∀ i, i < names.length → w.cell? ⟨gn, i, none⟩ = some (.string (nth names i)) := fun i hi => h.at_ hi
  obtain ⟨n, hnl⟩ : ∃ n, names.length = n := ⟨_, rfl⟩
  rw [hnl] at c0 hn hcell hno hj
  have HC := Lib.hid hcell
  have HO := Lib.hid hno
  have HY := Lib.hid hyes
  clear hnl hcell hno hyes h
  go_enter Tryf.func50, Tryf.ntmps50
  go_wp2
  go_loop [5] (fun i => ∃ k : Nat, j < k ∧ k ≤ n ∧ i = .int .i64 ((k : Int) - 1)) (fun i => (intOf i + 1).toNat)
  case atStart => exact ⟨n, by omega, Nat.le_refl _, rfl⟩
  case round =>
    obtain ⟨k, hjk, hk, rfl⟩ := hrel
    have hc := HC.out (k - 1) (by omega)
    by_cases hk1 : j + 1 = k
    · have hb : ((nth names (k - 1)).toList == name.toList) = true := by
        have : k - 1 = j := by omega
        rw [this, HY.out]; simp
      have he : (j : Int) = (k : Int) - 1 := by omega
      have HE := Lib.hid he
      clear he hk1
      go_wp2
      go_ret
      exact ⟨by rw [HE.out]; rfl, rfl⟩
    · have hb : ((nth names (k - 1)).toList == name.toList) = false := beq_eq_false_iff_ne.2 (HO.out (k - 1) (by omega) (by omega))
      have hk2 : j + 1 < k := by omega
      go_wp2
      go_round
      case rel => exact ⟨k - 1, by omega, by omega, by rw [show ((k : Int) - 1 - 1) = ((k - 1 : Nat) : Int) - 1 by omega]⟩
      case measure => simp [intOf]; omega
theorem pool_names {gn cn : Nat} (h : VP w own p off names gn cn) :
    Calls Tryf.prog 46 #[.pointer (some ⟨p, 0, none⟩)] w fun e w' => e = .returned (.slice (some ⟨gn, 0, none⟩) names.length cn) ∧ w = w' := by
  have c0 := h.row.cell (i := 0) (by omega)
  simp at c0
  obtain ⟨n, hnl⟩ : ∃ n, names.length = n := ⟨_, rfl⟩
  rw [hnl] at c0
  rw [hnl]
  clear hnl h
  go_enter Tryf.func46, Tryf.ntmps46
  go_wp2
  go_ret
  exact ⟨rfl, rfl⟩
/-- What Register leaves. -/
theorem reg_after {w1 : World} {gn cn g1 cap1 : Nat} (h : VP w own p off names gn cn) (name : ByteArray)
    (o1 : w1.ownsRow 0 9 1 (.slice (some ⟨g1, 0, none⟩) (names.length + 1) cap1) (names.length + 1) (strsV names ++ [.string name])) (gr1 : (w.alloc (.cells #[.string name] 9)).grownBy w1 (some gn))
    (at1 : some gn = some g1 ∨ g1 = (w.alloc (.cells #[.string name] 9)).heap.size) (hlt1 : g1 < w1.heap.size) (hpg : p ≠ gn) :
    let W := w1.setCell ⟨p, 0, none⟩ (.slice (some ⟨g1, 0, none⟩) (names.length + 1) cap1)
    VPool W (fun k => own k ∨ (w.heap.size ≤ k ∧ k < W.heap.size)) p off (names ++ [name]) ∧ Fr own w W := by
  intro W
  have hpl := h.row.lt
  have z1 : w.heap.size + 1 ≤ w1.heap.size := by have := gr1.size; simpa using this
  have hW : W.heap.size = w1.heap.size := by simp [W]
  have e1 : g1 = gn ∨ g1 = w.heap.size + 1 := by
    rcases at1 with h1 | h1
    · injection h1 with h1; exact .inl h1.symm
    · exact .inr (by simpa using h1)
  have f1 : Fr (fun k => k = gn) w w1 := ((Fr.refl _ w).alloc _).grown gr1 (fun k hk => by left; injection hk with hk; exact hk.symm)
  have f2 : Fr own w W := (f1.mono (o' := own) (fun k hk => .inl (by subst hk; exact h.on))).setCell (p := ⟨p, 0, none⟩) (.inl h.op) _
  have r1 := f1.row h.row hpg
  have r2 := r1.set 0 (.slice (some ⟨g1, 0, none⟩) (names.length + 1) cap1)
  have fs : Fr (fun k => k = p) w1 W := Fr.setCell (o := fun k => k = p) (Fr.refl _ w1) (p := ⟨p, 0, none⟩) (.inl rfl) _
  have hg1p : g1 ≠ p := by omega
  refine ⟨⟨g1, cap1, ⟨r2.congr (fun i hi => ?_), ?_, .inl h.op, ?_⟩⟩, f2⟩
  · match i, hi with
    | 0, _ => simp
    | 1, _ => simp
  · have := fs.own o1 (fun k hk hx => by simp [Value.ownBlock] at hk; omega)
    simpa [strsV] using this
  · rcases e1 with rfl | rfl
    · exact .inl h.on
    · exact .inr ⟨by omega, by omega⟩
theorem vp_ne {gn cn : Nat} (h : VP w own p off names gn cn) : p ≠ gn := by
  obtain ⟨_, h1 | ⟨g', cap', cur, h1, _, hg, _⟩⟩ := h.nm
  · simp at h1
  · simp at h1
    obtain ⟨rfl, _⟩ := h1
    obtain ⟨c, hb, _⟩ := h.row
    rintro rfl
    rw [hg] at hb
    injection hb with hb
    injection hb with _ he
    exact absurd he (by decide)
set_option maxHeartbeats 400000 in
theorem pool_register (h : VPool w own p off names) (hn : names.length ≤ 1048575) (name : ByteArray) :
    Calls Tryf.prog 43 #[.pointer (some ⟨p, 0, none⟩), .string name] w fun e w' => e = .returned (.int .i64 (wrap64 ((names.length : Int) + off))) ∧
      VPool w' (fun k => own k ∨ (w.heap.size ≤ k ∧ k < w'.heap.size)) p off (names ++ [name]) ∧ Fr own w w' := by
  obtain ⟨gn, cn, h⟩ := h
  have c0 := h.row.cell (i := 0) (by omega)
  have c1 := h.row.cell (i := 1) (by omega)
  simp at c0 c1
  have hne := vp_ne h
  have f0 := h.row.frozen 0
  have hnm := h.nm
  have hrow := h.row
  obtain ⟨i0, hi0, hz0, hz1, hz2⟩ := info_parts pool_info
  have fin : ∀ (g1 cap1 : Nat) (w1 : World) (k : Nat), w1.ownsRow 0 9 1 (.slice (some ⟨g1, 0, none⟩) (names.length + 1) cap1) (names.length + 1) (strsV names ++ [.string name]) → (w.alloc (.cells #[.string name] 9)).grownBy w1 (some gn) →
      (some gn = some g1 ∨ g1 = (w.alloc (.cells #[.string name] 9)).heap.size) → g1 < w1.heap.size →
      VPool ((w1.setCell ⟨p, 0, none⟩ (.slice (some ⟨g1, 0, none⟩) (names.length + 1) cap1)).drewN k) (fun t => own t ∨ (w.heap.size ≤ t ∧ t < ((w1.setCell ⟨p, 0, none⟩ (.slice (some ⟨g1, 0, none⟩) (names.length + 1) cap1)).drewN k).heap.size)) p off (names ++ [name]) ∧
        Fr own w ((w1.setCell ⟨p, 0, none⟩ (.slice (some ⟨g1, 0, none⟩) (names.length + 1) cap1)).drewN k) := by
    intro g1 cap1 w1 k a1 a2 a3 a4
    obtain ⟨⟨gn', cn', hv⟩, hf⟩ := reg_after h name a1 a2 a3 a4 hne
    exact ⟨⟨gn', cn', ⟨hv.row, hv.nm, hv.op, hv.on⟩⟩, hf.drewN k⟩
  obtain ⟨n, hnl⟩ : ∃ n, names.length = n := ⟨_, rfl⟩
  rw [hnl] at c0 hn hnm fin hrow
  rw [hnl]
  have FIN := Lib.hid fin
  clear hnl h fin
  go_enter Tryf.func43, Tryf.ntmps43
  go_wp2_with (at_builtin; refine wpList_append_lies _ rfl (.tmp 9) (.tmp 11) 24 rfl 0 9 i0 (.string ByteArray.empty) 1 16 Tryf.underlying24 hi0 hz0 hz1 hz2 rfl (by decide) _ _ (strsV names) rfl (World.ownsRow.alloc hnm _) ⟨w.heap.size, 0, none⟩ 1 1 [.string name] rfl rfl (cell_one_new _ _ _) (by intro u hu; simp at hu; subst hu; rfl) (by omega) (by unfold maxLen; omega) (by omega) (Nat.zero_le _) _ rfl ?_; intro g1 cap1 w1 hown1 hgr1 hat1 hlt1; have r1 := grownBy_row (row := some gn) hgr1 (World.rowIs.alloc hrow _) (fun e => hne (Option.some.inj e).symm); have d0 := r1.cell (i := 0) (by omega); have d1 := r1.cell (i := 1) (by omega); simp at d0 d1; have g0 := r1.frozen 0)
  go_quiet (fail)
  go_wp2
  go_ret
  exact ⟨rfl, FIN.out _ _ _ _ hown1 hgr1 hat1 hlt1⟩
end
theorem pool_make_cap {P : Program} (t e : TypeId) (z : Value) (bytes : Nat) (ht : P.underlying t = some (.slice e)) (hinfo : (P.info? e).map (fun i => (i.zero, i.size, i.bytes)) = some (some z, 1, bytes)) (hz1 : z.cells = #[z])
    (c : Nat) (hbytes : bytes * c ≤ 281474976710656) (h63 : c ≤ 9223372036854775807) :
    ∃ C : Array Value, C.size = c ∧ ∀ W : World, (Instr.makeSlice t (.int .i64 0) (.int .i64 (c : Int))).run P W = .ok (.slice (some ⟨W.heap.size, 0, none⟩) 0 c) (W.alloc (.cells C e)) := by
  obtain ⟨i, hi, hzz⟩ := Option.map_eq_some_iff.1 hinfo
  simp only [Prod.mk.injEq] at hzz
  obtain ⟨hz, hs, hb⟩ := hzz
  refine ⟨madeCells #[z] c, by rw [size_madeCells], fun w => ?_⟩
  have hb' : (i.bytes : Int) * (c : Int) ≤ 281474976710656 := by
    have h : ((i.bytes * c : Nat) : Int) ≤ 281474976710656 := by rw [hb]; omega
    rwa [Int.natCast_mul] at h
  have hr := run_make (P := P) w t e i z ht hi hz .i64 .i64 0 c (by omega) (by omega) hb' (by omega)
  simp only [Int.toNat_natCast, hs, Nat.mul_one, hz1] at hr
  exact hr
theorem pool_new (off : Int) (w : World) : Calls Tryf.prog 40 #[.int .i64 off] w fun e w' => e = .returned (.pointer (some ⟨w.heap.size + 1, 0, none⟩)) ∧
    VPool w' (fun x => w.heap.size ≤ x ∧ x < w'.heap.size) (w.heap.size + 1) off [] ∧ Below w.heap.size w w' ∧ w'.heap.size = w.heap.size + 2 := by
  obtain ⟨C1, hC1, m1⟩ := pool_make_cap (P := Tryf.prog) 24 9 (.string ByteArray.empty) 16 Tryf.underlying24 pool_info rfl 16 (by omega) (by omega)
  have e16 : ((16 : Nat) : Int) = 16 := rfl
  rw [e16] at m1
  have H1 := Lib.hid hC1
  clear hC1 e16
  go_enter Tryf.func40, Tryf.ntmps40
  go_wp2
  go_ret
  refine ⟨rfl, ⟨w.heap.size, 16, ⟨?_, ?_, ?_, ?_⟩⟩, by go_grown, by simp only [World.size_alloc]⟩
  · have := World.rowIs_alloc (w.alloc (.cells C1 9)) #[.slice (some ⟨w.heap.size, 0, none⟩) 0 16, .int .i64 off] 91 (fun i => if i = 0 then .slice (some ⟨w.heap.size, 0, none⟩) 0 16 else .int .i64 off)
      (fun i hi => by simp at hi; match i, hi with | 0, _ => rfl | 1, _ => rfl)
    simp only [World.size_alloc] at this
    exact this
  · exact (World.ownsRow_made (base := 0) (size := 1) w C1 16 (Nat.zero_le _) (by decide) (by rw [H1.out])).alloc _
  · simp only [World.size_alloc]; omega
  · simp only [World.size_alloc]; omega
theorem pair_info : (Tryf.prog.info? 98).map (fun i => (i.zero, i.size, i.bytes)) = some (some (.agg #[.int .i64 0, .string ByteArray.empty]), 2, 24) := by kernel_rfl
theorem pool_make_pairs {P : Program} (t e : TypeId) (z1 z2 : Value) (bytes : Nat) (ht : P.underlying t = some (.slice e)) (hinfo : (P.info? e).map (fun i => (i.zero, i.size, i.bytes)) = some (some (.agg #[z1, z2]), 2, bytes))
    (c : Nat) (hbytes : bytes * c ≤ 281474976710656) (h63 : c ≤ 9223372036854775807) :
    ∃ C : Array Value, C.size = c * 2 ∧ ∀ W : World, (Instr.makeSlice t (.int .i64 (c : Int)) (.int .i64 (c : Int))).run P W = .ok (.slice (some ⟨W.heap.size, 0, none⟩) c c) (W.alloc (.cells C e)) := by
  obtain ⟨i, hi, hzz⟩ := Option.map_eq_some_iff.1 hinfo
  simp only [Prod.mk.injEq] at hzz
  obtain ⟨hz, hs, hb⟩ := hzz
  refine ⟨madeCells (Value.agg #[z1, z2]).cells (c * 2), by rw [size_madeCells], fun w => ?_⟩
  have hb' : (i.bytes : Int) * (c : Int) ≤ 281474976710656 := by
    have h : ((i.bytes * c : Nat) : Int) ≤ 281474976710656 := by rw [hb]; omega
    rwa [Int.natCast_mul] at h
  have hr := run_make (P := P) w t e i _ ht hi hz .i64 .i64 c c (by omega) (by omega) hb' (by omega)
  simp only [Int.toNat_natCast, hs] at hr
  exact hr
/-- The pairs that List makes of the names, cell by cell. -/
def pairF (off : Int) (names : List ByteArray) (j : Nat) : Value := if j % 2 = 0 then .int .i64 (wrap64 ((j / 2 : Nat) + off)) else .string (nth names (j / 2))
section
variable {w : World} {own : Nat → Prop} {p : Nat} {off : Int} {names : List ByteArray}
set_option maxHeartbeats 400000 in
theorem pool_list (h : VPool w own p off names) (hn : names.length ≤ 1048576) :
    Calls Tryf.prog 47 #[.pointer (some ⟨p, 0, none⟩)] w fun e w' => e = .returned (.slice (some ⟨w.heap.size, 0, none⟩) names.length names.length) ∧
      w'.rowIs w.heap.size 98 (names.length * 2) (pairF off names) ∧ Below w.heap.size w w' ∧ w'.heap.size = w.heap.size + 1 := by
  obtain ⟨gn, cn, h⟩ := h
  have c0 := h.row.cell (i := 0) (by omega)
  have c1 := h.row.cell (i := 1) (by omega)
  simp at c0 c1
  have hpl := h.row.lt
  have hcell : ∀ i, i < names.length → w.cell? ⟨gn, i, none⟩ = some (.string (nth names i)) := fun i hi => h.at_ hi
  have hgl : gn < w.heap.size := by
    obtain ⟨_, h1 | ⟨g', cap', cur, h1, _, hg, _⟩⟩ := h.nm
    · simp at h1
    · simp at h1; obtain ⟨rfl, _⟩ := h1; exact (Array.getElem?_eq_some_iff.1 hg).1
  obtain ⟨n, hnl⟩ : ∃ n, names.length = n := ⟨_, rfl⟩
  rw [hnl] at c0 hn hcell
  rw [hnl]
  have HC := Lib.hid hcell
  clear hcell hnl h
  obtain ⟨C, hC, hmk⟩ := pool_make_pairs (P := Tryf.prog) 66 98 (.int .i64 0) (.string ByteArray.empty) 24 Tryf.underlying66 pair_info n (by omega) (by omega)
  have H1 := Lib.hid hC
  clear hC
  go_enter Tryf.func47, Tryf.ntmps47
  go_wp2
  go_region
  go_wp2
  obtain ⟨F0, hF0⟩ : ∃ F0 : Nat → Value, ∀ i, i < C.size → C[i]? = some (F0 i) := ⟨fun i => C.getD i undef, fun i hi => by simp [Array.getD, hi]⟩
  have hnew : ((w.alloc (.cells C 98)).drew).rowIs w.heap.size 98 (n * 2) F0 := by
    have := World.rowIs_alloc w C 98 F0 hF0
    rw [H1.out] at this
    exact this
  clear hF0
  go_loopw [22] (fun i wr => ∃ k : Nat, k ≤ n ∧ i = .int .i64 k ∧ wr.rowIs w.heap.size 98 (n * 2) (fun j => if j < k * 2 then pairF off names j else F0 j) ∧ Below w.heap.size w wr ∧ wr.heap.size ≤ w.heap.size + 1) (fun i _ => n - (intOf i).toNat)
  case atStart => exact ⟨0, Nat.zero_le _, rfl, hnew.congr (fun i _ => by simp), by go_grown, by (show (w.alloc _).heap.size ≤ _; rw [World.size_alloc]; exact Nat.le_refl _)⟩
  case round =>
    obtain ⟨k, hk, rfl, hrow, hb, hsz⟩ := hrel
    by_cases hkn : k < n
    · have d0 := (hb.cell (p := ⟨p, 0, none⟩) hpl).trans c0
      have d1 := (hb.cell (p := ⟨p, 1, none⟩) hpl).trans c1
      have d2 := (hb.cell (p := ⟨gn, k, none⟩) hgl).trans (HC.out k hkn)
      have e0 := hrow.cell (i := k * 2) (by omega)
      have e1 := hrow.cell (i := k * 2 + 1) (by omega)
      obtain ⟨u0, hu0⟩ : ∃ u, wr.cell? ⟨w.heap.size, k * 2, none⟩ = some u := ⟨_, e0⟩
      obtain ⟨u1, hu1⟩ : ∃ u, wr.cell? ⟨w.heap.size, k * 2 + 1, none⟩ = some u := ⟨_, e1⟩
      have g0 := hrow.frozen (k * 2)
      have g1 := hrow.frozen (k * 2 + 1)
      have hrow2 : ((wr.setCell ⟨w.heap.size, k * 2, none⟩ (.int .i64 (wrap64 ((k : Int) + off)))).setCell ⟨w.heap.size, k * 2 + 1, none⟩ (.string (nth names k))).rowIs w.heap.size 98 (n * 2) (fun j => if j < (k + 1) * 2 then pairF off names j else F0 j) := by
        refine ((hrow.set (k * 2) _).set (k * 2 + 1) _).congr (fun j hj => ?_)
        by_cases h1 : j = k * 2 + 1
        · subst h1
          have e2 : (k * 2 + 1) / 2 = k := by omega
          have e3 : (k * 2 + 1) % 2 = 1 := by omega
          simp only [if_true, show k * 2 + 1 < (k + 1) * 2 by omega, pairF, e2, e3]
          rfl
        · by_cases h2 : j = k * 2
          · subst h2
            have e2 : (k * 2) / 2 = k := by omega
            have e3 : (k * 2) % 2 = 0 := by omega
            simp only [if_neg h1, if_true, show k * 2 < (k + 1) * 2 by omega, pairF, e2, e3]
          · by_cases h3 : j < k * 2
            · simp only [if_neg h1, if_neg h2, h3, if_true, show j < (k + 1) * 2 by omega]
            · simp only [if_neg h1, if_neg h2, h3, show ¬ j < (k + 1) * 2 by omega]
      have hb2 := (hb.setCell (p := ⟨w.heap.size, k * 2, none⟩) (Nat.le_refl _) (.int .i64 (wrap64 ((k : Int) + off)))).setCell (p := ⟨w.heap.size, k * 2 + 1, none⟩) (Nat.le_refl _) (.string (nth names k))
      have R1 := Lib.hid hrow2
      have R2 := Lib.hid hb2
      clear hrow2 hb2 hrow hb e0 e1 hmk hnew
      go_wp2
      go_roundw
      case rel => exact ⟨k + 1, by omega, by go_num, R1.out, R2.out, by simpa using hsz⟩
      case measure => simp [intOf]; omega
    · obtain rfl : k = n := by omega
      clear hmk
      go_wp2
      go_ret
      exact ⟨rfl, hrow.congr (fun j hj => by simp [hj]), hb, by have := hrow.lt; omega⟩
end
end Go.Proofs.YtpffohonpblfkaaFmt
