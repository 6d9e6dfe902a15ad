import Derived.Test.YtijbpfompooeoaaProg
import Derived.Test.YtijbpfompooeoaaHp
import Derived.Test.YtijbpfompooeoaaOr
import Derived.WalkKit
import Derived.WalkSpells
import Derived.WalkLawsBesides
import Derived.Lib.Hide
import Derived.Lib.Builder
import Derived.OpenShut
import Derived.Handy
import Derived.LaidEqlPtr
import Derived.Laws.EntriesVeiled
import Derived.Deep.QuietTactic
import Derived.BigQuiet
import Derived.RegionTactic
import Derived.BigRegion
import Derived.Deep.AppendLies
import Derived.StillTailTactics
namespace Go.Proofs.Ytijbpfompooeoaa
open Go.RowKit Go.ChangeShapes Go.Deep
@[go_sem] theorem as44 (v : Value) (w : World) : (Instr.typeAssert (.iface 44 v) 46 44 true).run Try.prog w = .ok (.tuple #[v, .bool true]) w := by kernel_rfl
theorem info46 : (Try.prog.info? 46).map (fun i => (i.zero, i.size, i.bytes)) = some (some (.nilIface), 1, 16) := by kernel_rfl
def cell44 (M : Nat → ByteArray) (i : Nat) : Value := .iface 44 (.string (M i))
def regF (g n : Nat) (t : Int) (i : Nat) : Value := if i = 0 then .slice (some ⟨g, 0, none⟩) n n else if i = 1 then .int .i64 t else if i = 2 then .int .i64 0 else if i = 3 then .int .i64 n else if i = 4 then .pointer none else .nilIface
/-- A register file that holds these strings. -/
structure RG (w : World) (r g n : Nat) (M : Nat → ByteArray) : Prop where
  row : ∃ t : Int, w.rowIs r 56 6 (regF g n t)
  arr : w.rowIs g 46 n (cell44 M)
  ne : r ≠ g
def uvF (q : Option Addr) (k : Int) (own : ByteArray) (c : Bool) (i : Nat) : Value := if i = 0 then .pointer none else if i = 1 then .pointer q else if i = 2 then .int .i64 k else if i = 3 then .iface 44 (.string own) else .bool c
def UV (w : World) (u : Nat) (q : Option Addr) (k : Int) (own : ByteArray) (c : Bool) : Prop := w.rowIs u 48 5 (uvF q k own c)
theorem RG.fr {o : Nat → Prop} {w w' : World} {r g n : Nat} {M : Nat → ByteArray} (h : RG w r g n M) (hf : Fr o w w') (hr : ¬ o r) (hg : ¬ o g) : RG w' r g n M := by
  obtain ⟨⟨t, h1⟩, h2, h3⟩ := h
  exact ⟨⟨t, hf.row h1 hr⟩, hf.row h2 hg, h3⟩
theorem RG.below {w w' : World} {r g n : Nat} {M : Nat → ByteArray} (h : RG w r g n M) (hf : Below w.heap.size w w') : RG w' r g n M := by
  obtain ⟨⟨t, h1⟩, h2, h3⟩ := h
  exact ⟨⟨t, Below.row hf h1 h1.lt⟩, Below.row hf h2 h2.lt, h3⟩
theorem UV.fr {o : Nat → Prop} {w w' : World} {u : Nat} {q : Option Addr} {k : Int} {own : ByteArray} {c : Bool} (h : UV w u q k own c) (hf : Fr o w w') (hr : ¬ o u) : UV w' u q k own c := hf.row h hr
theorem UV.below {w w' : World} {u : Nat} {q : Option Addr} {k : Int} {own : ByteArray} {c : Bool} (h : UV w u q k own c) (hf : Below w.heap.size w w') : UV w' u q k own c := Below.row hf h (World.rowIs.lt h)
/-- An upvalue is no part of a register file. -/
theorem uv_ne {w : World} {u r g n : Nat} {q : Option Addr} {k : Int} {own : ByteArray} {c : Bool} {M : Nat → ByteArray} (h : UV w u q k own c) (hr : RG w r g n M) : u ≠ r ∧ u ≠ g := by
  obtain ⟨⟨t, ca, ha, _⟩, ⟨cb, hb, _⟩, _⟩ := hr
  obtain ⟨cu, hu, _⟩ := h
  constructor
  · rintro rfl
    rw [hu] at ha
    simp at ha
  · rintro rfl
    rw [hu] at hb
    simp at hb
def upd (M : Nat → ByteArray) (k : Nat) (v : ByteArray) : Nat → ByteArray := fun i => if i = k then v else M i
section
variable {w : World} {r g n u : Nat} {M : Nat → ByteArray} {q : Option Addr} {k : Int} {own : ByteArray} {c : Bool}
theorem reg_set (h : RG w r g n M) (_hn : n ≤ 65536) (i : Nat) (hi : i < n) (s : ByteArray) :
    Calls Try.prog 15 #[.pointer (some ⟨r, 0, none⟩), .int .i64 i, .string s] w fun e w' => e = .returned (.tuple #[]) ∧ RG w' r g n (upd M i s) ∧ Fr (fun x => x = g) w w' := by
  obtain ⟨⟨t, h1⟩, h2, h3⟩ := h
  have c0 := h1.cell (i := 0) (by omega)
  simp [regF] at c0
  have c1 := h2.cell hi
  have f1 := h2.frozen i
  have F1 := Lib.hid h1
  have F2 := Lib.hid h2
  clear h1 h2
  go_enter Try.func15, Try.ntmps15
  go_wp2
  go_end0
  refine ⟨rfl, ⟨⟨t, World.rowIs.setOther F1.out (a := ⟨g, i, none⟩) h3 _⟩, (F2.out.set i _).congr (fun j hj => ?_), h3⟩, Fr.setCell (o := fun x => x = g) (Fr.refl _ w) (p := ⟨g, i, none⟩) (.inl rfl) _⟩
  by_cases hj : j = i <;> simp [cell44, upd, hj]
theorem reg_get (h : RG w r g n M) (_hn : n ≤ 65536) (i : Nat) (hi : i < n) :
    Calls Try.prog 22 #[.pointer (some ⟨r, 0, none⟩), .int .i64 i] w fun e w' => e = .returned (.tuple #[.string (M i), .bool true]) ∧ w = w' := by
  obtain ⟨⟨t, h1⟩, h2, h3⟩ := h
  have c0 := h1.cell (i := 0) (by omega)
  simp [regF] at c0
  have c1 := h2.cell hi
  simp only [cell44] at c1
  clear h1 h2
  go_enter Try.func22, Try.ntmps22
  go_wp2
  go_ret2
  exact ⟨rfl, rfl⟩
theorem uv_new (q : Option Addr) (k : Int) (own : ByteArray) (c : Bool) (w : World) :
    Calls Try.prog 12 #[.pointer q, .int .i64 k, .string own, .bool c] w fun e w' => ∃ u : Nat, e = .returned (.pointer (some ⟨u, 0, none⟩)) ∧ UV w' u q k own c ∧ Below w.heap.size w w' ∧ w.heap.size ≤ u := by
  go_enter Try.func12, Try.ntmps12
  go_wp2
  go_ret
  refine ⟨w.heap.size, rfl, World.rowIs_alloc w _ 48 _ (fun i hi => ?_), by go_grown, Nat.le_refl _⟩
  simp at hi
  match i, hi with
  | 0, _ => rfl
  | 1, _ => rfl
  | 2, _ => rfl
  | 3, _ => rfl
  | 4, _ => rfl
theorem is_closed (h : UV w u q k own c) (hq : ∀ a, q = some a → a.spot = none) :
    Calls Try.prog 19 #[.pointer (some ⟨u, 0, none⟩)] w fun e w' => e = .returned (.bool (c || q.isNone)) ∧ w = w' := by
  have c1 := World.rowIs.cell h (i := 1) (by omega)
  have c4 := World.rowIs.cell h (i := 4) (by omega)
  simp [uvF] at c1 c4
  clear h
  cases c
  · cases q
    · go_enter Try.func19, Try.ntmps19
      go_wp2
      go_ret
      exact ⟨rfl, rfl⟩
    · go_enter Try.func19, Try.ntmps19
      go_wp2
      go_ret
      exact ⟨rfl, rfl⟩
  · go_enter Try.func19, Try.ntmps19
    go_wp2
    go_ret
    exact ⟨rfl, rfl⟩
/-- The value: its own. -/
theorem value_own (h : UV w u q k own c) (hc : (c || q.isNone) = true) :
    Calls Try.prog 26 #[.pointer (some ⟨u, 0, none⟩)] w fun e w' => e = .returned (.iface 44 (.string own)) ∧ ∃ m, w' = w.drewN m := by
  have c1 := World.rowIs.cell h (i := 1) (by omega)
  have c3 := World.rowIs.cell h (i := 3) (by omega)
  have c4 := World.rowIs.cell h (i := 4) (by omega)
  simp [uvF] at c1 c3 c4
  clear h
  cases c
  · cases q
    · go_enter Try.func26, Try.ntmps26
      go_wp2
      go_ret
      exact ⟨rfl, 0, rfl⟩
    · cases hc
  · go_enter Try.func26, Try.ntmps26
    go_wp2
    go_ret
    exact ⟨rfl, 0, rfl⟩
/-- The value: the register's. -/
theorem value_reg (h : UV w u (some ⟨r, 0, none⟩) k own false) (hr : RG w r g n M) (_hn : n ≤ 65536) (i : Nat) (hi : i < n) (hk : k = i) :
    Calls Try.prog 26 #[.pointer (some ⟨u, 0, none⟩)] w fun e w' => e = .returned (.iface 44 (.string (M i))) ∧ ∃ m, w' = w.drewN m := by
  subst hk
  have c1 := World.rowIs.cell h (i := 1) (by omega)
  have c2 := World.rowIs.cell h (i := 2) (by omega)
  have c4 := World.rowIs.cell h (i := 4) (by omega)
  simp [uvF] at c1 c2 c4
  obtain ⟨⟨t, h1⟩, h2, h3⟩ := hr
  have d0 := h1.cell (i := 0) (by omega)
  simp [regF] at d0
  have d1 := h2.cell hi
  simp only [cell44] at d1
  clear h h1 h2
  go_enter Try.func26, Try.ntmps26
  go_wp2
  go_quiet (fail)
  go_wp2
  go_ret
  exact ⟨rfl, _, rfl⟩
theorem value_str {s : ByteArray} (cv : Calls Try.prog 26 #[.pointer (some ⟨u, 0, none⟩)] w fun e w' => e = .returned (.iface 44 (.string s)) ∧ ∃ m, w' = w.drewN m) :
    Calls Try.prog 20 #[.pointer (some ⟨u, 0, none⟩)] w fun e w' => e = .returned (.tuple #[.string s, .bool true]) ∧ ∃ m, w' = w.drewN m := by
  go_enter Try.func20, Try.ntmps20
  go_wp2_with fail
  refine cv.mono ?_
  rintro e w' ⟨rfl, m, rfl⟩
  go_wp2
  go_ret2
  exact ⟨rfl, _, rfl⟩
theorem close_uv {s : ByteArray} (h : UV w u q k own c) (cv : Calls Try.prog 26 #[.pointer (some ⟨u, 0, none⟩)] w fun e w' => e = .returned (.iface 44 (.string s)) ∧ ∃ m, w' = w.drewN m) :
    Calls Try.prog 14 #[.pointer (some ⟨u, 0, none⟩)] w fun e w' => e = .returned (.tuple #[]) ∧ UV w' u q k s true ∧ Fr (fun x => x = u) w w' := by
  have c3 := World.rowIs.cell h (i := 3) (by omega)
  have c4 := World.rowIs.cell h (i := 4) (by omega)
  have f3 := World.rowIs.frozen h 3
  have f4 := World.rowIs.frozen h 4
  simp [uvF] at c3 c4
  have H := Lib.hid h
  clear h
  go_enter Try.func14, Try.ntmps14
  go_wp2_with fail
  refine cv.mono ?_
  rintro e w' ⟨rfl, m, rfl⟩
  clear cv
  go_wp2
  go_end0
  refine ⟨rfl, (World.rowIs.set (World.rowIs.set (w := w.drewN m) H.out 4 (.bool true)) 3 (.iface 44 (.string s))).congr (fun i hi => ?_), ?_⟩
  · match i, hi with
    | 0, _ => rfl
    | 1, _ => rfl
    | 2, _ => rfl
    | 3, _ => rfl
    | 4, _ => rfl
  · exact Fr.setCell (o := fun x => x = u) (Fr.setCell (o := fun x => x = u) (Fr.drewN (Fr.refl _ w) m) (p := ⟨u, 4, none⟩) (.inl rfl) _) (p := ⟨u, 3, none⟩) (.inl rfl) _
theorem set_own25 (h : UV w u q k own c) (hq : ∀ a, q = some a → a.spot = none) (hc : (c || q.isNone) = true) (s : ByteArray) :
    Calls Try.prog 25 #[.pointer (some ⟨u, 0, none⟩), .iface 44 (.string s)] w fun e w' => e = .returned (.tuple #[]) ∧ UV w' u q k s c ∧ Fr (fun x => x = u) w w' := by
  have c19 := is_closed h hq
  rw [hc] at c19
  have c3 := World.rowIs.cell h (i := 3) (by omega)
  have f3 := World.rowIs.frozen h 3
  simp [uvF] at c3
  have H := Lib.hid h
  clear h
  go_enter Try.func25, Try.ntmps25
  go_wp2_with (go_at_call 19; refine c19.mono ?_; rintro e w' ⟨rfl, rfl⟩)
  go_end0
  refine ⟨rfl, (World.rowIs.set H.out 3 (.iface 44 (.string s))).congr (fun i hi => ?_), Fr.setCell (o := fun x => x = u) (Fr.refl _ w) (p := ⟨u, 3, none⟩) (.inl rfl) _⟩
  match i, hi with
  | 0, _ => rfl
  | 1, _ => rfl
  | 2, _ => rfl
  | 3, _ => rfl
  | 4, _ => rfl
theorem set_own (h : UV w u q k own c) (hq : ∀ a, q = some a → a.spot = none) (hc : (c || q.isNone) = true) (s : ByteArray) :
    Calls Try.prog 13 #[.pointer (some ⟨u, 0, none⟩), .string s] w fun e w' => e = .returned (.tuple #[]) ∧ UV w' u q k s c ∧ Fr (fun x => x = u) w w' := by
  have c25 := set_own25 h hq hc s
  clear h
  go_enter Try.func13, Try.ntmps13
  go_wp2_with fail
  refine c25.mono ?_
  rintro e w' ⟨rfl, h1, h2⟩
  have H1 := Lib.hid h1
  have H2 := Lib.hid h2
  clear h1 h2 c25
  go_wp2
  go_end0
  exact ⟨rfl, H1.out, H2.out⟩
theorem rg_set (hr : RG w r g n M) (hn : n ≤ 65536) (i : Nat) (hi : i < n) (s : ByteArray) :
    Calls Try.prog 27 #[.pointer (some ⟨r, 0, none⟩), .int .i64 i, .iface 44 (.string s)] w fun e w' => e = .returned (.tuple #[]) ∧ RG w' r g n (upd M i s) ∧ Fr (fun x => x = r ∨ x = g) w w' := by
  obtain ⟨⟨t, h1⟩, h2, h3⟩ := hr
  have c0 := h1.cell (i := 0) (by omega)
  have c1 := h1.cell (i := 1) (by omega)
  simp [regF] at c0 c1
  have f1 := h1.frozen 1
  have d1 := h2.cell hi
  have g1 := h2.frozen i
  have F1 := Lib.hid h1
  have F2 := Lib.hid h2
  have h3' : g ≠ r := fun e => h3 e.symm
  clear h1 h2
  have fa : RG (w.setCell ⟨g, i, none⟩ (.iface 44 (.string s))) r g n (upd M i s) := by
    refine ⟨⟨t, World.rowIs.setOther F1.out (a := ⟨g, i, none⟩) h3 _⟩, (F2.out.set i _).congr (fun j hj => ?_), h3⟩
    by_cases hj : j = i <;> simp [cell44, upd, hj]
  have fr1 : Fr (fun x => x = r ∨ x = g) w (w.setCell ⟨g, i, none⟩ (.iface 44 (.string s))) := Fr.setCell (o := fun x => x = r ∨ x = g) (Fr.refl _ w) (p := ⟨g, i, none⟩) (.inl (.inr rfl)) _
  have FA := Lib.hid fa
  have FR := Lib.hid fr1
  clear fa fr1
  by_cases ht : t ≤ (i : Int)
  · go_enter Try.func27, Try.ntmps27
    go_wp2
    go_end0
    obtain ⟨⟨t', r1⟩, r2, _⟩ := FA.out
    refine ⟨rfl, ⟨⟨(i : Int) + 1, (World.rowIs.set (World.rowIs.setOther F1.out (a := ⟨g, i, none⟩) h3 (.iface 44 (.string s))) 1 (.int .i64 ((i : Int) + 1))).congr (fun j hj => ?_)⟩, World.rowIs.setOther r2 (a := ⟨r, 1, none⟩) h3' _, h3⟩, Fr.setCell (o := fun x => x = r ∨ x = g) FR.out (p := ⟨r, 1, none⟩) (.inl (.inl rfl)) _⟩
    match j, hj with
    | 0, _ => rfl
    | 1, _ => rfl
    | 2, _ => rfl
    | 3, _ => rfl
    | 4, _ => rfl
    | 5, _ => rfl
  · go_enter Try.func27, Try.ntmps27
    go_wp2
    go_end0
    exact ⟨rfl, FA.out, FR.out⟩
theorem set_reg25 (h : UV w u (some ⟨r, 0, none⟩) k own false) (hr : RG w r g n M) (hn : n ≤ 65536) (i : Nat) (hi : i < n) (hk : k = i) (s : ByteArray) :
    Calls Try.prog 25 #[.pointer (some ⟨u, 0, none⟩), .iface 44 (.string s)] w fun e w' => e = .returned (.tuple #[]) ∧ RG w' r g n (upd M i s) ∧ Fr (fun x => x = r ∨ x = g) w w' := by
  subst hk
  have c19 := is_closed h (fun a ha => by cases ha; rfl)
  have c1 := World.rowIs.cell h (i := 1) (by omega)
  have c2 := World.rowIs.cell h (i := 2) (by omega)
  simp [uvF] at c1 c2
  have c27 := fun m => rg_set (w := w.drewN m) (r := r) (g := g) (n := n) (M := M) ⟨hr.row, hr.arr, hr.ne⟩ hn i hi s
  clear h hr
  go_enter Try.func25, Try.ntmps25
  go_wp2_with (go_at_call 19; refine c19.mono ?_; rintro e w' ⟨rfl, rfl⟩)
  go_still_tail 9, (by kernel_rfl)
  change wpList _ _ _ _ _ w.drew
  have c27' := c27 1
  change Calls Try.prog 27 _ w.drew _ at c27'
  go_wp2_with fail
  refine c27'.mono ?_
  rintro e w' ⟨rfl, h1, h2⟩
  have H1 := Lib.hid h1
  have H2 := Lib.hid (Fr.trans (Fr.drew (Fr.refl (fun x => x = r ∨ x = g) w)) h2 (fun x hx => .inl hx))
  clear h1 h2 c27 c27'
  go_wp2
  go_end0
  exact ⟨rfl, H1.out, H2.out⟩
theorem set_reg (h : UV w u (some ⟨r, 0, none⟩) k own false) (hr : RG w r g n M) (hn : n ≤ 65536) (i : Nat) (hi : i < n) (hk : k = i) (s : ByteArray) :
    Calls Try.prog 13 #[.pointer (some ⟨u, 0, none⟩), .string s] w fun e w' => e = .returned (.tuple #[]) ∧ RG w' r g n (upd M i s) ∧ Fr (fun x => x = r ∨ x = g) w w' := by
  have c25 := set_reg25 h hr hn i hi hk s
  clear h hr
  go_enter Try.func13, Try.ntmps13
  go_wp2_with fail
  refine c25.mono ?_
  rintro e w' ⟨rfl, h1, h2⟩
  have H1 := Lib.hid h1
  have H2 := Lib.hid h2
  clear h1 h2 c25
  go_wp2
  go_end0
  exact ⟨rfl, H1.out, H2.out⟩
theorem cells_equal {A : Option Addr} {c : Nat} (h : RG w r g n M) (ha : Arr w A n c (fun i => .string (M i))) (hn : n ≤ 65536) :
    Calls Try.prog 17 #[.pointer (some ⟨r, 0, none⟩), .slice A n c] w fun e w' => e = .returned (.bool true) ∧ w = w' := by
  have c22 := fun i hi => reg_get h hn i hi
  have C22 := Lib.hid c22
  clear c22
  go_enter Try.func17, Try.ntmps17
  go_wp2
  go_loop [5] (fun i => ∃ k : Nat, k ≤ n ∧ i = .int .i64 k) (fun i => n - (intOf i).toNat)
  case atStart => exact ⟨0, Nat.zero_le _, rfl⟩
  case round =>
    obtain ⟨k, hk, rfl⟩ := hrel
    by_cases hkn : k < n
    · obtain ⟨b, off, rfl, _, hc⟩ := ha.at_ hkn
      have c22 := C22.out k hkn
      have e1 : ((M k).toList == (M k).toList) = true := by simp
      have e2 : ((M k).toList != (M k).toList) = false := by simp
      clear h ha
      go_wp2_with fail
      refine c22.mono ?_
      rintro e w' ⟨rfl, rfl⟩
      clear c22
      go_wp2
      go_round
      case rel => exact ⟨k + 1, by omega, by go_num⟩
      case measure => simp [intOf]; omega
    · clear h
      go_wp2
      go_ret
      exact ⟨rfl, rfl⟩
theorem new_reg (n : Nat) (hn : n ≤ 65536) (w : World) : Calls Try.prog 24 #[.int .i64 n] w fun e w' =>
    e = .returned (.pointer (some ⟨w.heap.size + 1, 0, none⟩)) ∧ w'.rowIs w.heap.size 46 n (fun _ => .nilIface) ∧ w'.rowIs (w.heap.size + 1) 56 6 (regF w.heap.size n 0) ∧ Below w.heap.size w w' := by
  have hmk := run_make_row' (P := Try.prog) 51 46 (.nilIface) 16 Try.underlying51 info46 rfl .i64 .i64 n (by omega) (by omega)
  go_enter Try.func24, Try.ntmps24
  go_wp2
  go_ret
  refine ⟨rfl, (World.rowIs_made w _ n 46).alloc _, ?_, by go_grown⟩
  have := World.rowIs_alloc (w.alloc (.cells (madeCells #[.nilIface] n) 46)) #[.slice (some ⟨w.heap.size, 0, none⟩) n n, .int .i64 0, .int .i64 0, .int .i64 n, .pointer none, .nilIface] 56 (regF w.heap.size n 0)
    (fun i hi => by simp at hi; match i, hi with | 0, _ => rfl | 1, _ => rfl | 2, _ => rfl | 3, _ => rfl | 4, _ => rfl | 5, _ => rfl)
  simp only [World.size_alloc] at this
  exact this
end
end Go.Proofs.Ytijbpfompooeoaa
