/- The flag scanner's Next, walked: what it delivers is what 'del' says. -/
import Derived.Test.YtkmjoliablpmbaaMeth
namespace Go.Proofs.Ytkmjoliablpmbaa
set_option linter.unusedVariables false
open Go.RowKit Go.ChangeShapes Go.Deep
theorem SC.setPosI {w0 w : World} {p : Nat} {fl : UInt8} {st en str : ByteArray} {pos : Nat} {has ch : Bool} {buf : List UInt8} (h : SC w0 w p fl st en str pos has ch buf) (q : Nat) (v : Int) (hv : v = q) : SC w0 (w.setCell ⟨p, 6, none⟩ (.int .i64 v)) p fl st en str q has ch buf := by
  subst hv
  exact h.setPos q
structure SCells (w : World) (p : Nat) (fl : UInt8) (st en str : ByteArray) (pos : Nat) (has ch : Bool) : Prop where
  k0 : w.cell? ⟨p, 0, none⟩ = some (.int .u8 fl.toNat)
  k1 : w.cell? ⟨p, 1, none⟩ = some (.string st)
  k2 : w.cell? ⟨p, 2, none⟩ = some (.string en)
  k4 : w.cell? ⟨p, 4, none⟩ = some (.string str)
  k5 : w.cell? ⟨p, 5, none⟩ = some (.int .i64 str.size)
  k6 : w.cell? ⟨p, 6, none⟩ = some (.int .i64 pos)
  k7 : w.cell? ⟨p, 7, none⟩ = some (.bool has)
  k8 : w.cell? ⟨p, 8, none⟩ = some (.bool ch)
  z6 : w.frozen? ⟨p, 6, none⟩ = false
  z7 : w.frozen? ⟨p, 7, none⟩ = false
  z8 : w.frozen? ⟨p, 8, none⟩ = false
  lt : p < w.heap.size
theorem SC.cells {w0 w : World} {p : Nat} {fl : UInt8} {st en str : ByteArray} {pos : Nat} {has ch : Bool} {buf : List UInt8} (h : SC w0 w p fl st en str pos has ch buf) : SCells w p fl st en str pos has ch := by
  obtain ⟨g, cap, h⟩ := h
  exact ⟨h.row.cell (i := 0) (by omega), h.row.cell (i := 1) (by omega), h.row.cell (i := 2) (by omega), h.row.cell (i := 4) (by omega), h.row.cell (i := 5) (by omega), h.row.cell (i := 6) (by omega), h.row.cell (i := 7) (by omega), h.row.cell (i := 8) (by omega), h.row.frozen 6, h.row.frozen 7, h.row.frozen 8, h.row.lt⟩
abbrev L8 (s : ByteArray) : List UInt8 := s.data.toList
def NxPost (w0 : World) (p : Nat) (fl : UInt8) (st en str : ByteArray) (l : List UInt8) (pos : Nat) (has : Bool) (buf : List UInt8) (e : Ending) (w' : World) : Prop :=
  (∃ more h', del fl (L8 st) (L8 en) l has = ([], more, h') ∧ e = .returned (.tuple #[.int .u8 0, .bool true]) ∧ SC w0 w' p fl st en str str.size h' false (buf ++ more)) ∨
  (∃ c g more q h', pos < q ∧ q ≤ str.size ∧ (h' = true → g = true ∨ has = true) ∧ more.length ≤ 10000 * (q - pos) ∧ del fl (L8 st) (L8 en) l has = ((c, g) :: (del fl (L8 st) (L8 en) ((L8 str).drop q) h').1, more ++ (del fl (L8 st) (L8 en) ((L8 str).drop q) h').2.1, (del fl (L8 st) (L8 en) ((L8 str).drop q) h').2.2) ∧
    e = .returned (.tuple #[.int .u8 (c.toNat : Int), .bool false]) ∧ SC w0 w' p fl st en str q h' g (buf ++ more))
theorem drop_at {s : ByteArray} {i : Nat} (h : i < s.size) : (L8 s).drop i = s[i] :: (L8 s).drop (i + 1) := by
  have h' : i < (L8 s).length := by simpa [L8] using h
  rw [List.drop_eq_getElem_cons h']
  rfl
theorem drop_end {s : ByteArray} {i : Nat} (h : s.size ≤ i) : (L8 s).drop i = [] := List.drop_eq_nil_of_le (by simpa [L8] using h)
theorem NxPost.shape {w0 : World} {p : Nat} {fl : UInt8} {st en str : ByteArray} {l : List UInt8} {pos : Nat} {has : Bool} {buf : List UInt8} {e : Ending} {w' : World} (h : NxPost w0 p fl st en str l pos has buf e w') : ∃ b x, e = .returned (.tuple #[.int .u8 b, .bool x]) ∧ NxPost w0 p fl st en str l pos has buf (.returned (.tuple #[.int .u8 b, .bool x])) w' := by
  have h' := h
  rcases h with ⟨_, _, _, rfl, _⟩ | ⟨_, _, _, _, _, _, _, _, _, _, rfl, _⟩
  · exact ⟨_, _, rfl, h'⟩
  · exact ⟨_, _, rfl, h'⟩
set_option maxHeartbeats 4000000 in
theorem nx_end_f {w0 w : World} {p : Nat} {fl : UInt8} {st en str : ByteArray} {pos : Nat} {ch : Bool} {buf : List UInt8} (h : SC w0 w p fl st en str pos false ch buf) (hend : pos = str.size) (hs : st.size ≤ 4096) (he : en.size ≤ 4096) (hstr : str.size ≤ 8192) (hb : buf.length ≤ 10000 * pos) :
    Calls Try.prog 8 #[.pointer (some ⟨p, 0, none⟩)] w (NxPost w0 p fl st en str ((L8 str).drop pos) pos false buf) := by
  have H := Lib.hid h
  obtain ⟨k0, k1, k2, k4, k5, k6, k7, k8, z6, z7, z8, lt⟩ := h.cells
  have D := Lib.hid (drop_end (s := str) (i := pos) (by omega))
  subst hend
  clear h
  go_enter Try.func8, Try.ntmps8
  go_wp2
  go_quiet (fail)
  go_wp2
  go_ret2
  refine .inl ⟨[], false, by rw [D.out, del_nil]; rfl, rfl, ?_⟩
  rw [List.append_nil]
  exact (by repeat (first | exact H.out | exact H1.out | apply SC.drewN | apply SC.setCh | apply SC.setHas))
set_option maxHeartbeats 4000000 in
theorem nx_end_t {w0 w : World} {p : Nat} {fl : UInt8} {st en str : ByteArray} {pos : Nat} {ch : Bool} {buf : List UInt8} (h : SC w0 w p fl st en str pos true ch buf) (hend : pos = str.size) (hs : st.size ≤ 4096) (he : en.size ≤ 4096) (hstr : str.size ≤ 8192) (hb : buf.length ≤ 10000 * pos) :
    Calls Try.prog 8 #[.pointer (some ⟨p, 0, none⟩)] w (NxPost w0 p fl st en str ((L8 str).drop pos) pos true buf) := by
  have H := Lib.hid h
  obtain ⟨k0, k1, k2, k4, k5, k6, k7, k8, z6, z7, z8, lt⟩ := h.cells
  have D := Lib.hid (drop_end (s := str) (i := pos) (by omega))
  subst hend
  clear h
  go_enter Try.func8, Try.ntmps8
  go_wp2
  go_quiet (fail)
  go_wp2_with (go_at_call 11; refine (app11 (buf := buf) (by repeat (first | exact H.out | exact H1.out | apply SC.drewN | apply SC.setCh | apply SC.setHas)) en (by omega)).mono ?_; rintro e w1 ⟨rfl, h1⟩)
  have H1 := Lib.hid h1
  clear h1
  go_wp2
  go_ret2
  exact .inl ⟨L8 en, true, by rw [D.out, del_nil]; rfl, rfl, H1.out⟩
set_option maxHeartbeats 4000000 in
theorem nx_plain {w0 w : World} {p : Nat} {fl : UInt8} {st en str : ByteArray} {pos : Nat} {ch : Bool} {has : Bool} {buf : List UInt8} (h : SC w0 w p fl st en str pos has ch buf) (hlt : pos < str.size) {c : UInt8} (hc : str[pos]'hlt = c) (hcf : c ≠ fl) (hs : st.size ≤ 4096) (he : en.size ≤ 4096) (hstr : str.size ≤ 8192) (hb : buf.length ≤ 10000 * pos) :
    Calls Try.prog 8 #[.pointer (some ⟨p, 0, none⟩)] w (NxPost w0 p fl st en str ((L8 str).drop pos) pos has buf) := by
  have H := Lib.hid h
  obtain ⟨k0, k1, k2, k4, k5, k6, k7, k8, z6, z7, z8, lt⟩ := h.cells
  have D := Lib.hid (drop_at hlt)
  rw [hc] at D
  have n0 : ¬ (pos : Int) = str.size := by omega
  have n1 : ((pos : Int) == (str.size : Int)) = false := by simp; omega
  have n5 : ¬ (c.toNat : Int) = fl.toNat := fun e => hcf (UInt8.toNat_inj.1 (by omega))
  have n6 : ((c.toNat : Int) == (fl.toNat : Int)) = false := beq_eq_false_iff_ne.2 n5
  clear h
  go_enter Try.func8, Try.ntmps8
  go_wp2
  go_quiet (fail)
  go_wp2
  go_quiet (fail)
  go_wp2
  go_ret2
  refine .inr ⟨c, false, [], pos + 1, has, by omega, by omega, .inr, by simp, by rw [D.out, del_plain hcf]; rfl, rfl, ?_⟩
  rw [List.append_nil]
  exact SC.setPosI (by repeat (first | exact H.out | exact H1.out | apply SC.drewN | apply SC.setCh | apply SC.setHas)) (pos + 1) _ (by omega)
set_option maxHeartbeats 4000000 in
theorem nx_last {w0 w : World} {p : Nat} {fl : UInt8} {st en str : ByteArray} {pos : Nat} {ch : Bool} {has : Bool} {buf : List UInt8} (h : SC w0 w p fl st en str pos has ch buf) (hlt : pos < str.size) (hc : str[pos]'hlt = fl) (hl : pos + 1 = str.size) (hs : st.size ≤ 4096) (he : en.size ≤ 4096) (hstr : str.size ≤ 8192) (hb : buf.length ≤ 10000 * pos) :
    Calls Try.prog 8 #[.pointer (some ⟨p, 0, none⟩)] w (NxPost w0 p fl st en str ((L8 str).drop pos) pos has buf) := by
  have H := Lib.hid h
  obtain ⟨k0, k1, k2, k4, k5, k6, k7, k8, z6, z7, z8, lt⟩ := h.cells
  have D := Lib.hid (drop_at hlt)
  rw [hc] at D
  have n0 : ¬ (pos : Int) = str.size := by omega
  have n1 : ((pos : Int) == (str.size : Int)) = false := by simp; omega
  have D2 := Lib.hid (drop_end (s := str) (i := pos + 1) (by omega))
  have n2 : ¬ (pos : Int) < (str.size : Int) - 1 := by omega
  have n2b : decide ((pos : Int) < (str.size : Int) - 1) = false := decide_eq_false n2
  have n4 : ((pos : Int) != (str.size : Int) - 1) = false := by simp; omega
  have HL := Lib.hid hl
  clear hl
  clear h
  go_enter Try.func8, Try.ntmps8
  go_wp2
  go_quiet (fail)
  go_wp2
  go_quiet (fail)
  go_wp2
  go_quiet (fail)
  go_wp2
  go_quiet (fail)
  go_wp2
  go_ret2
  have hl := HL.out
  refine .inr ⟨fl, false, [], pos + 1, has, by omega, by omega, .inr, by simp, by rw [D.out, D2.out, del_one, del_nil]; rfl, rfl, ?_⟩
  rw [List.append_nil]
  exact SC.setPosI (by repeat (first | exact H.out | exact H1.out | apply SC.drewN | apply SC.setCh | apply SC.setHas)) (pos + 1) _ (by omega)
set_option maxHeartbeats 4000000 in
theorem nx_pair {w0 w : World} {p : Nat} {fl : UInt8} {st en str : ByteArray} {pos : Nat} {ch : Bool} {has : Bool} {buf : List UInt8} (h : SC w0 w p fl st en str pos has ch buf) (hlt : pos < str.size) (hc : str[pos]'hlt = fl) (hlt2 : pos + 1 < str.size) (hd : str[pos + 1]'hlt2 = fl) (hs : st.size ≤ 4096) (he : en.size ≤ 4096) (hstr : str.size ≤ 8192) (hb : buf.length ≤ 10000 * pos)
    (C : ∀ (w : World) (ch : Bool), SC w0 w p fl st en str (pos + 2) false ch (buf ++ [fl]) → Calls Try.prog 8 #[.pointer (some ⟨p, 0, none⟩)] w (NxPost w0 p fl st en str ((L8 str).drop (pos + 2)) (pos + 2) false (buf ++ [fl]))) :
    Calls Try.prog 8 #[.pointer (some ⟨p, 0, none⟩)] w (NxPost w0 p fl st en str ((L8 str).drop pos) pos has buf) := by
  have H := Lib.hid h
  obtain ⟨k0, k1, k2, k4, k5, k6, k7, k8, z6, z7, z8, lt⟩ := h.cells
  have D := Lib.hid (drop_at hlt)
  rw [hc] at D
  have n0 : ¬ (pos : Int) = str.size := by omega
  have n1 : ((pos : Int) == (str.size : Int)) = false := by simp; omega
  have D2 := Lib.hid (drop_at hlt2)
  rw [hd] at D2
  have n2 : (pos : Int) < (str.size : Int) - 1 := by omega
  have t1 : ((pos : Int) + 1).toNat = pos + 1 := by omega
  have CH := Lib.hid C
  clear C
  clear h
  go_enter Try.func8, Try.ntmps8
  go_wp2
  go_quiet (fail)
  go_wp2
  go_quiet (fail)
  go_wp2
  go_quiet (fail)
  go_wp2_with (first | (go_at_call 12; refine (app12 (buf := buf) (by repeat (first | exact H.out | exact H1.out | apply SC.drewN | apply SC.setCh | apply SC.setHas)) fl (by omega)).mono ?_; rintro e w1 ⟨rfl, h1⟩; have H1 := Lib.hid h1; clear k0 k1 k2 k4 k5 k6 k7 k8 z6 z7 z8 lt; obtain ⟨k0, k1, k2, k4, k5, k6, k7, k8, z6, z7, z8, lt⟩ := h1.cells; clear h1) | (go_at_call 8; refine (CH.out _ false (SC.setPosI H1.out (pos + 2) _ (by omega))).mono ?_; rintro e w2 h2; obtain ⟨b, x, he2, h3⟩ := h2.shape; clear h2; subst he2; have H3 := Lib.hid h3; clear h3))
  go_ret2
  have h3 := H3.out
  rcases h3 with ⟨more, h', d1, he, d2⟩ | ⟨c', g', more, q, h', q1, q2, q4, q3, d1, he, d2⟩
  · exact .inl ⟨fl :: more, h', by rw [D.out, D2.out, del_pair, d1], he, by simpa using d2⟩
  · exact .inr ⟨c', g', fl :: more, q, h', by omega, q2, fun e => (by rcases q4 e with h | h; exact .inl h; cases h), by simp; omega, by rw [D.out, D2.out, del_pair, d1]; rfl, he, by simpa using d2⟩
set_option maxHeartbeats 4000000 in
theorem nx_open_f {w0 w : World} {p : Nat} {fl : UInt8} {st en str : ByteArray} {pos : Nat} {ch : Bool} {buf : List UInt8} (h : SC w0 w p fl st en str pos false ch buf) (hlt : pos < str.size) (hc : str[pos]'hlt = fl) (hlt2 : pos + 1 < str.size) {d : UInt8} (hd : str[pos + 1]'hlt2 = d) (hdf : d ≠ fl) (hs : st.size ≤ 4096) (he : en.size ≤ 4096) (hstr : str.size ≤ 8192) (hb : buf.length ≤ 10000 * pos) :
    Calls Try.prog 8 #[.pointer (some ⟨p, 0, none⟩)] w (NxPost w0 p fl st en str ((L8 str).drop pos) pos false buf) := by
  have H := Lib.hid h
  obtain ⟨k0, k1, k2, k4, k5, k6, k7, k8, z6, z7, z8, lt⟩ := h.cells
  have D := Lib.hid (drop_at hlt)
  rw [hc] at D
  have n0 : ¬ (pos : Int) = str.size := by omega
  have n1 : ((pos : Int) == (str.size : Int)) = false := by simp; omega
  have D2 := Lib.hid (drop_at hlt2)
  rw [hd] at D2
  have n2 : (pos : Int) < (str.size : Int) - 1 := by omega
  have t1 : ((pos : Int) + 1).toNat = pos + 1 := by omega
  have n5 : ¬ (d.toNat : Int) = fl.toNat := fun e => hdf (UInt8.toNat_inj.1 (by omega))
  have n6 : ((d.toNat : Int) == (fl.toNat : Int)) = false := beq_eq_false_iff_ne.2 n5
  have n7 : ¬ (pos : Int) = (str.size : Int) - 1 := by omega
  have n8 : ((pos : Int) != (str.size : Int) - 1) = true := by simp; omega
  clear h
  go_enter Try.func8, Try.ntmps8
  go_wp2
  go_quiet (fail)
  go_wp2
  go_quiet (fail)
  go_wp2
  go_quiet (fail)
  go_wp2
  go_quiet (fail)
  go_wp2_with (go_at_call 11; refine (app11 (buf := buf) (by repeat (first | exact H.out | exact H1.out | apply SC.drewN | apply SC.setCh | apply SC.setHas)) st (by omega)).mono ?_; rintro e w1 ⟨rfl, h1⟩; have H1 := Lib.hid h1; clear k0 k1 k2 k4 k5 k6 k7 k8 z6 z7 z8 lt; obtain ⟨k0, k1, k2, k4, k5, k6, k7, k8, z6, z7, z8, lt⟩ := h1.cells; clear h1)
  go_ret2
  refine .inr ⟨fl, true, L8 st, pos + 1, true, by omega, by omega, fun _ => .inl rfl, by simp [L8]; have := hs; omega, by rw [D.out, D2.out, del_open hdf]; simp, rfl, ?_⟩
  exact SC.setPosI (by repeat (first | exact H.out | exact H1.out | apply SC.drewN | apply SC.setCh | apply SC.setHas)) (pos + 1) _ (by omega)
set_option maxHeartbeats 4000000 in
theorem nx_open_t {w0 w : World} {p : Nat} {fl : UInt8} {st en str : ByteArray} {pos : Nat} {ch : Bool} {buf : List UInt8} (h : SC w0 w p fl st en str pos true ch buf) (hlt : pos < str.size) (hc : str[pos]'hlt = fl) (hlt2 : pos + 1 < str.size) {d : UInt8} (hd : str[pos + 1]'hlt2 = d) (hdf : d ≠ fl) (hs : st.size ≤ 4096) (he : en.size ≤ 4096) (hstr : str.size ≤ 8192) (hb : buf.length ≤ 10000 * pos) :
    Calls Try.prog 8 #[.pointer (some ⟨p, 0, none⟩)] w (NxPost w0 p fl st en str ((L8 str).drop pos) pos true buf) := by
  have H := Lib.hid h
  obtain ⟨k0, k1, k2, k4, k5, k6, k7, k8, z6, z7, z8, lt⟩ := h.cells
  have D := Lib.hid (drop_at hlt)
  rw [hc] at D
  have n0 : ¬ (pos : Int) = str.size := by omega
  have n1 : ((pos : Int) == (str.size : Int)) = false := by simp; omega
  have D2 := Lib.hid (drop_at hlt2)
  rw [hd] at D2
  have n2 : (pos : Int) < (str.size : Int) - 1 := by omega
  have t1 : ((pos : Int) + 1).toNat = pos + 1 := by omega
  have n5 : ¬ (d.toNat : Int) = fl.toNat := fun e => hdf (UInt8.toNat_inj.1 (by omega))
  have n6 : ((d.toNat : Int) == (fl.toNat : Int)) = false := beq_eq_false_iff_ne.2 n5
  have n7 : ¬ (pos : Int) = (str.size : Int) - 1 := by omega
  have n8 : ((pos : Int) != (str.size : Int) - 1) = true := by simp; omega
  clear h
  go_enter Try.func8, Try.ntmps8
  go_wp2
  go_quiet (fail)
  go_wp2
  go_quiet (fail)
  go_wp2
  go_quiet (fail)
  go_wp2
  go_quiet (fail)
  have hb2 : (buf ++ L8 en).length + st.size ≤ 100000000000000 := by simp [L8]; have : en.data.size = en.size := rfl; omega
  go_wp2_with (first | (go_at_call 11; refine (app11 H0.out st hb2).mono ?_; rintro e w2 ⟨rfl, h1⟩; have H1 := Lib.hid h1; clear k0 k1 k2 k4 k5 k6 k7 k8 z6 z7 z8 lt; obtain ⟨k0, k1, k2, k4, k5, k6, k7, k8, z6, z7, z8, lt⟩ := h1.cells; clear h1) | (go_at_call 11; refine (app11 (buf := buf) (by repeat (first | exact H.out | exact H1.out | apply SC.drewN | apply SC.setCh | apply SC.setHas)) en (by omega)).mono ?_; rintro e w1 ⟨rfl, h1⟩; have H0 := Lib.hid h1; clear k0 k1 k2 k4 k5 k6 k7 k8 z6 z7 z8 lt; obtain ⟨k0, k1, k2, k4, k5, k6, k7, k8, z6, z7, z8, lt⟩ := h1.cells; clear h1))
  go_ret2
  refine .inr ⟨fl, true, L8 en ++ L8 st, pos + 1, true, by omega, by omega, fun _ => .inl rfl, by simp [L8]; have e1 : en.data.size = en.size := rfl; have e2 : st.data.size = st.size := rfl; omega, by rw [D.out, D2.out, del_open hdf]; simp, rfl, ?_⟩
  rw [← List.append_assoc]
  exact SC.setPosI (by repeat (first | exact H.out | exact H1.out | apply SC.drewN | apply SC.setCh | apply SC.setHas)) (pos + 1) _ (by omega)
theorem next8 {w0 : World} {p : Nat} {fl : UInt8} {st en str : ByteArray} (hs : st.size ≤ 4096) (he : en.size ≤ 4096) (hstr : str.size ≤ 8192) (m : Nat) :
    ∀ (w : World) (pos : Nat) (has ch : Bool) (buf : List UInt8), str.size - pos = m → SC w0 w p fl st en str pos has ch buf → pos ≤ str.size → buf.length ≤ 10000 * pos →
    Calls Try.prog 8 #[.pointer (some ⟨p, 0, none⟩)] w (NxPost w0 p fl st en str ((L8 str).drop pos) pos has buf) := by
  induction m using Nat.strongRecOn with
  | ind m ih =>
  intro w pos has ch buf hm h hp hb
  by_cases hend : pos = str.size
  · cases has
    · exact nx_end_f h hend hs he hstr hb
    · exact nx_end_t h hend hs he hstr hb
  · have hlt : pos < str.size := by omega
    by_cases hcf : str[pos]'hlt = fl
    · by_cases hl : pos + 1 = str.size
      · exact nx_last h hlt hcf hl hs he hstr hb
      · have hlt2 : pos + 1 < str.size := by omega
        by_cases hdf : str[pos + 1]'hlt2 = fl
        · exact nx_pair h hlt hcf hlt2 hdf hs he hstr hb (fun w1 ch1 h1 => ih (str.size - (pos + 2)) (by omega) w1 (pos + 2) false ch1 (buf ++ [fl]) rfl h1 (by omega) (by simp; omega))
        · cases has
          · exact nx_open_f h hlt hcf hlt2 rfl hdf hs he hstr hb
          · exact nx_open_t h hlt hcf hlt2 rfl hdf hs he hstr hb
    · exact nx_plain h hlt rfl hcf hs he hstr hb
end Go.Proofs.Ytkmjoliablpmbaa
