/- The clone of a slice of words, and the code store: what each of its methods does to the memory that it owns. -/
import Derived.Test.YtphbmhffkemkkaaProg
import Derived.Test.YtphbmhffkemkkaaHp
import Derived.WalkKit
import Derived.WalkSpells
import Derived.Lib.Hide
import Derived.OpenShut
import Derived.Handy
import Derived.Deep.QuietTactic
import Derived.BigQuiet
import Derived.RegionTactic
import Derived.BigRegion
import Derived.Deep.AppendLies
namespace Go.Proofs.Ytphbmhffkemkkaa
open Go.RowKit Go.ChangeShapes Go.Deep
theorem run_make_cap {P : Program} (t e : TypeId) (z : Value) (bytes : Nat) (ht : P.underlying t = some (.slice e)) (hinfo : (P.info? e).map (fun i => (i.zero, i.size, i.bytes)) = some (some z, 1, bytes)) (hz1 : z.cells = #[z])
    (kl kc : IntKind) (n c : Nat) (hnc : n ≤ c) (hbytes : bytes * c ≤ 281474976710656) (h63 : c ≤ 9223372036854775807) (w : World) :
    (Instr.makeSlice t (.int kl (n : Int)) (.int kc (c : Int))).run P w = .ok (.slice (some ⟨w.heap.size, 0, none⟩) n c) (w.alloc (.cells (madeCells #[z] c) e)) := by
  obtain ⟨i, hi, hzz⟩ := Option.map_eq_some_iff.1 hinfo
  simp only [Prod.mk.injEq] at hzz
  obtain ⟨hz, hs, hb⟩ := hzz
  have hb' : (i.bytes : Int) * (c : Int) ≤ 281474976710656 := by
    have h : ((i.bytes * c : Nat) : Int) ≤ 281474976710656 := by rw [hb]; omega
    rwa [Int.natCast_mul] at h
  have hr := run_make (P := P) w t e i z ht hi hz kl kc n c (by omega) (by omega) hb' (by omega)
  simp only [Int.toNat_natCast, hs, Nat.mul_one, hz1] at hr
  exact hr
theorem info27 : (Try.prog.info? 27).map (fun i => (i.zero, i.size, i.bytes)) = some (some (.int .u32 0), 1, 4) := by kernel_rfl
set_option maxHeartbeats 400000 in
theorem cloneU32 (A : Option Addr) (n c : Nat) (z : Nat → Int) (w : World) (ha : Arr w A n c (fun i => .int .u32 (z i))) (hn : n ≤ 1048576) :
    Calls Try.prog 12 #[.slice A n c] w fun e w' => ∃ A', e = .returned (.slice A' n n) ∧ Own w' w.heap.size 27 A' n (fun i => .int .u32 (z i)) ∧ Below w.heap.size w w' := by
  have hnil := fun w => Lib.run_eql_slice_nil (P := Try.prog) w 22 27 A n c 0 0 Try.underlying22
  rcases ha.some_ with ⟨rfl, rfl, rfl⟩ | ⟨x, rfl⟩
  · go_enter Try.func12, Try.ntmps12
    go_wp2
    go_ret
    exact ⟨none, rfl, .inl ⟨rfl, rfl⟩, Below.refl _ _⟩
  · have hmk := run_make_row' (P := Try.prog) 22 27 (.int .u32 0) 4 Try.underlying22 info27 rfl .i64 .i64 n (by omega) (by omega)
    go_enter Try.func12, Try.ntmps12
    go_wp2
    go_loopw [4] (fun i wr => ∃ k : Nat, k ≤ n ∧ i = .int .i64 k ∧ wr.rowIs w.heap.size 27 n (fun j => .int .u32 (if j < k then z j else 0)) ∧ Below w.heap.size w wr) (fun i _ => n - (intOf i).toNat)
    case atStart => exact ⟨0, Nat.zero_le _, rfl, World.rowIs_made w _ n 27, by go_grown⟩
    case round =>
      obtain ⟨k, hk, rfl, hrow, hb⟩ := hrel
      by_cases hkn : k < n
      · obtain ⟨b, off, hx, hlt, hc⟩ := ha.at_ hkn
        injection hx with hx
        subst hx
        have c1 : wr.cell? ⟨b, off + k, none⟩ = some (.int .u32 (z k)) := (hb.cell (p := ⟨b, off + k, none⟩) hlt).trans hc
        have c2 := hrow.cell hkn
        simp only [Nat.lt_irrefl, if_false] at c2
        have c3 := hrow.frozen k
        have hrow' := (hrow.set k (.int .u32 (z k))).congr (g := fun j => .int .u32 (if j < k + 1 then z j else 0)) (fun i hi => by
          by_cases h1 : i = k
          · subst h1; simp
          · by_cases h2 : i < k
            · simp [h1, h2, show i < k + 1 by omega]
            · simp [h1, h2, show ¬ i < k + 1 by omega])
        have hb' := hb.setCell (p := ⟨w.heap.size, k, none⟩) (Nat.le_refl _) (.int .u32 (z k))
        have H1 := Lib.hid hrow'
        have H2 := Lib.hid hb'
        clear hrow' hb' hrow hb hc ha hnil hmk
        go_wp2
        go_roundw
        case rel => exact ⟨k + 1, by omega, by go_num, H1.out, H2.out⟩
        case measure => simp [intOf]; omega
      · have hkn' : k = n := by omega
        subst hkn'
        clear hnil hmk
        go_wp2
        go_ret
        exact ⟨_, rfl, .inr ⟨_, rfl, Nat.le_refl _, hrow.congr (fun i hi => by simp [hi])⟩, hb⟩

theorem info3 : (Try.prog.info? 3).map (fun i => (i.zero, i.size, i.bytes)) = some (some (.int .i64 0), 1, 8) := by kernel_rfl

abbrev OR (w : World) (e : TypeId) (g n cap : Nat) (xs : List Value) : Prop := w.ownsRow 0 e 1 (.slice (some ⟨g, 0, none⟩) n cap) n xs
def u32s (l : List Int) : List Value := l.map (Value.int .u32)
def i64s (l : List Int) : List Value := l.map (Value.int .i64)
/-- A code store behind the pointer to block p. -/
structure CS (w : World) (own : Nat → Prop) (p : Nat) (live ll : List Int) (gc cc gl cl : Nat) (xs ys : List Int) : Prop where
  row : w.rowIs p 50 3 (fun i => if i = 0 then .slice (some ⟨gc, 0, none⟩) xs.length cc else if i = 1 then .slice (some ⟨gl, 0, none⟩) ys.length cl else .int .i64 live.length)
  codes : OR w 27 gc xs.length cc (u32s xs)
  lines : OR w 3 gl ys.length cl (i64s ys)
  len : ys.length = xs.length
  le : live.length ≤ xs.length
  lenl : ll.length = live.length
  tx : xs.take live.length = live
  ty : ys.take ll.length = ll
  op : own p
  oc : own gc
  ol : own gl
def CStore (w : World) (own : Nat → Prop) (p : Nat) (live ll : List Int) (N : Nat) : Prop := ∃ gc cc gl cl xs ys, CS w own p live ll gc cc gl cl xs ys ∧ xs.length ≤ N

def lastOf (live : List Int) : Int := live.getLast?.getD 4294967295
theorem lastOf_nil : lastOf [] = 4294967295 := rfl
theorem lastOf_snoc (l : List Int) (x : Int) : lastOf (l ++ [x]) = x := by simp [lastOf]
theorem cs_last {w : World} {own : Nat → Prop} {p : Nat} {live ll : List Int} {gc cc gl cl : Nat} {xs ys : List Int} (h : CS w own p live ll gc cc gl cl xs ys) (hb : live.length ≤ 1048576) :
    Calls Try.prog 14 #[.pointer (some ⟨p, 0, none⟩)] w fun e w' => e = .returned (.int .u32 (lastOf live)) ∧ ∃ n, w' = w.drewN n := by
  have c0 := h.row.cell (i := 0) (by omega)
  have c2 := h.row.cell (i := 2) (by omega)
  simp at c0 c2
  by_cases h0 : live.length = 0
  · have hn : live = [] := List.eq_nil_of_length_eq_zero h0
    subst hn
    rw [lastOf_nil]
    simp at c2
    go_enter Try.func14, Try.ntmps14
    go_wp2
    go_ret
    exact ⟨rfl, 0, rfl⟩
  · have hlt : live.length - 1 < xs.length := by have := h.le; omega
    have hx : xs[live.length - 1]? = live[live.length - 1]? := by
      have := congrArg (·[live.length - 1]?) h.tx
      simpa [List.getElem?_take, show live.length - 1 < live.length by omega] using this
    have hg : live.getLast? = live[live.length - 1]? := List.getLast?_eq_getElem?
    obtain ⟨x, hxx⟩ : ∃ x, live[live.length - 1]? = some x := ⟨_, List.getElem?_eq_getElem (by omega)⟩
    have e : lastOf live = x := by simp [lastOf, hg, hxx]
    have c3 := h.codes.cellAt (live.length - 1) (by rw [Nat.mul_one]; exact hlt)
    rw [u32s, List.getElem?_map, hx, hxx] at c3
    simp only [Option.map_some] at c3
    have hz : ((live.length : Int) == 0) = false := beq_eq_false_iff_ne.2 (by omega)
    have hw : 1 ≤ live.length := by omega
    rw [e]
    clear e hg hx hxx h0
    go_enter Try.func14, Try.ntmps14
    go_wp2
    go_quiet (fail)
    go_wp2
    go_ret
    exact ⟨rfl, _, rfl⟩

theorem cs_lastPC {w : World} {own : Nat → Prop} {p : Nat} {live ll : List Int} {gc cc gl cl : Nat} {xs ys : List Int} (h : CS w own p live ll gc cc gl cl xs ys) (hb : live.length ≤ 1048576) :
    Calls Try.prog 30 #[.pointer (some ⟨p, 0, none⟩)] w fun e w' => e = .returned (.int .i64 ((live.length : Int) - 1)) ∧ w = w' := by
  have c2 := h.row.cell (i := 2) (by omega)
  simp at c2
  go_enter Try.func30, Try.ntmps30
  go_wp2
  go_ret
  exact ⟨rfl, rfl⟩
theorem ownsRow_u32 {w : World} {e : TypeId} {g n cap : Nat} {l : List Value} (h : OR w e g n cap l) : g < w.heap.size := by
  obtain ⟨_, h | ⟨g', cap', cur, h1, _, hg, _⟩⟩ := h
  · simp at h
  · simp at h1; obtain ⟨rfl, _⟩ := h1; exact (Array.getElem?_eq_some_iff.1 hg).1
theorem rowIs_ne {w : World} {e t : TypeId} {g n cap b m : Nat} {l : List Value} {f : Nat → Value} (h : OR w e g n cap l) (hr : w.rowIs b t m f) (hne : e ≠ t) : b ≠ g := by
  obtain ⟨_, h | ⟨g', cap', cur, h1, _, hg, _⟩⟩ := h
  · simp at h
  · simp at h1
    obtain ⟨rfl, _⟩ := h1
    obtain ⟨c, hb, _⟩ := hr
    rintro rfl
    rw [hg] at hb
    injection hb with hb
    injection hb with _ he
    exact hne he
theorem or_ne {w : World} {e e' : TypeId} {g n cap g' n' cap' : Nat} {l l' : List Value} (h : OR w e g n cap l) (h' : OR w e' g' n' cap' l') (hne : e ≠ e') : g ≠ g' := by
  obtain ⟨_, h | ⟨a, b, cur, h1, _, hg, _⟩⟩ := h
  · simp at h
  · obtain ⟨_, h' | ⟨a', b', cur', h1', _, hg', _⟩⟩ := h'
    · simp at h'
    · simp at h1 h1'
      obtain ⟨rfl, _⟩ := h1
      obtain ⟨rfl, _⟩ := h1'
      rintro rfl
      rw [hg] at hg'
      injection hg' with hb
      injection hb with _ he
      exact hne he
theorem take_pred {xs live : List Int} (h : xs.take live.length = live) : xs.take live.dropLast.length = live.dropLast := by
  rw [List.length_dropLast, List.dropLast_eq_take]
  have h2 : (xs.take live.length).take (live.length - 1) = xs.take (live.length - 1) := by rw [List.take_take]; congr 1; omega
  rw [h] at h2
  exact h2.symm
theorem cs_pop {w : World} {own : Nat → Prop} {p : Nat} {live ll : List Int} {N : Nat} (h : CStore w own p live ll N) (hb : live.length ≤ 1048576) (h0 : 0 < live.length) :
    Calls Try.prog 27 #[.pointer (some ⟨p, 0, none⟩)] w fun e w' => e = .returned (.tuple #[]) ∧ CStore w' own p live.dropLast ll.dropLast N ∧ Fr own w w' := by
  obtain ⟨gc, cc, gl, cl, xs, ys, h, hN⟩ := h
  have c2 := h.row.cell (i := 2) (by omega)
  simp at c2
  have f2 := h.row.frozen 2
  have hw : 1 ≤ live.length := by omega
  go_enter Try.func27, Try.ntmps27
  go_wp2
  go_end0
  have n1 := rowIs_ne h.codes h.row (by decide)
  have n2 := rowIs_ne h.lines h.row (by decide)
  have fr : Fr (· = p) w (w.setCell ⟨p, 2, none⟩ (.int .i64 ((live.length : Int) - 1))) := Fr.setCell (o := fun x => x = p) (Fr.refl _ _) (p := ⟨p, 2, none⟩) (.inl rfl) _
  refine ⟨rfl, ⟨gc, cc, gl, cl, xs, ys, ⟨?_, ?_, ?_, h.len, ?_, ?_, ?_, ?_, h.op, h.oc, h.ol⟩, hN⟩, fr.mono (fun x hx => .inl (by subst hx; exact h.op))⟩
  · refine (h.row.set 2 _).congr (fun i hi => ?_)
    have hd : (live.dropLast.length : Int) = (live.length : Int) - 1 := by rw [List.length_dropLast]; omega
    match i, hi with
    | 0, _ => simp
    | 1, _ => simp
    | 2, _ => simp only [if_true, show ¬ (2 : Nat) = 0 by omega, show ¬ (2 : Nat) = 1 by omega, if_false, hd]
  · exact fr.own h.codes (fun k hk => by simp [Value.ownBlock] at hk; omega)
  · exact fr.own h.lines (fun k hk => by simp [Value.ownBlock] at hk; omega)
  · rw [List.length_dropLast]; have := h.le; omega
  · rw [List.length_dropLast, List.length_dropLast, h.lenl]
  · exact take_pred h.tx
  · exact take_pred h.ty

theorem make_cap {P : Program} (t e : TypeId) (z : Value) (bytes : Nat) (ht : P.underlying t = some (.slice e)) (hinfo : (P.info? e).map (fun i => (i.zero, i.size, i.bytes)) = some (some z, 1, bytes)) (hz1 : z.cells = #[z])
    (c : Nat) (hbytes : bytes * c ≤ 281474976710656) (h63 : c ≤ 9223372036854775807) :
    ∃ C : Array Value, C.size = c ∧ ∀ W : World, (Instr.makeSlice t (.int .i64 0) (.int .i64 (c : Int))).run P W = .ok (.slice (some ⟨W.heap.size, 0, none⟩) 0 c) (W.alloc (.cells C e)) :=
  ⟨madeCells #[z] c, by rw [size_madeCells], fun W => run_make_cap t e z bytes ht hinfo hz1 .i64 .i64 0 c (Nat.zero_le _) hbytes h63 W⟩
/-- Three new blocks in a row, a draw behind them. -/
theorem three_blocks (w : World) (o1 o2 : Array Value) (c : Array Value) (e1 e2 e3 : TypeId) (n1 n2 : Nat) (h1 : o1.size = n1) (h2 : o2.size = n2) (m1 : n1 ≤ maxLen) (m2 : n2 ≤ maxLen) (f : Nat → Value) (hf : ∀ i, i < c.size → c[i]? = some (f i)) :
    let W := (((w.alloc (.cells o1 e1)).alloc (.cells o2 e2)).alloc (.cells c e3)).drew
    OR W e1 w.heap.size 0 n1 [] ∧ OR W e2 (w.heap.size + 1) 0 n2 [] ∧ W.rowIs (w.heap.size + 1 + 1) e3 c.size f ∧ W.heap.size = w.heap.size + 3 := by
  intro W
  refine ⟨((World.ownsRow_made w o1 n1 (Nat.zero_le _) m1 (by simpa using h1)).alloc _).alloc _, ?_, ?_, ?_⟩
  · have := (World.ownsRow_made (e := e2) (base := 0) (size := 1) (w.alloc (.cells o1 e1)) o2 n2 (Nat.zero_le _) m2 (by simpa using h2)).alloc (.cells c e3)
    simp only [World.size_alloc] at this
    exact this
  · have := World.rowIs_alloc ((w.alloc (.cells o1 e1)).alloc (.cells o2 e2)) c e3 f hf
    simp only [World.size_alloc] at this
    exact this
  · show (((w.alloc (.cells o1 e1)).alloc (.cells o2 e2)).alloc (.cells c e3)).heap.size = _
    simp only [World.size_alloc]
theorem cs_new (w : World) : Calls Try.prog 13 #[] w fun e w' => ∃ p, e = .returned (.pointer (some ⟨p, 0, none⟩)) ∧ CStore w' (fun x => w.heap.size ≤ x ∧ x < w'.heap.size) p [] [] 0 ∧ Below w.heap.size w w' := by
  obtain ⟨C1, hC1, m1⟩ := make_cap (P := Try.prog) 22 27 (.int .u32 0) 4 Try.underlying22 info27 rfl 1024 (by omega) (by omega)
  obtain ⟨C2, hC2, m2⟩ := make_cap (P := Try.prog) 44 3 (.int .i64 0) 8 Try.underlying44 info3 rfl 1024 (by omega) (by omega)
  have e1024 : ((1024 : Nat) : Int) = 1024 := rfl
  rw [e1024] at m1 m2
  have H1 := Lib.hid hC1
  have H2 := Lib.hid hC2
  clear hC1 hC2 e1024
  go_enter Try.func13, Try.ntmps13
  go_wp2
  go_region
  · go_wp2
    go_ret
    obtain ⟨a1, a2, a3, a4⟩ := three_blocks w C1 C2 #[.slice (some ⟨w.heap.size, 0, none⟩) 0 1024, .slice (some ⟨w.heap.size + 1, 0, none⟩) 0 1024, .int .i64 0] 27 3 50 1024 1024 H1.out H2.out (by decide) (by decide)
      (fun i => if i = 0 then .slice (some ⟨w.heap.size, 0, none⟩) 0 1024 else if i = 1 then .slice (some ⟨w.heap.size + 1, 0, none⟩) 0 1024 else .int .i64 0)
      (fun i hi => by simp at hi; match i, hi with | 0, _ => rfl | 1, _ => rfl | 2, _ => rfl)
    refine ⟨_, rfl, ⟨w.heap.size, 1024, w.heap.size + 1, 1024, [], [], ⟨a3, a1, a2, rfl, Nat.le_refl _, rfl, rfl, rfl, ?_, ?_, ?_⟩, Nat.le_refl _⟩, by go_grown⟩
    all_goals rw [a4]; omega
  · go_wp2
    go_ret
    obtain ⟨a1, a2, a3, a4⟩ := three_blocks w C2 C1 #[.slice (some ⟨w.heap.size + 1, 0, none⟩) 0 1024, .slice (some ⟨w.heap.size, 0, none⟩) 0 1024, .int .i64 0] 3 27 50 1024 1024 H2.out H1.out (by decide) (by decide)
      (fun i => if i = 0 then .slice (some ⟨w.heap.size + 1, 0, none⟩) 0 1024 else if i = 1 then .slice (some ⟨w.heap.size, 0, none⟩) 0 1024 else .int .i64 0)
      (fun i hi => by simp at hi; match i, hi with | 0, _ => rfl | 1, _ => rfl | 2, _ => rfl)
    refine ⟨_, rfl, ⟨w.heap.size + 1, 1024, w.heap.size, 1024, [], [], ⟨a3, a2, a1, rfl, Nat.le_refl _, rfl, rfl, rfl, ?_, ?_, ?_⟩, Nat.le_refl _⟩, by go_grown⟩
    all_goals rw [a4]; omega



/-- The three fields of a store. -/
def P3 (w : World) (p : Nat) (a b c : Value) : Prop := w.rowIs p 50 3 (fun i => if i = 0 then a else if i = 1 then b else c)
section
variable {w w' : World} {p : Nat} {a b c : Value}
theorem P3.c0 (h : P3 w p a b c) : w.cell? ⟨p, 0, none⟩ = some a := World.rowIs.cell h (i := 0) (by omega)
theorem P3.c1 (h : P3 w p a b c) : w.cell? ⟨p, 1, none⟩ = some b := World.rowIs.cell h (i := 1) (by omega)
theorem P3.c2 (h : P3 w p a b c) : w.cell? ⟨p, 2, none⟩ = some c := World.rowIs.cell h (i := 2) (by omega)
theorem P3.fr (h : P3 w p a b c) (i : Nat) : w.frozen? ⟨p, i, none⟩ = false := World.rowIs.frozen h i
theorem P3.s0 (h : P3 w p a b c) (u : Value) : P3 (w.setCell ⟨p, 0, none⟩ u) p u b c := (World.rowIs.set h 0 u).congr fun i hi => by
  match i, hi with | 0, _ => rfl | 1, _ => rfl | 2, _ => rfl
theorem P3.s1 (h : P3 w p a b c) (u : Value) : P3 (w.setCell ⟨p, 1, none⟩ u) p a u c := (World.rowIs.set h 1 u).congr fun i hi => by
  match i, hi with | 0, _ => rfl | 1, _ => rfl | 2, _ => rfl
theorem P3.s2 (h : P3 w p a b c) (u : Value) : P3 (w.setCell ⟨p, 2, none⟩ u) p a b u := (World.rowIs.set h 2 u).congr fun i hi => by
  match i, hi with | 0, _ => rfl | 1, _ => rfl | 2, _ => rfl
theorem P3.grown {row : Option Nat} (h : P3 w p a b c) (hg : w.grownBy w' row) (hn : row ≠ some p) : P3 w' p a b c := grownBy_row hg h hn
theorem P3.alloc (h : P3 w p a b c) (o : Obj) : P3 (w.alloc o) p a b c := World.rowIs.alloc h o
end
theorem or_setCell {w : World} {e : TypeId} {g n cap p i : Nat} {l : List Value} (h : OR w e g n cap l) (hp : p ≠ g) (u : Value) : OR (w.setCell ⟨p, i, none⟩ u) e g n cap l :=
  Fr.own (o := fun x => x = p) (Fr.setCell (o := fun x => x = p) (Fr.refl _ w) (p := ⟨p, i, none⟩) (.inl rfl) u) h (fun k hk => by simp [Value.ownBlock] at hk; omega)
theorem or_grown {w w' : World} {e : TypeId} {g n cap : Nat} {l : List Value} {row : Option Nat} (h : OR w e g n cap l) (hg : w.grownBy w' row) (hp : row ≠ some g) : OR w' e g n cap l :=
  World.ownsRow.kept h hg (.inr (by simpa [Value.ownBlock] using fun e => hp e.symm))
theorem CS.p3 {w : World} {own : Nat → Prop} {p : Nat} {live ll : List Int} {gc cc gl cl : Nat} {xs ys : List Int} (h : CS w own p live ll gc cc gl cl xs ys) :
    P3 w p (.slice (some ⟨gc, 0, none⟩) xs.length cc) (.slice (some ⟨gl, 0, none⟩) ys.length cl) (.int .i64 live.length) := h.row

/-- What the appending way of Add leaves. -/
theorem add_app {w w1 w2 : World} {own : Nat → Prop} {p : Nat} {live ll : List Int} {gc cc gl cl g1 cap1 g2 cap2 : Nat} {xs ys : List Int} {N : Nat} (h : CS w own p live ll gc cc gl cl xs ys) (hN : xs.length ≤ N)
    (hfull : live.length = xs.length) (x y : Int)
    (o1 : OR w1 27 g1 (xs.length + 1) cap1 (u32s xs ++ [.int .u32 x])) (gr1 : (w.alloc (.cells #[.int .u32 x] 27)).grownBy w1 (some gc)) (at1 : some gc = some g1 ∨ g1 = (w.alloc (.cells #[.int .u32 x] 27)).heap.size)
    (o2 : OR w2 3 g2 (xs.length + 1) cap2 (i64s ys ++ [.int .i64 y])) (gr2 : ((w1.setCell ⟨p, 0, none⟩ (.slice (some ⟨g1, 0, none⟩) (xs.length + 1) cap1)).alloc (.cells #[.int .i64 y] 3)).grownBy w2 (some gl))
    (at2 : some gl = some g2 ∨ g2 = ((w1.setCell ⟨p, 0, none⟩ (.slice (some ⟨g1, 0, none⟩) (xs.length + 1) cap1)).alloc (.cells #[.int .i64 y] 3)).heap.size)
    (hlt1 : g1 < w1.heap.size) (hlt2 : g2 < w2.heap.size) :
    let W := (w2.setCell ⟨p, 1, none⟩ (.slice (some ⟨g2, 0, none⟩) (xs.length + 1) cap2)).setCell ⟨p, 2, none⟩ (.int .i64 ((xs.length : Int) + 1))
    CStore W (fun k => own k ∨ (w.heap.size ≤ k ∧ k < W.heap.size)) p (live ++ [x]) (ll ++ [y]) (N + 1) ∧ Fr own w W := by
  intro W
  have n1 := rowIs_ne h.codes h.row (by decide)
  have n2 := rowIs_ne h.lines h.row (by decide)
  have n3 := or_ne h.codes h.lines (by decide)
  have hpl := h.row.lt
  have hgl := ownsRow_u32 h.lines
  have hgc := ownsRow_u32 h.codes
  have z1 : w.heap.size + 1 ≤ w1.heap.size := by have := gr1.size; simpa using this
  have z2 : w1.heap.size + 1 ≤ w2.heap.size := by have := gr2.size; simpa using this
  have hW : W.heap.size = w2.heap.size := by simp [W]
  have e1 : g1 = gc ∨ g1 = w.heap.size + 1 := by
    rcases at1 with h1 | h1
    · injection h1 with h1; exact .inl h1.symm
    · exact .inr (by simpa using h1)
  have e2 : g2 = gl ∨ g2 = w1.heap.size + 1 := by
    rcases at2 with h1 | h1
    · injection h1 with h1; exact .inl h1.symm
    · exact .inr (by simpa using h1)
  have p1 : P3 w1 p _ _ _ := (h.p3.alloc _).grown gr1 (by simpa using fun e => n1 e.symm)
  have p2 : P3 w2 p _ _ _ := ((p1.s0 _).alloc _).grown gr2 (by simpa using fun e => n2 e.symm)
  have p3 : P3 W p _ _ _ := (p2.s1 _).s2 _
  have q2 : OR w2 27 g1 (xs.length + 1) cap1 (u32s xs ++ [.int .u32 x]) := or_grown ((or_setCell o1 (by omega) _).alloc _) gr2 (by simp; omega)
  have q3 : OR W 27 g1 (xs.length + 1) cap1 (u32s xs ++ [.int .u32 x]) := or_setCell (or_setCell q2 (by omega) _) (by omega) _
  have l3 : OR W 3 g2 (xs.length + 1) cap2 (i64s ys ++ [.int .i64 y]) := or_setCell (or_setCell o2 (by omega) _) (by omega) _
  have f1 : Fr own w w1 := Fr.trans (o' := fun k => k = gc) ((Fr.refl own w).alloc _) ((Fr.refl _ _).grown gr1 (fun k hk => by left; injection hk with hk; exact hk.symm)) (fun k hk => .inl (by subst hk; exact h.oc))
  have f2 : Fr own w w2 := (((f1.setCell (p := ⟨p, 0, none⟩) (.inl h.op) (.slice (some ⟨g1, 0, none⟩) (xs.length + 1) cap1)).alloc _).grown gr2 (fun k hk => by left; injection hk with hk; subst hk; exact h.ol))
  have f3 : Fr own w W := (f2.setCell (p := ⟨p, 1, none⟩) (.inl h.op) _).setCell (p := ⟨p, 2, none⟩) (.inl h.op) _
  have hyx := h.len
  have ex : (xs ++ [x]).length = xs.length + 1 := by simp
  have ey : (ys ++ [y]).length = xs.length + 1 := by simp [hyx]
  have el : (live ++ [x]).length = xs.length + 1 := by simp [hfull]
  refine ⟨⟨g1, cap1, g2, cap2, xs ++ [x], ys ++ [y], ⟨?_, ?_, ?_, by rw [ex, ey], by rw [ex, el]; exact Nat.le_refl _, by simp [h.lenl], ?_, ?_, .inl h.op, ?_, ?_⟩, by rw [ex]; omega⟩, f3⟩
  · refine World.rowIs.congr p3 (fun i hi => ?_)
    rw [ex, ey, el]
    rfl
  · rw [ex]; simpa [u32s] using q3
  · rw [ey]; simpa [i64s] using l3
  · have := h.tx
    rw [hfull, List.take_length] at this
    rw [el, ← ex, List.take_length, this]
  · have := h.ty
    rw [h.lenl, hfull, ← hyx, List.take_length] at this
    rw [← this, List.take_length]
  · rcases e1 with rfl | rfl
    · exact .inl h.oc
    · exact .inr ⟨by omega, by omega⟩
  · rcases e2 with rfl | rfl
    · exact .inl h.ol
    · exact .inr ⟨by omega, by omega⟩

/-- What the overwriting way of Add leaves. -/
theorem add_set {w : World} {own : Nat → Prop} {p : Nat} {live ll : List Int} {gc cc gl cl : Nat} {xs ys : List Int} {N : Nat} (h : CS w own p live ll gc cc gl cl xs ys) (hN : xs.length ≤ N)
    (hlt : live.length < xs.length) (x y : Int) :
    let W := (((w.setCell ⟨gc, live.length, none⟩ (.int .u32 x)).setCell ⟨gl, live.length, none⟩ (.int .i64 y)).setCell ⟨p, 2, none⟩ (.int .i64 ((live.length : Int) + 1))).drew.drew
    CStore W (fun k => own k ∨ (w.heap.size ≤ k ∧ k < W.heap.size)) p (live ++ [x]) (ll ++ [y]) (N + 1) ∧ Fr own w W := by
  intro W
  have n1 := rowIs_ne h.codes h.row (by decide)
  have n2 := rowIs_ne h.lines h.row (by decide)
  have n3 := or_ne h.codes h.lines (by decide)
  have p1 : P3 (w.setCell ⟨gc, live.length, none⟩ (.int .u32 x)) p _ _ _ := World.rowIs.setOther h.p3 n1 _
  have p2 : P3 ((w.setCell ⟨gc, live.length, none⟩ (.int .u32 x)).setCell ⟨gl, live.length, none⟩ (.int .i64 y)) p _ _ _ := World.rowIs.setOther p1 n2 _
  have p3 : P3 W p _ _ _ := p2.s2 _
  have q1 := (World.ownsRow.stored h.codes live.length (.int .u32 x)).1
  have q3 : OR W 27 gc xs.length cc ((u32s xs).set live.length (.int .u32 x)) := or_setCell (or_setCell q1 (fun e => n3 e.symm) _) n1 _
  have l1 : OR (w.setCell ⟨gc, live.length, none⟩ (.int .u32 x)) 3 gl ys.length cl (i64s ys) := or_setCell h.lines n3 _
  have l2 := (World.ownsRow.stored l1 live.length (.int .i64 y)).1
  have l3 : OR W 3 gl ys.length cl ((i64s ys).set live.length (.int .i64 y)) := or_setCell l2 n2 _
  have f3 : Fr own w W := ((((Fr.refl own w).setCell (p := ⟨gc, live.length, none⟩) (.inl h.oc) _).setCell (p := ⟨gl, live.length, none⟩) (.inl h.ol) _).setCell (p := ⟨p, 2, none⟩) (.inl h.op) _).drew.drew
  have el : (live ++ [x]).length = live.length + 1 := by simp
  have ell : (ll ++ [y]).length = live.length + 1 := by simp [h.lenl]
  refine ⟨⟨gc, cc, gl, cl, xs.set live.length x, ys.set live.length y, ⟨?_, ?_, ?_, by simp [h.len], by rw [el]; simp; omega, by rw [el, ell], ?_, ?_, .inl h.op, .inl h.oc, .inl h.ol⟩, by simp; omega⟩, f3⟩
  · refine World.rowIs.congr p3 (fun i hi => ?_)
    rw [el, List.length_set, List.length_set]
    rfl
  · rw [List.length_set]; simpa [u32s, List.map_set] using q3
  · rw [List.length_set]; simpa [i64s, List.map_set] using l3
  · have h1 := h.tx
    rw [el, List.take_add_one, List.take_set_of_le (Nat.le_refl _), h1]
    simp [hlt]
  · have h1 := h.ty
    rw [h.lenl] at h1
    rw [ell, List.take_add_one, List.take_set_of_le (Nat.le_refl _), h1]
    have : live.length < ys.length := by rw [h.len]; exact hlt
    simp [this]
theorem news_new (W : World) (v : Value) (e : TypeId) (H : Nat) (hH : W.heap.size = H) : ∀ j u, [v][j]? = some u → (W.alloc (.cells #[v] e)).cell? ((⟨H, 0, none⟩ : Addr).add j) = some u := by
  subst hH
  exact cell_one_new _ _ _
set_option maxHeartbeats 400000 in
theorem cs_add {w : World} {own : Nat → Prop} {p : Nat} {live ll : List Int} {N : Nat} (h : CStore w own p live ll N) (hN : N ≤ 1048576) (x y : Int) :
    Calls Try.prog 15 #[.pointer (some ⟨p, 0, none⟩), .int .u32 x, .int .i64 y] w fun e w' => e = .returned (.tuple #[]) ∧
      CStore w' (fun k => own k ∨ (w.heap.size ≤ k ∧ k < w'.heap.size)) p (live ++ [x]) (ll ++ [y]) (N + 1) ∧ Fr own w w' := by
  obtain ⟨gc, cc, gl, cl, xs, ys, h, hxN⟩ := h
  have c0 := h.p3.c0
  have c1 := h.p3.c1
  have c2 := h.p3.c2
  have f0 := h.p3.fr 0
  have f1 := h.p3.fr 1
  have f2 := h.p3.fr 2
  have hle := h.le
  have n1 := rowIs_ne h.codes h.row (by decide)
  have n2 := rowIs_ne h.lines h.row (by decide)
  have n3 := or_ne h.codes h.lines (by decide)
  have hpl := h.row.lt
  have hgl := ownsRow_u32 h.lines
  have hgc := ownsRow_u32 h.codes
  have hyx := h.len
  obtain ⟨i0, hi0, hz0, hz1, hz2⟩ := info_parts info27
  obtain ⟨j0, hj0, jz0, jz1, jz2⟩ := info_parts info3
  have hcodes := h.codes
  have hlines := h.lines
  have hp3 := h.p3
  obtain ⟨nx, hnx⟩ : ∃ n, xs.length = n := ⟨_, rfl⟩
  obtain ⟨pc, hpc⟩ : ∃ n, live.length = n := ⟨_, rfl⟩
  rw [hyx] at c1 hlines hp3
  rw [hnx] at c0 c1 hcodes hlines hle hxN hp3
  rw [hpc] at c2 hle hp3
  have HX := Lib.hid hnx
  have HP := Lib.hid hpc
  have HY := Lib.hid hyx
  have HCS := Lib.hid h
  clear hnx hpc hyx h
  by_cases hfull : pc = nx
  · have hq : ((pc : Int) == (nx : Int)) = true := by rw [hfull]; simp
    have HF := Lib.hid hfull
    clear hfull
    have fin : ∀ (g1 cap1 : Nat) (w1 : World) (g2 cap2 : Nat) (w2 : World), OR w1 27 g1 (nx + 1) cap1 (u32s xs ++ [.int .u32 x]) → (w.alloc (.cells #[.int .u32 x] 27)).grownBy w1 (some gc) → (some gc = some g1 ∨ g1 = (w.alloc (.cells #[.int .u32 x] 27)).heap.size) →
        OR w2 3 g2 (nx + 1) cap2 (i64s ys ++ [.int .i64 y]) → ((w1.setCell ⟨p, 0, none⟩ (.slice (some ⟨g1, 0, none⟩) (nx + 1) cap1)).alloc (.cells #[.int .i64 y] 3)).grownBy w2 (some gl) →
        (some gl = some g2 ∨ g2 = ((w1.setCell ⟨p, 0, none⟩ (.slice (some ⟨g1, 0, none⟩) (nx + 1) cap1)).alloc (.cells #[.int .i64 y] 3)).heap.size) → g1 < w1.heap.size → g2 < w2.heap.size →
        CStore ((w2.setCell ⟨p, 1, none⟩ (.slice (some ⟨g2, 0, none⟩) (nx + 1) cap2)).setCell ⟨p, 2, none⟩ (.int .i64 ((pc : Int) + 1))) (fun k => own k ∨ (w.heap.size ≤ k ∧ k < ((w2.setCell ⟨p, 1, none⟩ (.slice (some ⟨g2, 0, none⟩) (nx + 1) cap2)).setCell ⟨p, 2, none⟩ (.int .i64 ((pc : Int) + 1))).heap.size)) p (live ++ [x]) (ll ++ [y]) (N + 1) ∧
          Fr own w ((w2.setCell ⟨p, 1, none⟩ (.slice (some ⟨g2, 0, none⟩) (nx + 1) cap2)).setCell ⟨p, 2, none⟩ (.int .i64 ((pc : Int) + 1))) := by
      have e1 := HX.out
      have e2 := HP.out
      have e3 := HF.out
      subst e1
      subst e2
      intro g1 cap1 w1 g2 cap2 w2 a1 a2 a3 a4 a5 a6 a7 a8
      rw [e3]
      exact add_app HCS.out hxN e3 x y a1 a2 a3 a4 a5 a6 a7 a8
    have FIN := Lib.hid fin
    clear fin
    by_cases hx0 : nx ≤ 0
    · obtain rfl : nx = 0 := by omega
      obtain rfl : pc = 0 := by omega
      have FIN' := FIN.out
      simp only [Nat.zero_add, Int.natCast_zero, Int.zero_add] at FIN'
      have FIN2 := Lib.hid FIN'
      clear FIN FIN'
      simp only [Int.natCast_zero] at c2 hp3 hq
      go_enter Try.func15, Try.ntmps15
      go_wp2_with (first
        | (at_builtin; refine wpList_append_lies _ rfl (.tmp 26) (.tmp 28) 22 rfl 0 27 i0 (.int .u32 0) 1 4 Try.underlying22 hi0 hz0 hz1 hz2 rfl (by decide) _ _ (u32s xs) rfl (hcodes.alloc _) ⟨w.heap.size, 0, none⟩ 1 1 [.int .u32 x] rfl rfl (cell_one_new _ _ _) (by intro u hu; simp at hu; subst hu; rfl) (by omega) (by unfold maxLen; omega) (by omega) (Nat.zero_le _) _ rfl ?_; intro g1 cap1 w1 hown1 hgr1 hat1 hlt1; simp only [Nat.zero_add] at hown1; have r1 := P3.grown (row := some gc) (P3.alloc hp3 (.cells #[.int .u32 x] 27)) hgr1 (fun e => n1 (Option.some.inj e).symm); have d0 := r1.c0; have d1 := r1.c1; have d2 := r1.c2; have g0 := r1.fr 0; have g1' := r1.fr 1; have g2' := r1.fr 2; have hl1 := or_grown (row := some gc) (World.ownsRow.alloc hlines (.cells #[.int .u32 x] 27)) hgr1 (fun e => n3 (Option.some.inj e)))
        | (at_builtin; go_loud (refine wpList_append_lies _ rfl (.tmp 36) (.tmp 38) 44 rfl 0 3 j0 (.int .i64 0) 1 8 Try.underlying44 hj0 jz0 jz1 jz2 rfl (by decide) _ _ (i64s ys) rfl (World.ownsRow.alloc (or_setCell hl1 n2 _) _) ⟨_, 0, none⟩ 1 1 [.int .i64 y] rfl rfl (news_new _ _ _ _ (by simp)) (by intro u hu; simp at hu; subst hu; rfl) (by omega) (by unfold maxLen; omega) (by omega) (Nat.zero_le _) _ rfl ?_); intro g2 cap2 w2 hown2 hgr2 hat2 hlt2; simp only [Nat.zero_add] at hown2; have r2 := P3.grown (row := some gl) (P3.alloc (P3.s0 r1 (.slice (some ⟨g1, 0, none⟩) 1 cap1)) (.cells #[.int .i64 y] 3)) hgr2 (fun e => n2 (Option.some.inj e).symm); have k0 := r2.c0; have k1 := r2.c1; have k2 := r2.c2; have m0 := r2.fr 0; have m1 := r2.fr 1; have m2 := r2.fr 2))
      go_end0
      exact ⟨rfl, FIN2.out _ _ _ _ _ _ hown1 hgr1 hat1 hown2 hgr2 hat2 hlt1 hlt2⟩
    · go_enter Try.func15, Try.ntmps15
      go_wp2_with (first
        | (at_builtin; refine wpList_append_lies _ rfl (.tmp 26) (.tmp 28) 22 rfl 0 27 i0 (.int .u32 0) 1 4 Try.underlying22 hi0 hz0 hz1 hz2 rfl (by decide) _ _ (u32s xs) rfl (hcodes.alloc _) ⟨w.heap.size, 0, none⟩ 1 1 [.int .u32 x] rfl rfl (cell_one_new _ _ _) (by intro u hu; simp at hu; subst hu; rfl) (by omega) (by unfold maxLen; omega) (by omega) (Nat.zero_le _) _ rfl ?_; intro g1 cap1 w1 hown1 hgr1 hat1 hlt1; have r1 := P3.grown (row := some gc) (P3.alloc hp3 (.cells #[.int .u32 x] 27)) hgr1 (fun e => n1 (Option.some.inj e).symm); have d0 := r1.c0; have d1 := r1.c1; have d2 := r1.c2; have g0 := r1.fr 0; have g1' := r1.fr 1; have g2' := r1.fr 2; have hl1 := or_grown (row := some gc) (World.ownsRow.alloc hlines (.cells #[.int .u32 x] 27)) hgr1 (fun e => n3 (Option.some.inj e)))
        | (at_builtin; go_loud (refine wpList_append_lies _ rfl (.tmp 36) (.tmp 38) 44 rfl 0 3 j0 (.int .i64 0) 1 8 Try.underlying44 hj0 jz0 jz1 jz2 rfl (by decide) _ _ (i64s ys) rfl (World.ownsRow.alloc (or_setCell hl1 n2 _) _) ⟨_, 0, none⟩ 1 1 [.int .i64 y] rfl rfl (news_new _ _ _ _ (by simp)) (by intro u hu; simp at hu; subst hu; rfl) (by omega) (by unfold maxLen; omega) (by omega) (Nat.zero_le _) _ rfl ?_); intro g2 cap2 w2 hown2 hgr2 hat2 hlt2; have r2 := P3.grown (row := some gl) (P3.alloc (P3.s0 r1 (.slice (some ⟨g1, 0, none⟩) (nx + 1) cap1)) (.cells #[.int .i64 y] 3)) hgr2 (fun e => n2 (Option.some.inj e).symm); have k0 := r2.c0; have k1 := r2.c1; have k2 := r2.c2; have m0 := r2.fr 0; have m1 := r2.fr 1; have m2 := r2.fr 2))
      go_end0
      exact ⟨rfl, FIN.out _ _ _ _ _ _ hown1 hgr1 hat1 hown2 hgr2 hat2 hlt1 hlt2⟩
  · have hlt : pc < nx := by omega
    have hq : ((pc : Int) == (nx : Int)) = false := beq_eq_false_iff_ne.2 (by omega)
    have hx0 : ¬ nx ≤ 0 := by omega
    obtain ⟨vx, hvx⟩ : ∃ v, (u32s xs)[pc]? = some v := ⟨_, List.getElem?_eq_getElem (by rw [u32s, List.length_map, HX.out]; exact hlt)⟩
    obtain ⟨vy, hvy⟩ : ∃ v, (i64s ys)[pc]? = some v := ⟨_, List.getElem?_eq_getElem (by rw [i64s, List.length_map, HY.out, HX.out]; exact hlt)⟩
    have d0 : w.cell? ⟨gc, pc, none⟩ = some vx := (World.ownsRow.cellAt hcodes pc (by rw [Nat.mul_one]; exact hlt)).trans hvx
    have d1 : w.cell? ⟨gl, pc, none⟩ = some vy := (World.ownsRow.cellAt hlines pc (by rw [Nat.mul_one]; exact hlt)).trans hvy
    have e0 : w.frozen? ⟨gc, pc, none⟩ = false := World.ownsRow.frozenAt hcodes pc
    have e1 : w.frozen? ⟨gl, pc, none⟩ = false := World.ownsRow.frozenAt hlines pc
    clear hvx hvy hfull
    go_enter Try.func15, Try.ntmps15
    go_wp2
    go_region
    go_wp2
    go_region
    go_wp2
    go_end0
    have e1 := HX.out
    have e2 := HP.out
    subst e1
    subst e2
    exact ⟨rfl, add_set HCS.out hxN hlt x y⟩

theorem cs_list {w : World} {own : Nat → Prop} {p : Nat} {live ll : List Int} {gc cc gl cl : Nat} {xs ys : List Int} (h : CS w own p live ll gc cc gl cl xs ys) :
    Calls Try.prog 28 #[.pointer (some ⟨p, 0, none⟩)] w fun e w' => e = .returned (.slice (some ⟨gc, 0, none⟩) live.length cc) ∧ ∃ n, w' = w.drewN n := by
  have c0 := h.p3.c0
  have c2 := h.p3.c2
  have hle := h.le
  have hcap : xs.length ≤ cc := by
    obtain ⟨_, h1 | ⟨g, cap, cur, h1, _, _, hc, _⟩⟩ := h.codes
    · simp at h1
    · simp at h1; omega
  obtain ⟨nx, hnx⟩ : ∃ n, xs.length = n := ⟨_, rfl⟩
  obtain ⟨pc, hpc⟩ : ∃ n, live.length = n := ⟨_, rfl⟩
  rw [hnx] at c0 hle hcap
  rw [hpc] at c2 hle
  rw [hpc]
  clear hnx hpc h
  go_enter Try.func28, Try.ntmps28
  go_wp2
  go_quiet (fail)
  go_wp2
  go_ret
  exact ⟨rfl, _, rfl⟩
theorem cs_posList {w : World} {own : Nat → Prop} {p : Nat} {live ll : List Int} {gc cc gl cl : Nat} {xs ys : List Int} (h : CS w own p live ll gc cc gl cl xs ys) :
    Calls Try.prog 29 #[.pointer (some ⟨p, 0, none⟩)] w fun e w' => e = .returned (.slice (some ⟨gl, 0, none⟩) live.length cl) ∧ ∃ n, w' = w.drewN n := by
  have c0 := h.p3.c1
  have c2 := h.p3.c2
  have hle := h.le
  have hcap : ys.length ≤ cl := by
    obtain ⟨_, h1 | ⟨g, cap, cur, h1, _, _, hc, _⟩⟩ := h.lines
    · simp at h1
    · simp at h1; omega
  rw [h.len] at c0 hcap
  obtain ⟨nx, hnx⟩ : ∃ n, xs.length = n := ⟨_, rfl⟩
  obtain ⟨pc, hpc⟩ : ∃ n, live.length = n := ⟨_, rfl⟩
  rw [hnx] at c0 hle hcap
  rw [hpc] at c2 hle
  rw [hpc]
  clear hnx hpc h
  go_enter Try.func29, Try.ntmps29
  go_wp2
  go_quiet (fail)
  go_wp2
  go_ret
  exact ⟨rfl, _, rfl⟩
/-- The elements of a store, read in the block of its codes; the lines likewise. -/
theorem CS.code_at {w : World} {own : Nat → Prop} {p : Nat} {live ll : List Int} {gc cc gl cl : Nat} {xs ys : List Int} (h : CS w own p live ll gc cc gl cl xs ys) {i : Nat} (hi : i < live.length) : w.cell? ⟨gc, i, none⟩ = some (.int .u32 (live.getD i 0)) := by
  have h1 := World.ownsRow.cellAt h.codes i (by rw [Nat.mul_one]; have := h.le; omega)
  have h2 : xs[i]? = live[i]? := by
    have := congrArg (·[i]?) h.tx
    simpa [List.getElem?_take, hi] using this
  rw [h1, u32s, List.getElem?_map, h2, List.getElem?_eq_getElem hi]
  simp [List.getD, List.getElem?_eq_getElem hi]
theorem CS.line_at {w : World} {own : Nat → Prop} {p : Nat} {live ll : List Int} {gc cc gl cl : Nat} {xs ys : List Int} (h : CS w own p live ll gc cc gl cl xs ys) {i : Nat} (hi : i < live.length) : w.cell? ⟨gl, i, none⟩ = some (.int .i64 (ll.getD i 0)) := by
  have h1 := World.ownsRow.cellAt h.lines i (by rw [Nat.mul_one]; have := h.le; have := h.len; omega)
  have hi2 : i < ll.length := by rw [h.lenl]; exact hi
  have h2 : ys[i]? = ll[i]? := by
    have := congrArg (·[i]?) h.ty
    simpa [List.getElem?_take, hi2] using this
  rw [h1, i64s, List.getElem?_map, h2, List.getElem?_eq_getElem hi2]
  simp [List.getD, List.getElem?_eq_getElem hi2]
theorem CStore.drewN {w : World} {own : Nat → Prop} {p : Nat} {live ll : List Int} {N : Nat} (h : CStore w own p live ll N) (k : Nat) : CStore (w.drewN k) own p live ll N := by
  obtain ⟨gc, cc, gl, cl, xs, ys, h, hN⟩ := h
  exact ⟨gc, cc, gl, cl, xs, ys, ⟨h.row, h.codes, h.lines, h.len, h.le, h.lenl, h.tx, h.ty, h.op, h.oc, h.ol⟩, hN⟩
theorem CStore.mono {w : World} {own own' : Nat → Prop} {p : Nat} {live ll : List Int} {N : Nat} (h : CStore w own p live ll N) (ho : ∀ k, own k → own' k) : CStore w own' p live ll N := by
  obtain ⟨gc, cc, gl, cl, xs, ys, h, hN⟩ := h
  exact ⟨gc, cc, gl, cl, xs, ys, ⟨h.row, h.codes, h.lines, h.len, h.le, h.lenl, h.tx, h.ty, ho _ h.op, ho _ h.oc, ho _ h.ol⟩, hN⟩
theorem cstore_last {w : World} {own : Nat → Prop} {p : Nat} {live ll : List Int} {N : Nat} (h : CStore w own p live ll N) (hb : live.length ≤ 1048576) :
    Calls Try.prog 14 #[.pointer (some ⟨p, 0, none⟩)] w fun e w' => e = .returned (.int .u32 (lastOf live)) ∧ ∃ n, w' = w.drewN n := by
  obtain ⟨gc, cc, gl, cl, xs, ys, h, hN⟩ := h
  exact cs_last h hb
theorem cstore_lastPC {w : World} {own : Nat → Prop} {p : Nat} {live ll : List Int} {N : Nat} (h : CStore w own p live ll N) (hb : live.length ≤ 1048576) :
    Calls Try.prog 30 #[.pointer (some ⟨p, 0, none⟩)] w fun e w' => e = .returned (.int .i64 ((live.length : Int) - 1)) ∧ w = w' := by
  obtain ⟨gc, cc, gl, cl, xs, ys, h, hN⟩ := h
  exact cs_lastPC h hb
end Go.Proofs.Ytphbmhffkemkkaa
