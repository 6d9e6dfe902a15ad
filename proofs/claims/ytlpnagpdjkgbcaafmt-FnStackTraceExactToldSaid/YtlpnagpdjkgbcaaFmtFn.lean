/- The functions that the law builds, one a frame: what lies in memory. -/
import Derived.Test.YtlpnagpdjkgbcaaFmtOk
import Derived.Deep.AppendLies
namespace Go.Proofs.YtlpnagpdjkgbcaaFmt
set_option linter.unusedVariables false
open Go.RowKit Go.ChangeShapes Go.Deep
/-- A cell at or above block B. -/
def Cl (B : Nat) (w : World) (a : Addr) (v : Value) : Prop := B ≤ a.block ∧ w.cell? a = some v
/-- What lies at or above block B stays. -/
def Kp (B : Nat) (w w' : World) : Prop := ∀ a v, B ≤ a.block → w.cell? a = some v → w'.cell? a = some v
theorem Kp.refl (B : Nat) (w : World) : Kp B w w := fun _ _ _ h => h
theorem Kp.trans {B : Nat} {w w' w'' : World} (h : Kp B w w') (h' : Kp B w' w'') : Kp B w w'' := fun a v ha hc => h' a v ha (h a v ha hc)
theorem Kp.of_below {B : Nat} {w w' : World} (h : Below w.heap.size w w') : Kp B w w' := fun a v ha hc => (h.cell (World.block_lt_of_cell? w _ hc)).trans hc
theorem Kp.setCell {B : Nat} {w : World} {p : Addr} (hp : p.block < B) (u : Value) : Kp B w (w.setCell p u) := fun a v ha hc => by
  rw [World.cell?_setCell_other _ _ _ _ (by rintro rfl; omega)]
  exact hc
theorem Kp.drewN {B : Nat} {w : World} (n : Nat) : Kp B w (w.drewN n) := fun a v ha hc => hc
theorem Kp.mono {B B' : Nat} {w w' : World} (h : Kp B w w') (hb : B ≤ B') : Kp B' w w' := fun a v ha hc => h a v (by omega) hc
theorem Cl.kp {B : Nat} {w w' : World} {a : Addr} {v : Value} (h : Cl B w a v) (k : Kp B w w') : Cl B w' a v := ⟨h.1, k a v h.1 h.2⟩
theorem Cl.mono {B B' : Nat} {w : World} {a : Addr} {v : Value} (h : Cl B w a v) (hb : B' ≤ B) : Cl B' w a v := ⟨by have := h.1; omega, h.2⟩
def decoyS : ByteArray := ⟨#[122, 122, 100, 101, 99, 111, 121]⟩
def shadowS : ByteArray := ⟨#[122, 122, 115, 104, 97, 100, 111, 119]⟩
/-- The list of calls of a function below the frame u. -/
def DCs (B : Nat) (w : World) (nx : Option FR) (dv : Value) : Prop :=
  ((∀ u, nx = some u → u.name.size = 0) ∧ dv = .slice none 0 0) ∨
  ∃ u g cap, nx = some u ∧ u.name.size ≠ 0 ∧ dv = .slice (some ⟨g, 0, none⟩) (if u.pc = 0 then 3 else 2) cap ∧ Cl B w ⟨g, 0, none⟩ (.string decoyS) ∧ Cl B w ⟨g, 1, none⟩ (.int .i64 7) ∧ Cl B w ⟨g, 2, none⟩ (.string u.name) ∧ Cl B w ⟨g, 3, none⟩ (.int .i64 u.pc) ∧
    (u.pc = 0 → Cl B w ⟨g, 4, none⟩ (.string shadowS) ∧ Cl B w ⟨g, 5, none⟩ (.int .i64 0))
/-- A Lua function's own parts. -/
def PrAt (B : Nat) (w : World) (fp : Nat) (f : FR) (nx : Option FR) (src : ByteArray) (ld : Int) : Prop :=
  ∃ pp lp dv, Cl B w ⟨fp, 2, none⟩ (.pointer (some ⟨pp, 0, none⟩)) ∧ Cl B w ⟨pp, 0, none⟩ (.string src) ∧ Cl B w ⟨pp, 1, none⟩ (.int .i64 ld) ∧ Cl B w ⟨pp, 10, none⟩ (.slice (some ⟨lp, 0, none⟩) 1 1) ∧ Cl B w ⟨lp, 0, none⟩ (.int .i64 f.line) ∧ Cl B w ⟨pp, 12, none⟩ dv ∧ DCs B w nx dv
structure FnAt (B : Nat) (w : World) (fp : Nat) (f : FR) (nx : Option FR) (src : ByteArray) (ld : Int) : Prop where
  g : Cl B w ⟨fp, 0, none⟩ (.bool f.g)
  yes : f.g = true → Cl B w ⟨fp, 2, none⟩ (.pointer none)
  no : f.g = false → PrAt B w fp f nx src ld
section
variable {B B' : Nat} {w w' : World} {fp : Nat} {f : FR} {nx : Option FR} {src : ByteArray} {ld : Int} {dv : Value}
theorem DCs.kp (h : DCs B w nx dv) (k : Kp B w w') : DCs B w' nx dv := by
  rcases h with h | ⟨u, g, cap, h1, h2, h3, c0, c1, c2, c3, c4⟩
  · exact .inl h
  · exact .inr ⟨u, g, cap, h1, h2, h3, c0.kp k, c1.kp k, c2.kp k, c3.kp k, fun e => ⟨(c4 e).1.kp k, (c4 e).2.kp k⟩⟩
theorem DCs.mono (h : DCs B w nx dv) (k : B' ≤ B) : DCs B' w nx dv := by
  rcases h with h | ⟨u, g, cap, h1, h2, h3, c0, c1, c2, c3, c4⟩
  · exact .inl h
  · exact .inr ⟨u, g, cap, h1, h2, h3, c0.mono k, c1.mono k, c2.mono k, c3.mono k, fun e => ⟨(c4 e).1.mono k, (c4 e).2.mono k⟩⟩
theorem FnAt.kp (h : FnAt B w fp f nx src ld) (k : Kp B w w') : FnAt B w' fp f nx src ld :=
  ⟨h.g.kp k, fun e => (h.yes e).kp k, fun e => by
    obtain ⟨pp, lp, dv, c0, c1, c2, c3, c4, c5, c6⟩ := h.no e
    exact ⟨pp, lp, dv, c0.kp k, c1.kp k, c2.kp k, c3.kp k, c4.kp k, c5.kp k, c6.kp k⟩⟩
theorem FnAt.mono (h : FnAt B w fp f nx src ld) (k : B' ≤ B) : FnAt B' w fp f nx src ld :=
  ⟨h.g.mono k, fun e => (h.yes e).mono k, fun e => by
    obtain ⟨pp, lp, dv, c0, c1, c2, c3, c4, c5, c6⟩ := h.no e
    exact ⟨pp, lp, dv, c0.mono k, c1.mono k, c2.mono k, c3.mono k, c4.mono k, c5.mono k, c6.mono k⟩⟩
end
def FnPost (w : World) (f : FR) (nx : Option FR) (src : ByteArray) (ld : Int) (e : Ending) (w' : World) : Prop :=
  ∃ fp, e = .returned (.pointer (some ⟨fp, 0, none⟩)) ∧ FnAt w.heap.size w' fp f nx src ld ∧ Below w.heap.size w w'
def nextOf (n : Nat) (z : Nat → FR) (k : Nat) : Option FR := if k + 1 < n then some (z (k + 1)) else none
set_option maxRecDepth 100000 in
set_option maxHeartbeats 1000000 in
theorem fn17_g (A : Option Addr) (n c k : Nat) (z : Nat → FR) (src : ByteArray) (ld : Int) (w : World) (ha : Fms w A n c z) (hk : k < n) (hg : (z k).g = true) (nx : Option FR) :
    Calls Tryf.prog 17 #[.slice A n c, .int .i64 k, .string src, .int .i64 ld] w (FnPost w (z k) nx src ld) := by
  obtain ⟨b, off, hx, hlt, c0, c1, c2, c3, c4⟩ := ha.at_ hk
  subst hx
  rw [hg] at c0
  have HG := Lib.hid hg
  clear hg ha
  go_enter Tryf.func17, Tryf.ntmps17
  go_wp2
  go_ret
  refine ⟨w.heap.size, rfl, ⟨⟨Nat.le_refl _, by rw [HG.out]; simp⟩, fun _ => ⟨Nat.le_refl _, by simp⟩, fun e => ?_⟩, ?_⟩
  · rw [HG.out] at e; cases e
  · go_grown
/-- The last three blocks of a Lua function. -/
abbrev Fw (W : World) (src : ByteArray) (ld line : Int) (dv : Value) : World :=
  ((W.alloc (Obj.cells #[Value.int IntKind.i64 line] 3)).alloc
          (Obj.cells
            #[Value.string src, Value.int IntKind.i64 ld, Value.int IntKind.i64 0, Value.int IntKind.u8 0,
              Value.int IntKind.u8 0, Value.int IntKind.u8 0, Value.int IntKind.u8 0, Value.slice none 0 0,
              Value.slice none 0 0, Value.slice none 0 0, Value.slice (some { block := W.heap.size, off := 0 }) 1 1,
              Value.slice none 0 0, dv, Value.slice none 0 0, Value.slice none 0 0]
            84)).alloc
      (Obj.cells
        #[Value.bool false, Value.pointer none, Value.pointer (some { block := W.heap.size + 1, off := 0 }),
          Value.nilFunc, Value.slice none 0 0]
        74)
theorem fn_shut {B : Nat} {w W : World} {f : FR} {nx : Option FR} {src : ByteArray} {ld : Int} {dv : Value} (hb : Below B w W) (hB : B ≤ W.heap.size) (hd : DCs B W nx dv) (hg : f.g = false) :
    FnAt B (Fw W src ld f.line dv) (W.heap.size + 1 + 1) f nx src ld ∧ Below B w (Fw W src ld f.line dv) := by
  have b1 : Below W.heap.size W (Fw W src ld f.line dv) := (((Below.refl _ _).alloc (Nat.le_refl _) _).alloc (by simp) _).alloc (by simp; omega) _
  refine ⟨⟨⟨by simp; omega, by rw [hg]; go_simp⟩, fun e => (by rw [hg] at e; cases e), fun _ => ⟨W.heap.size + 1, W.heap.size, dv, ⟨by simp; omega, by go_simp⟩, ⟨by simp; omega, by go_simp⟩, ⟨by simp; omega, by go_simp⟩, ⟨by simp; omega, by go_simp⟩, ⟨by simp; omega, by go_simp⟩, ⟨by simp; omega, by go_simp⟩, hd.kp (Kp.of_below b1)⟩⟩, hb.trans (b1.mono hB)⟩
set_option maxRecDepth 100000 in
set_option maxHeartbeats 1000000 in
theorem fn17_0 (A : Option Addr) (n c k : Nat) (z : Nat → FR) (src : ByteArray) (ld : Int) (w : World) (ha : Fms w A n c z) (hn : n ≤ 4096) (hk : k < n) (hg : (z k).g = false) (h0 : ∀ u, nextOf n z k = some u → u.name.size = 0) :
    Calls Tryf.prog 17 #[.slice A n c, .int .i64 k, .string src, .int .i64 ld] w (FnPost w (z k) (nextOf n z k) src ld) := by
  obtain ⟨b, off, hx, hlt, c0, c1, c2, c3, c4⟩ := ha.at_ hk
  rw [hg] at c0
  have HF : Hid (FnAt w.heap.size (Fw w src ld (z k).line (.slice none 0 0)) (w.heap.size + 1 + 1) (z k) (nextOf n z k) src ld ∧ Below w.heap.size w (Fw w src ld (z k).line (.slice none 0 0))) := Lib.hid (fn_shut (Below.refl _ _) (Nat.le_refl _) (.inl ⟨h0, rfl⟩) hg)
  by_cases hk1 : k + 1 < n
  · obtain ⟨b', off', hx', hlt', d0, d1, d2, d3, d4⟩ := ha.at_ hk1
    rw [hx] at hx'
    injection hx' with hx'
    injection hx' with hx' hx''
    subst hx' hx''
    subst hx
    have hnm := h0 (z (k + 1)) (by rw [nextOf, if_pos hk1])
    have hnm2 : (z (k + 1)).name = ⟨#[]⟩ := by
      have : (z (k + 1)).name.data.size = 0 := hnm
      cases h : (z (k + 1)).name with
      | mk a => rw [h] at this; exact congrArg ByteArray.mk (Array.eq_empty_of_size_eq_zero this)
    rw [hnm2] at d3
    have hk2 : (k : Int) + 1 < n := by omega
    have HG := Lib.hid hg
    clear hg ha h0 hnm hnm2
    go_enter Tryf.func17, Tryf.ntmps17
    go_wp2
    go_ret
    exact ⟨_, rfl, HF.out⟩
  · subst hx
    have hk2 : ¬ (k : Int) + 1 < n := by omega
    have HG := Lib.hid hg
    clear hg ha h0
    go_enter Tryf.func17, Tryf.ntmps17
    go_wp2
    go_ret
    exact ⟨_, rfl, HF.out⟩
theorem info77 : (Tryf.prog.info? 77).map (fun i => (i.zero, i.size, i.bytes)) = some (some (.agg #[.string ⟨#[]⟩, .int .i64 0]), 2, 24) := by kernel_rfl
theorem two_new (W : World) (v0 v1 : Value) (H : Nat) (hH : W.heap.size = H) : ∀ j u, [v0, v1][j]? = some u → (W.alloc (.cells #[v0, v1] 77)).cell? ((⟨H, 0, none⟩ : Addr).add j) = some u := by
  subst hH
  intro j u hj
  match j with
  | 0 => simpa [Addr.add] using hj
  | 1 => simpa [Addr.add] using hj
  | j + 2 => simp at hj
theorem ownsRow_nil (w : World) (b e s : Nat) : w.ownsRow b e s (.slice none 0 0) 0 [] := ⟨by simp, .inl ⟨rfl, rfl⟩⟩
/-- The list of calls as it grows; and the copy of the frame above. -/
structure CL (w0 w : World) (B : Nat) (v : Value) (n : Nat) (xs : List Value) (H0 : Nat) (u : FR) : Prop where
  own : w.ownsRow 0 77 2 v n xs
  at_ : (v = .slice none 0 0 ∧ n = 0) ∨ ∃ g cap, v = .slice (some ⟨g, 0, none⟩) n cap ∧ B ≤ g ∧ g ≠ H0
  bel : Below B w0 w
  hB : B ≤ H0
  hH : H0 < w.heap.size
  c3 : w.cell? ⟨H0, 3, none⟩ = some (.string u.name)
  c4 : w.cell? ⟨H0, 4, none⟩ = some (.int .i64 u.pc)
theorem wpList_pushC {w0 w : World} {B : Nat} {v : Value} {n : Nat} {xs : List Value} {H0 : Nat} {u : FR} (C : CL w0 w B v n xs H0 u) {ops : Array Oper} {rest : List Oper} {o : Oper} {a : Act} {Q : Exit → Act → World → Prop} (hgd : o.guard = none) (sl x : Operand)
    (ho : o.op = .call { callee := .builtin .append, args := #[sl, x], argTypes := #[75, 75] }) (v0 v1 : Value) (h0 : v0.oneCell' = true) (h1 : v1.oneCell' = true) (hs : a.eval sl = v) (H : Nat) (hH : w.heap.size = H) (hx : a.eval x = .slice (some ⟨H, 0, none⟩) 1 1) (hn : n ≤ 100)
    (h : ∀ g' cap' w', CL w0 w' B (.slice (some ⟨g', 0, none⟩) (n + 1) cap') (n + 1) (xs ++ [v0, v1]) H0 u → B ≤ g' → wpList Tryf.prog ops Q rest (a.put o.dst (.slice (some ⟨g', 0, none⟩) (n + 1) cap')) w') :
    wpList Tryf.prog ops Q (o :: rest) a (w.alloc (.cells #[v0, v1] 77)) := by
  subst hH
  obtain ⟨i0, hi0, hz0, hz1, hz2⟩ := or_parts info77
  refine wpList_append_lies _ hgd sl x 75 ho 0 77 i0 (.agg #[.string ⟨#[]⟩, .int .i64 0]) 2 24 Tryf.underlying75 hi0 hz0 hz1 hz2 rfl (by decide) v n xs hs (C.own.alloc _) ⟨w.heap.size, 0, none⟩ 1 1 [v0, v1] hx rfl (two_new _ _ _ _ rfl)
    (by intro y hy; simp at hy; rcases hy with rfl | rfl <;> assumption) (by omega) (by unfold maxLen; omega) (by omega) (Nat.zero_le _) _ rfl ?_
  intro g' cap' w' own' gr hat hlt
  have hBw : B ≤ w.heap.size := by have := C.hB; have := C.hH; omega
  have hne : v.ownBlock ≠ some H0 := by
    rcases C.at_ with ⟨rfl, _⟩ | ⟨g, cap, rfl, _, hg⟩
    · simp [Value.ownBlock]
    · simpa [Value.ownBlock] using hg
  have hBg : ∀ k, v.ownBlock = some k → B ≤ k := by
    rcases C.at_ with ⟨rfl, _⟩ | ⟨g, cap, rfl, hg, _⟩
    · simp [Value.ownBlock]
    · intro k hk; simp [Value.ownBlock] at hk; omega
  have hg1 : B ≤ g' := by
    rcases hat with h | h
    · exact hBg _ h
    · simp at h; omega
  have hg2 : g' ≠ H0 := by
    rcases hat with h' | h'
    · intro e; rw [e] at h'; exact hne h'
    · simp at h'; have := C.hH; omega
  have F : Fr (fun x => v.ownBlock = some x) w w' := Fr.grown ((Fr.refl _ w).alloc _) gr (fun k hk => .inl hk)
  have hs' : w.heap.size ≤ w'.heap.size := F.size
  exact h g' cap' w' ⟨own', .inr ⟨g', cap', rfl, hg1, hg2⟩, C.bel.trans (F.below hBw hBg), C.hB, Nat.lt_of_lt_of_le C.hH hs', (F.cell (p := ⟨H0, 3, none⟩) C.hH hne).trans C.c3, (F.cell (p := ⟨H0, 4, none⟩) C.hH hne).trans C.c4⟩ hg1
theorem cl_start (w : World) (u : FR) : CL w (w.alloc (.cells #[.bool u.g, .int .i64 u.line, .int .i64 u.tail, .string u.name, .int .i64 u.pc] 36)) w.heap.size (.slice none 0 0) 0 [] w.heap.size u :=
  ⟨ownsRow_nil _ _ _ _, .inl ⟨rfl, rfl⟩, (Below.refl _ _).alloc (Nat.le_refl _) _, Nat.le_refl _, by simp, by go_simp, by go_simp⟩
theorem CL.dcs {w0 w : World} {B g cap H0 : Nat} {u : FR} {nx : Option FR} (hu : u.name.size ≠ 0) (hnx : nx = some u) {n : Nat} {xs : List Value} (C : CL w0 w B (.slice (some ⟨g, 0, none⟩) n cap) n xs H0 u) (hB : B ≤ g)
    (hn : n = if u.pc = 0 then 3 else 2) (hxs : xs = [.string decoyS, .int .i64 7] ++ [.string u.name, .int .i64 u.pc] ++ (if u.pc = 0 then [.string shadowS, .int .i64 0] else [])) : DCs B w nx (.slice (some ⟨g, 0, none⟩) n cap) := by
  subst hn
  have hc : ∀ j v, xs[j]? = some v → w.cell? ⟨g, j, none⟩ = some v := fun j v hv => by
    rw [World.ownsRow.cellAt C.own j ?_, hv]
    have := (List.getElem?_eq_some_iff.1 hv).1
    rw [C.own.1] at this
    exact this
  subst hxs
  refine .inr ⟨u, g, cap, hnx, hu, rfl, ⟨hB, hc 0 _ rfl⟩, ⟨hB, hc 1 _ rfl⟩, ⟨hB, hc 2 _ rfl⟩, ⟨hB, hc 3 _ rfl⟩, fun e => ?_⟩
  rw [if_pos e] at hc
  exact ⟨⟨hB, hc 4 _ rfl⟩, ⟨hB, hc 5 _ rfl⟩⟩
set_option maxRecDepth 100000 in
set_option maxHeartbeats 2000000 in
theorem fn17_1 (A : Option Addr) (n c k : Nat) (z : Nat → FR) (src : ByteArray) (ld : Int) (w : World) (ha : Fms w A n c z) (hn : n ≤ 4096) (hk1 : k + 1 < n) (hg : (z k).g = false) (hnm : (z (k + 1)).name.size ≠ 0) :
    Calls Tryf.prog 17 #[.slice A n c, .int .i64 k, .string src, .int .i64 ld] w (FnPost w (z k) (nextOf n z k) src ld) := by
  obtain ⟨b, off, hx, hlt, c0, c1, c2, c3, c4⟩ := ha.at_ (k := k) (by omega)
  rw [hg] at c0
  obtain ⟨b', off', hx', hlt', d0, d1, d2, d3, d4⟩ := ha.at_ hk1
  rw [hx] at hx'
  injection hx' with hx'
  injection hx' with hx' hx''
  subst hx' hx''
  subst hx
  have e2 : (!(z (k + 1)).name.toList.isEmpty) = true := by
    rw [ByteArray.toList_eq]
    cases h : (z (k + 1)).name.data.toList with
    | nil => exact absurd (by show (z (k + 1)).name.data.size = 0; rw [← Array.length_toList, h]; rfl) hnm
    | cons a l => rfl
  have e3 : ¬ (z (k + 1)).name.toList = [] := fun h => by rw [h] at e2; cases e2
  have hk2 : (k : Int) + 1 < n := by omega
  have HG := Lib.hid hg
  have HNM := Lib.hid hnm
  clear hg ha hnm
  have C0 := Lib.hid (cl_start w (z (k + 1)))
  have HNX : Hid (nextOf n z k = some (z (k + 1))) := Lib.hid (by rw [nextOf, if_pos hk1])
  by_cases hpc : (z (k + 1)).pc = 0
  · have HPC := Lib.hid hpc
    have hpc2 : ((z (k + 1)).pc == 0) = true := by simp [hpc]
    clear hpc
    go_enter Tryf.func17, Tryf.ntmps17
    go_wp2_with (first | (at_builtin; refine wpList_pushC C2.out rfl (.tmp 52) (.tmp 54) rfl (.string shadowS) (.int .i64 0) rfl rfl rfl _ rfl rfl (by omega) ?_; intro g3 cap3 w3 R3 hg3; have l3 := (R3.bel.cell (p := ⟨b, off + k * 5 + 1, none⟩) hlt).trans c1; have HF := Lib.hid (fn_shut (f := z k) (nx := nextOf n z k) (src := src) (ld := ld) R3.bel (by have := R3.hB; have := R3.hH; omega) (R3.dcs HNM.out HNX.out hg3 (by simp [HPC.out]) (by simp [HPC.out])) HG.out); clear c3 c4 R3) | (at_builtin; refine wpList_pushC C1.out rfl (.tmp 41) (.tmp 47) rfl (.string (z (k + 1)).name) (.int .i64 (z (k + 1)).pc) rfl rfl rfl _ rfl rfl (by omega) ?_; intro g2 cap2 w2 R2 hg2; have C2 := Lib.hid R2; clear c3 c4; have c3 := R2.c3; have c4 := R2.c4; have hh2 := R2.hH; clear R2) | (at_builtin; refine wpList_pushC C0.out rfl (.tmp 37) (.tmp 39) rfl (.string decoyS) (.int .i64 7) rfl rfl rfl (w.heap.size + 1) (by simp) rfl (by omega) ?_; intro g1 cap1 w1 R1 hg1; have C1 := Lib.hid R1; clear c3 c4; have c3 := R1.c3; have c4 := R1.c4; have hh1 := R1.hH; clear R1))
    go_ret
    exact ⟨_, rfl, HF.out⟩
  · have HPC := Lib.hid hpc
    have hpc2 : ((z (k + 1)).pc == 0) = false := by simp [hpc]
    go_enter Tryf.func17, Tryf.ntmps17
    go_wp2_with (first | (at_builtin; refine wpList_pushC C1.out rfl (.tmp 41) (.tmp 47) rfl (.string (z (k + 1)).name) (.int .i64 (z (k + 1)).pc) rfl rfl rfl _ rfl rfl (by omega) ?_; intro g2 cap2 w2 R2 hg2; have l2 := (R2.bel.cell (p := ⟨b, off + k * 5 + 1, none⟩) hlt).trans c1; have HF := Lib.hid (fn_shut (f := z k) (nx := nextOf n z k) (src := src) (ld := ld) R2.bel (by have := R2.hB; have := R2.hH; omega) (R2.dcs HNM.out HNX.out hg2 (by simp [HPC.out]) (by simp [HPC.out])) HG.out); clear c3 c4; have c4 := R2.c4; clear R2) | (at_builtin; refine wpList_pushC C0.out rfl (.tmp 37) (.tmp 39) rfl (.string decoyS) (.int .i64 7) rfl rfl rfl (w.heap.size + 1) (by simp) rfl (by omega) ?_; intro g1 cap1 w1 R1 hg1; have C1 := Lib.hid R1; clear c3 c4; have c3 := R1.c3; have c4 := R1.c4; have hh1 := R1.hH; clear R1))
    go_ret
    exact ⟨_, rfl, HF.out⟩
theorem fn17 (A : Option Addr) (n c k : Nat) (z : Nat → FR) (src : ByteArray) (ld : Int) (w : World) (ha : Fms w A n c z) (hn : n ≤ 4096) (hk : k < n) :
    Calls Tryf.prog 17 #[.slice A n c, .int .i64 k, .string src, .int .i64 ld] w (FnPost w (z k) (nextOf n z k) src ld) := by
  cases hg : (z k).g
  · by_cases hk1 : k + 1 < n
    · by_cases hnm : (z (k + 1)).name.size = 0
      · exact fn17_0 A n c k z src ld w ha hn hk hg (fun u hu => by rw [nextOf, if_pos hk1] at hu; injection hu with hu; rw [← hu]; exact hnm)
      · exact fn17_1 A n c k z src ld w ha hn hk1 hg hnm
    · exact fn17_0 A n c k z src ld w ha hn hk hg (fun u hu => by rw [nextOf, if_neg hk1] at hu; cases hu)
  · exact fn17_g A n c k z src ld w ha hk hg _
end Go.Proofs.YtlpnagpdjkgbcaaFmt
