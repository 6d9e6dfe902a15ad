/- The flag scanner in memory; its makers and its methods. -/
import Derived.Test.YtkmjoliablpmbaaProg
import Derived.Test.YtkmjoliablpmbaaHp
import Derived.Test.YtkmjoliablpmbaaOr
import Derived.Test.YtkmjoliablpmbaaFsMath
import Derived.WalkKit
import Derived.WalkSpells
import Derived.WalkLawsBesides
import Derived.Lib.Hide
import Derived.Lib.AppendStr
import Derived.Laws.IdiomStrings
import Derived.OpenShut
import Derived.Handy
import Derived.Deep.QuietTactic
import Derived.BigQuiet
import Derived.RegionTactic
import Derived.BigRegion
import Derived.Deep.AppendLies
import Derived.StillTailTactics
namespace Go.Proofs.Ytkmjoliablpmbaa
open Go.RowKit Go.ChangeShapes Go.Deep
/-- Bytes as cells. -/
def bs (l : List UInt8) : List Value := l.map fun b => Value.int .u8 b.toNat
theorem bs_app (a b : List UInt8) : bs (a ++ b) = bs a ++ bs b := by simp [bs]
theorem bs_len (a : List UInt8) : (bs a).length = a.length := by simp [bs]
theorem bs_str (s : ByteArray) : Lib.strCells s = bs s.data.toList := rfl
theorem info5 : (Try.prog.info? 5).map (fun i => (i.zero, i.size, i.bytes)) = some (some (.int .u8 0), 1, 1) := by kernel_rfl
/-- 'append(b, s...)', b a row of bytes that was made here: which block. -/
theorem run_app_str {P : Program} (w : World) (t u ty e : TypeId) (i : TypeInfo) (ht : P.underlying t = some (.slice e)) (hu : P.underlying u = some .string) (hi : P.info? e = some i) (hz : i.zero = some (.int .u8 0))
    (hsize : i.size = 1) (hby : i.bytes = 1) (g n cap : Nat) (xs : List Value) (hown : OR w e g n cap xs) (s : ByteArray) (hbytes : n + s.size ≤ 140737488355328) :
    ∃ g' cap' w', (Builtin.append_ #[t, u] ty #[.slice (some ⟨g, 0, none⟩) n cap, .string s]).run P w = .ok (.slice (some ⟨g', 0, none⟩) (n + s.size) cap') w' ∧ OR w' e g' (n + s.size) cap' (xs ++ Lib.strCells s) ∧ w.grownBy w' (some g) ∧ (g' = g ∨ g' = w.heap.size) := by
  obtain ⟨v', w', hr, h1, h2, h3⟩ := Lib.run_append_own_string (P := P) w 0 t u ty e i ht hu hi hz hsize hby _ n xs hown s (by unfold maxLen; omega) hbytes (Nat.zero_le _)
  obtain ⟨hlen, h | ⟨g0, cap0, cur, hv, hbg, hg, hnc, hcm, hcs, htake⟩⟩ := hown
  · simp at h
  · simp at hv
    obtain ⟨rfl, rfl⟩ := hv
    have hxl : xs.length = n := by simpa using hlen
    by_cases hroom : n + s.size ≤ cap
    · have hcs' : cur.size = cap := by simpa using hcs
      have hr2 := Lib.run_append_room_string (P := P) w t u ty e i ht hu hi hsize g n cap cur hg s hroom (by omega)
      rw [hr] at hr2
      injection hr2 with e1 e2
      subst e1 e2
      exact ⟨g, cap, _, hr, h1, h2, .inl rfl⟩
    · have holds : ∀ j u, xs[j]? = some u → w.cell? ((⟨g, 0, none⟩ : Addr).add j) = some u := (show w.ownsRow 0 e 1 _ n xs from ⟨hlen, .inr ⟨g, cap, cur, rfl, hbg, hg, hnc, hcm, hcs, htake⟩⟩).cells (g := g) rfl
      have hr2 := Lib.run_append_grow_string (P := P) w t u ty e i (.int .u8 0) ht hu hi hz ⟨g, 0, none⟩ n cap xs (by rw [hsize]; simpa using hxl) holds s (by omega) (by omega) (by rw [hby]; exact growslice_fits (by omega) (by omega))
      rw [hr] at hr2
      injection hr2 with e1 e2
      subst e1 e2
      exact ⟨w.heap.size, _, _, hr, h1, h2, .inr rfl⟩
theorem wpList_app_str {P : Program} (w : World) {ops : Array Oper} {rest : List Oper} {o : Oper} {a : Act} {Q : Exit → Act → World → Prop} (hgd : o.guard = none) (sl x : Operand) (t u : TypeId)
    (ho : o.op = .call { callee := .builtin .append, args := #[sl, x], argTypes := #[t, u] })
    (e : TypeId) (i : TypeInfo) (ht : P.underlying t = some (.slice e)) (hu : P.underlying u = some .string) (hi : P.info? e = some i) (hz : i.zero = some (.int .u8 0))
    (hsize : i.size = 1) (hby : i.bytes = 1) (g n cap : Nat) (xs : List Value) (hs : a.eval sl = .slice (some ⟨g, 0, none⟩) n cap) (hown : OR w e g n cap xs) (s : ByteArray) (hx : a.eval x = .string s) (hbytes : n + s.size ≤ 140737488355328)
    (h : ∀ g' cap' w', OR w' e g' (n + s.size) cap' (xs ++ Lib.strCells s) → w.grownBy w' (some g) → (g' = g ∨ g' = w.heap.size) → wpList P ops Q rest (a.put o.dst (.slice (some ⟨g', 0, none⟩) (n + s.size) cap')) w') : wpList P ops Q (o :: rest) a w := by
  refine wpList_plain hgd fun K hK => ?_
  obtain ⟨g', cap', w', hr, h2, h3, h4⟩ := run_app_str (P := P) w t u o.type e i ht hu hi hz hsize hby g n cap xs hown s hbytes
  unfold Oper.wp execOp
  simp only [ho, resolve, invoke, builtin, Sem.run_bind, Sem.run_pure, Result.andThen_ok, List.map_toArray, List.map_cons, List.map_nil, hs, hx, hr]
  exact hK _ _ (h g' cap' w' h2 h3 h4)
theorem OR.fr {o : Nat → Prop} {w w' : World} {e : TypeId} {g n cap : Nat} {l : List Value} (h : OR w e g n cap l) (hf : Fr o w w') (ho : ¬ o g) : OR w' e g n cap l :=
  hf.own h (fun k hk => by simp [Value.ownBlock] at hk; subst hk; exact ho)
theorem row_ne {w : World} {b b' : Nat} {e e' : TypeId} {n n' : Nat} {f f' : Nat → Value} (h : w.rowIs b e n f) (h' : w.rowIs b' e' n' f') (hne : e ≠ e') : b ≠ b' := by
  rintro rfl
  obtain ⟨c, hc, _⟩ := h
  obtain ⟨c', hc', _⟩ := h'
  rw [hc] at hc'
  simp at hc'
  exact hne hc'.2
theorem OR.ne {w : World} {b' : Nat} {e e' : TypeId} {g n cap n' : Nat} {l : List Value} {f' : Nat → Value} (h : OR w e g n cap l) (h' : w.rowIs b' e' n' f') (hne : e ≠ e') : g ≠ b' := by
  obtain ⟨_, h1 | ⟨g', cap', cur, h1, _, hg, _⟩⟩ := h
  · simp at h1
  · simp at h1
    obtain ⟨rfl, _⟩ := h1
    rintro rfl
    obtain ⟨c', hc', _⟩ := h'
    rw [hg] at hc'
    simp at hc'
    exact hne hc'.2
def FX (fl : UInt8) (st en : ByteArray) (b : Value) (str : ByteArray) (pos : Nat) (has ch : Bool) : Nat → Value
  | 0 => .int .u8 fl.toNat
  | 1 => .string st
  | 2 => .string en
  | 3 => b
  | 4 => .string str
  | 5 => .int .i64 str.size
  | 6 => .int .i64 pos
  | 7 => .bool has
  | _ => .bool ch
structure SX (w0 w : World) (p : Nat) (fl : UInt8) (st en str : ByteArray) (pos : Nat) (has ch : Bool) (buf : List UInt8) (g cap : Nat) : Prop where
  row : w.rowIs p 28 9 (FX fl st en (.slice (some ⟨g, 0, none⟩) buf.length cap) str pos has ch)
  own : OR w 5 g buf.length cap (bs buf)
  bel : Below w0.heap.size w0 w
  lp : w0.heap.size ≤ p
  lg : w0.heap.size ≤ g
section
variable {w0 w : World} {p : Nat} {fl : UInt8} {st en str : ByteArray} {pos : Nat} {has ch : Bool} {buf : List UInt8} {g cap : Nat}
theorem SX.drewN (h : SX w0 w p fl st en str pos has ch buf g cap) (n : Nat) : SX w0 (w.drewN n) p fl st en str pos has ch buf g cap :=
  ⟨h.row, h.own, ⟨h.bel.os, h.bel.tape, h.bel.output, h.bel.size, h.bel.block⟩, h.lp, h.lg⟩
theorem SX.ne (h : SX w0 w p fl st en str pos has ch buf g cap) : g ≠ p := OR.ne h.own h.row (by decide)
theorem SX.setCh (h : SX w0 w p fl st en str pos has ch buf g cap) (b : Bool) : SX w0 (w.setCell ⟨p, 8, none⟩ (.bool b)) p fl st en str pos has b buf g cap :=
  ⟨(h.row.set 8 _).congr (fun i hi => by match i, hi with | 0, _ | 1, _ | 2, _ | 3, _ | 4, _ | 5, _ | 6, _ | 7, _ | 8, _ => rfl), OR.setCell h.own (fun e => h.ne e.symm) _, h.bel.setCell h.lp _, h.lp, h.lg⟩
theorem SX.setHas (h : SX w0 w p fl st en str pos has ch buf g cap) (b : Bool) : SX w0 (w.setCell ⟨p, 7, none⟩ (.bool b)) p fl st en str pos b ch buf g cap :=
  ⟨(h.row.set 7 _).congr (fun i hi => by match i, hi with | 0, _ | 1, _ | 2, _ | 3, _ | 4, _ | 5, _ | 6, _ | 7, _ | 8, _ => rfl), OR.setCell h.own (fun e => h.ne e.symm) _, h.bel.setCell h.lp _, h.lp, h.lg⟩
theorem SX.setPos (h : SX w0 w p fl st en str pos has ch buf g cap) (q : Nat) : SX w0 (w.setCell ⟨p, 6, none⟩ (.int .i64 q)) p fl st en str q has ch buf g cap :=
  ⟨(h.row.set 6 _).congr (fun i hi => by match i, hi with | 0, _ | 1, _ | 2, _ | 3, _ | 4, _ | 5, _ | 6, _ | 7, _ | 8, _ => rfl), OR.setCell h.own (fun e => h.ne e.symm) _, h.bel.setCell h.lp _, h.lp, h.lg⟩
theorem SX.app (h : SX w0 w p fl st en str pos has ch buf g cap) {w1 : World} {g1 cap1 : Nat} {more : List UInt8} (hg : w.grownBy w1 (some g)) (ho : OR w1 5 g1 (buf ++ more).length cap1 (bs (buf ++ more))) (hl : g1 = g ∨ w.heap.size ≤ g1) :
    SX w0 (w1.setCell ⟨p, 3, none⟩ (.slice (some ⟨g1, 0, none⟩) (buf ++ more).length cap1)) p fl st en str pos has ch (buf ++ more) g1 cap1 := by
  have F : Fr (fun x => x = g) w w1 := Fr.grown (Fr.refl _ _) hg (fun k hk => .inl (by injection hk with hk; exact hk.symm))
  have r1 : w1.rowIs p 28 9 (FX fl st en (.slice (some ⟨g, 0, none⟩) buf.length cap) str pos has ch) := F.row h.row (fun e => h.ne e.symm)
  have hb : Below w0.heap.size w0 w1 := h.bel.trans (F.below h.bel.size (fun x hx => by subst hx; exact h.lg))
  have hlg : w0.heap.size ≤ g1 := by
    rcases hl with rfl | h1
    · exact h.lg
    · have := h.bel.size; omega
  exact ⟨(r1.set 3 _).congr (fun i hi => by match i, hi with | 0, _ | 1, _ | 2, _ | 3, _ | 4, _ | 5, _ | 6, _ | 7, _ | 8, _ => rfl), OR.setCell ho (fun e => OR.ne ho r1 (by decide) e.symm) _, hb.setCell h.lp _, h.lp, hlg⟩
end
end Go.Proofs.Ytkmjoliablpmbaa
