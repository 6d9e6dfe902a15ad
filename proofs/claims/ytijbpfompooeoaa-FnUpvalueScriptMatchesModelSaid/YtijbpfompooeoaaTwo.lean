import Derived.Test.YtijbpfompooeoaaProg
import Derived.Test.YtijbpfompooeoaaHp
import Derived.Test.YtijbpfompooeoaaOr
import Derived.Test.YtijbpfompooeoaaUv
import Derived.Test.YtijbpfompooeoaaHelp
import Derived.Test.YtijbpfompooeoaaState
import Derived.WalkKit
import Derived.WalkSpells
import Derived.WalkLawsBesides
import Derived.Lib.Hide
import Derived.Lib.Builder
import Derived.OpenShut
import Derived.Handy
import Derived.LaidEqlPtr
import Derived.Laws.EntriesVeiled
import Derived.Deep.QuietTactic
import Derived.BigQuiet
import Derived.RegionTactic
import Derived.BigRegion
import Derived.Deep.AppendLies
namespace Go.Proofs.Ytijbpfompooeoaa
open Go.RowKit Go.ChangeShapes Go.Deep
/-- Two upvalues on one register file, and the model's registers beside. -/
structure S2 (w0 w : World) (a b r g d n i j : Nat) (M W : Nat → ByteArray) (ao : ByteArray) (ac : Bool) (bo : ByteArray) (bc : Bool) : Prop where
  ua : UV w a (some ⟨r, 0, none⟩) i ao ac
  ub : UV w b (some ⟨r, 0, none⟩) j bo bc
  ne : a ≠ b
  rg : RG w r g n M
  wt : w.rowIs d 9 n (fun t => .string (W t))
  bel : Below w0.heap.size w0 w
  la : w0.heap.size ≤ a
  lb : w0.heap.size ≤ b
  lr : w0.heap.size ≤ r
  lg : w0.heap.size ≤ g
  ld : w0.heap.size ≤ d
  hi : i < n
  hj : j < n
  hn : n ≤ 65536
theorem row_ne {w : World} {b b' : Nat} {e e' : TypeId} {n n' : Nat} {f f' : Nat → Value} (h : w.rowIs b e n f) (h' : w.rowIs b' e' n' f') (hne : e ≠ e') : b ≠ b' := by
  rintro rfl
  obtain ⟨c, hc, _⟩ := h
  obtain ⟨c', hc', _⟩ := h'
  rw [hc] at hc'
  simp at hc'
  exact hne hc'.2
section
variable {w0 w : World} {a b r g d n i j : Nat} {M W : Nat → ByteArray} {ao bo : ByteArray} {ac bc : Bool}
theorem S2.drewN (h : S2 w0 w a b r g d n i j M W ao ac bo bc) (m : Nat) : S2 w0 (w.drewN m) a b r g d n i j M W ao ac bo bc :=
  ⟨h.ua, h.ub, h.ne, ⟨h.rg.row, h.rg.arr, h.rg.ne⟩, h.wt, below_drewN h.bel m, h.la, h.lb, h.lr, h.lg, h.ld, h.hi, h.hj, h.hn⟩
theorem S2.swap (h : S2 w0 w a b r g d n i j M W ao ac bo bc) : S2 w0 w b a r g d n j i M W bo bc ao ac :=
  ⟨h.ub, h.ua, fun e => h.ne e.symm, h.rg, h.wt, h.bel, h.lb, h.la, h.lr, h.lg, h.ld, h.hj, h.hi, h.hn⟩
theorem S2.dne (h : S2 w0 w a b r g d n i j M W ao ac bo bc) : d ≠ a ∧ d ≠ b ∧ d ≠ r ∧ d ≠ g := by
  obtain ⟨t, hr⟩ := h.rg.row
  exact ⟨row_ne h.wt h.ua (by decide), row_ne h.wt h.ub (by decide), row_ne h.wt hr (by decide), row_ne h.wt h.rg.arr (by decide)⟩
theorem S2.val26 (h : S2 w0 w a b r g d n i j M W ao ac bo bc) : Calls Try.prog 26 #[.pointer (some ⟨a, 0, none⟩)] w fun e w' => e = .returned (.iface 44 (.string (vl M i ao ac))) ∧ ∃ m, w' = w.drewN m := by
  cases ac
  · exact value_reg h.ua h.rg h.hn i h.hi rfl
  · exact value_own h.ua rfl
theorem S2.close (h : S2 w0 w a b r g d n i j M W ao ac bo bc) : Calls Try.prog 14 #[.pointer (some ⟨a, 0, none⟩)] w fun e w' => e = .returned (.tuple #[]) ∧ S2 w0 w' a b r g d n i j M W (vl M i ao ac) true bo bc :=
  (close_uv h.ua h.val26).mono fun e w' ⟨he, h1, h2⟩ => by
    have hne := uv_ne h.ua h.rg
    have hd := h.dne
    exact ⟨he, h1, h.ub.fr h2 (fun e => h.ne e.symm), h.ne, h.rg.fr h2 (fun e => hne.1 e.symm) (fun e => hne.2 e.symm), h2.row h.wt hd.1, Fr.bel h.bel h2 (fun x hx => by subst hx; exact h.la), h.la, h.lb, h.lr, h.lg, h.ld, h.hi, h.hj, h.hn⟩
theorem S2.regset (h : S2 w0 w a b r g d n i j M W ao ac bo bc) (k : Nat) (hk : k < n) (s : ByteArray) : Calls Try.prog 15 #[.pointer (some ⟨r, 0, none⟩), .int .i64 k, .string s] w fun e w' => e = .returned (.tuple #[]) ∧ S2 w0 w' a b r g d n i j (upd M k s) W ao ac bo bc :=
  (reg_set h.rg h.hn k hk s).mono fun e w' ⟨he, h1, h2⟩ => by
    have ha := uv_ne h.ua h.rg
    have hb := uv_ne h.ub h.rg
    have hd := h.dne
    exact ⟨he, h.ua.fr h2 ha.2, h.ub.fr h2 hb.2, h.ne, h1, h2.row h.wt hd.2.2.2, Fr.bel h.bel h2 (fun x hx => by subst hx; exact h.lg), h.la, h.lb, h.lr, h.lg, h.ld, h.hi, h.hj, h.hn⟩
theorem S2.set_c (h : S2 w0 w a b r g d n i j M W ao true bo bc) (s : ByteArray) : Calls Try.prog 13 #[.pointer (some ⟨a, 0, none⟩), .string s] w fun e w' => e = .returned (.tuple #[]) ∧ S2 w0 w' a b r g d n i j M W s true bo bc :=
  (set_own h.ua (fun a ha => by cases ha; rfl) rfl s).mono fun e w' ⟨he, h1, h2⟩ => by
    have hne := uv_ne h.ua h.rg
    have hd := h.dne
    exact ⟨he, h1, h.ub.fr h2 (fun e => h.ne e.symm), h.ne, h.rg.fr h2 (fun e => hne.1 e.symm) (fun e => hne.2 e.symm), h2.row h.wt hd.1, Fr.bel h.bel h2 (fun x hx => by subst hx; exact h.la), h.la, h.lb, h.lr, h.lg, h.ld, h.hi, h.hj, h.hn⟩
theorem S2.set_o (h : S2 w0 w a b r g d n i j M W ao false bo bc) (s : ByteArray) : Calls Try.prog 13 #[.pointer (some ⟨a, 0, none⟩), .string s] w fun e w' => e = .returned (.tuple #[]) ∧ S2 w0 w' a b r g d n i j (upd M i s) W ao false bo bc :=
  (set_reg h.ua h.rg h.hn i h.hi rfl s).mono fun e w' ⟨he, h1, h2⟩ => by
    have ha := uv_ne h.ua h.rg
    have hb := uv_ne h.ub h.rg
    have hd := h.dne
    exact ⟨he, h.ua.fr h2 (fun e => by rcases e with e | e; exact ha.1 e; exact ha.2 e), h.ub.fr h2 (fun e => by rcases e with e | e; exact hb.1 e; exact hb.2 e), h.ne, h1, h2.row h.wt (fun e => by rcases e with e | e; exact hd.2.2.1 e; exact hd.2.2.2 e), Fr.bel h.bel h2 (fun x hx => by rcases hx with hx | hx; subst hx; exact h.lr; subst hx; exact h.lg), h.la, h.lb, h.lr, h.lg, h.ld, h.hi, h.hj, h.hn⟩
/-- The model's own write. -/
theorem S2.want (h : S2 w0 w a b r g d n i j M W ao ac bo bc) (k : Nat) (s : ByteArray) : S2 w0 (w.setCell ⟨d, k, none⟩ (.string s)) a b r g d n i j M (upd W k s) ao ac bo bc := by
  have hd := h.dne
  have hf : Fr (fun x => x = d) w (w.setCell ⟨d, k, none⟩ (.string s)) := Fr.setCell (o := fun x => x = d) (Fr.refl _ w) (p := ⟨d, k, none⟩) (.inl rfl) _
  exact ⟨h.ua.fr hf (fun e => hd.1 e.symm), h.ub.fr hf (fun e => hd.2.1 e.symm), h.ne, h.rg.fr hf (fun e => hd.2.2.1 e.symm) (fun e => hd.2.2.2 e.symm), (World.rowIs.set h.wt k (.string s)).congr (fun t ht => by by_cases h1 : t = k <;> simp [upd, h1]), Fr.bel h.bel hf (fun x hx => by subst hx; exact h.ld), h.la, h.lb, h.lr, h.lg, h.ld, h.hi, h.hj, h.hn⟩
theorem S2.agrees (h : S2 w0 w a b r g d n i j M M ao ac bo bc) : Calls Try.prog 16 #[.pointer (some ⟨a, 0, none⟩), .bool ac, .string ao, .slice (some ⟨d, 0, none⟩) n n, .int .i64 i] w fun e w' => e = .returned (.bool true) ∧ S2 w0 w' a b r g d n i j M M ao ac bo bc := by
  have c19 := is_closed h.ua (fun a ha => by cases ha; rfl)
  have c20 := value_str h.val26
  have d0 := World.rowIs.cell h.wt h.hi
  have hi := h.hi
  have hn := h.hn
  have H := Lib.hid h
  clear h
  have e1 : ((M i).toList == (M i).toList) = true := by simp
  have e2 : (ao.toList == ao.toList) = true := by simp
  cases ac
  all_goals
    simp only [vl, if_true, Bool.false_eq_true, if_false] at c20
    go_enter Try.func16, Try.ntmps16
    go_wp2_with fail
    refine c19.mono ?_
    rintro e w' ⟨rfl, rfl⟩
    go_wp2_with fail
    refine c20.mono ?_
    rintro e w' ⟨rfl, m, rfl⟩
    clear c19 c20
    go_wp2
    go_ret
    exact ⟨rfl, H.out.drewN m⟩
end
end Go.Proofs.Ytijbpfompooeoaa
