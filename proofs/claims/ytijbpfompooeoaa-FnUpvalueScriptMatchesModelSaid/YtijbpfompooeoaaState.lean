import Derived.Test.YtijbpfompooeoaaProg
import Derived.Test.YtijbpfompooeoaaHp
import Derived.Test.YtijbpfompooeoaaOr
import Derived.Test.YtijbpfompooeoaaUv
import Derived.Test.YtijbpfompooeoaaHelp
import Derived.WalkKit
import Derived.WalkSpells
import Derived.WalkLawsBesides
import Derived.Lib.Hide
import Derived.Lib.Builder
import Derived.OpenShut
import Derived.Handy
import Derived.LaidEqlPtr
import Derived.Laws.EntriesVeiled
import Derived.Deep.QuietTactic
import Derived.BigQuiet
import Derived.RegionTactic
import Derived.BigRegion
import Derived.Deep.AppendLies
namespace Go.Proofs.Ytijbpfompooeoaa
open Go.RowKit Go.ChangeShapes Go.Deep
/-- An upvalue on register k of a register file, all of them new since w0. -/
structure S (w0 w : World) (u r g n k : Nat) (M : Nat → ByteArray) (own : ByteArray) (c : Bool) : Prop where
  uv : UV w u (some ⟨r, 0, none⟩) k own c
  rg : RG w r g n M
  bel : Below w0.heap.size w0 w
  bu : w0.heap.size ≤ u
  br : w0.heap.size ≤ r
  bg : w0.heap.size ≤ g
  hk : k < n
  hn : n ≤ 65536
def vl (M : Nat → ByteArray) (k : Nat) (own : ByteArray) (c : Bool) : ByteArray := if c then own else M k
section
variable {w0 w : World} {u r g n k : Nat} {M : Nat → ByteArray} {own : ByteArray} {c : Bool}
theorem Fr.bel {o : Nat → Prop} {w' : World} (hb : Below w0.heap.size w0 w) (h : Fr o w w') (ho : ∀ x, o x → w0.heap.size ≤ x) : Below w0.heap.size w0 w' := hb.trans (h.below hb.size ho)
theorem S.val26 (h : S w0 w u r g n k M own c) : Calls Try.prog 26 #[.pointer (some ⟨u, 0, none⟩)] w fun e w' => e = .returned (.iface 44 (.string (vl M k own c))) ∧ ∃ m, w' = w.drewN m := by
  cases c
  · exact value_reg h.uv h.rg h.hn k h.hk rfl
  · exact value_own h.uv rfl
theorem S.drewN (h : S w0 w u r g n k M own c) (m : Nat) : S w0 (w.drewN m) u r g n k M own c :=
  ⟨h.uv, ⟨h.rg.row, h.rg.arr, h.rg.ne⟩, below_drewN h.bel m, h.bu, h.br, h.bg, h.hk, h.hn⟩
theorem S.value (h : S w0 w u r g n k M own c) : Calls Try.prog 20 #[.pointer (some ⟨u, 0, none⟩)] w fun e w' => e = .returned (.tuple #[.string (vl M k own c), .bool true]) ∧ S w0 w' u r g n k M own c :=
  (value_str h.val26).mono fun _ _ ⟨he, m, hw⟩ => ⟨he, hw ▸ h.drewN m⟩
theorem S.close (h : S w0 w u r g n k M own c) : Calls Try.prog 14 #[.pointer (some ⟨u, 0, none⟩)] w fun e w' => e = .returned (.tuple #[]) ∧ S w0 w' u r g n k M (vl M k own c) true :=
  (close_uv h.uv h.val26).mono fun e w' ⟨he, h1, h2⟩ => by
    have hne := uv_ne h.uv h.rg
    exact ⟨he, h1, h.rg.fr h2 (fun e => hne.1 e.symm) (fun e => hne.2 e.symm), Fr.bel h.bel h2 (fun x hx => by subst hx; exact h.bu), h.bu, h.br, h.bg, h.hk, h.hn⟩
theorem S.closed (h : S w0 w u r g n k M own c) : Calls Try.prog 19 #[.pointer (some ⟨u, 0, none⟩)] w fun e w' => e = .returned (.bool c) ∧ w = w' := by
  have := is_closed h.uv (fun a ha => by cases ha; rfl)
  simpa using this
theorem S.regset (h : S w0 w u r g n k M own c) (i : Nat) (hi : i < n) (s : ByteArray) : Calls Try.prog 15 #[.pointer (some ⟨r, 0, none⟩), .int .i64 i, .string s] w fun e w' => e = .returned (.tuple #[]) ∧ S w0 w' u r g n k (upd M i s) own c :=
  (reg_set h.rg h.hn i hi s).mono fun e w' ⟨he, h1, h2⟩ => by
    have hne := uv_ne h.uv h.rg
    exact ⟨he, h.uv.fr h2 hne.2, h1, Fr.bel h.bel h2 (fun x hx => by subst hx; exact h.bg), h.bu, h.br, h.bg, h.hk, h.hn⟩
theorem S.set_c (h : S w0 w u r g n k M own true) (s : ByteArray) : Calls Try.prog 13 #[.pointer (some ⟨u, 0, none⟩), .string s] w fun e w' => e = .returned (.tuple #[]) ∧ S w0 w' u r g n k M s true :=
  (set_own h.uv (fun a ha => by cases ha; rfl) rfl s).mono fun e w' ⟨he, h1, h2⟩ => by
    have hne := uv_ne h.uv h.rg
    exact ⟨he, h1, h.rg.fr h2 (fun e => hne.1 e.symm) (fun e => hne.2 e.symm), Fr.bel h.bel h2 (fun x hx => by subst hx; exact h.bu), h.bu, h.br, h.bg, h.hk, h.hn⟩
theorem S.set_o (h : S w0 w u r g n k M own false) (s : ByteArray) : Calls Try.prog 13 #[.pointer (some ⟨u, 0, none⟩), .string s] w fun e w' => e = .returned (.tuple #[]) ∧ S w0 w' u r g n k (upd M k s) own false :=
  (set_reg h.uv h.rg h.hn k h.hk rfl s).mono fun e w' ⟨he, h1, h2⟩ => by
    have hne := uv_ne h.uv h.rg
    exact ⟨he, h.uv.fr h2 (fun e => by rcases e with e | e; exact hne.1 e; exact hne.2 e), h1, Fr.bel h.bel h2 (fun x hx => by rcases hx with hx | hx; subst hx; exact h.br; subst hx; exact h.bg), h.bu, h.br, h.bg, h.hk, h.hn⟩
theorem S.regget (h : S w0 w u r g n k M own c) (i : Nat) (hi : i < n) : Calls Try.prog 22 #[.pointer (some ⟨r, 0, none⟩), .int .i64 i] w fun e w' => e = .returned (.tuple #[.string (M i), .bool true]) ∧ w = w' := reg_get h.rg h.hn i hi
theorem S.made {w1 : World} (hrg : RG w r g n M) (hb : Below w0.heap.size w0 w) (hr : w0.heap.size ≤ r) (hg : w0.heap.size ≤ g) (hk : k < n) (hn : n ≤ 65536) (hu : UV w1 u (some ⟨r, 0, none⟩) k own c) (hb1 : Below w.heap.size w w1) (hlu : w.heap.size ≤ u) : S w0 w1 u r g n k M own c :=
  ⟨hu, hrg.below hb1, hb.trans (hb1.mono hb.size), Nat.le_trans hb.size hlu, hr, hg, hk, hn⟩
end
end Go.Proofs.Ytijbpfompooeoaa
