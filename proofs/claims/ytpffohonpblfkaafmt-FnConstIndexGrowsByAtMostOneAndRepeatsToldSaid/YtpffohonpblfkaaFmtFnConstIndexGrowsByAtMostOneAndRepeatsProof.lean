/-
  For every input that can be read, the given law FnConstIndexGrowsByAtMostOneAndRepeats returns true and leaves its arguments as they were.
  The walk is our own; the frame around it is written by our program after the kit's proof-skeleton.
-/
import Derived.Test.YtpffohonpblfkaaFmtCards
import Derived.Stop.JoinedTold
import Derived.SevenToldRow
import Derived.Test.YtpffohonpblfkaaFmtHp
import Derived.Test.YtpffohonpblfkaaFmtGrow1
import Derived.Test.YtpffohonpblfkaaFmtGrow2
import Derived.Test.YtpffohonpblfkaaFmtGrow3
import Derived.Test.YtpffohonpblfkaaFmtGrow4
namespace Go.Proofs.YtpffohonpblfkaaFmt.fnConstIndexGrowsByAtMostOneAndRepeats
open Go.ChangeShapes Go.WideShapes Go.ChangeAt Go.RowKit
open Go.ChangeMaps (open_string shut_string)
open Go.Extern.Stop Go.Stop Go.Extern
set_option linter.unusedVariables false

theorem own : ownKnob Tryf.prog.godebug = none := by kernel_rfl
theorem laidOut : laidOutB Tryf.prog = true := by kernel_rfl

theorem walk (a0 : Option Addr) (n0 c0 : Nat) (z0 : List Bool) (a1 : Option Addr) (n1 c1 : Nat) (z1 : List Nat) (a2 : Option Addr) (n2 c2 : Nat) (z2 : List ByteArray) (w : World) (w0 : CameBools w a0 n0 c0 z0) (w1 : CameFloats w a1 n1 c1 z1) (w2 : CameStrs w a2 n2 c2 z2) :
    Calls Tryf.prog 3 #[.slice a0 n0 c0, .slice a1 n1 c1, .slice a2 n2 c2] w fun e w' => e = .returned (.bool true) ∧ Below w.heap.size w w' := by
  by_cases t1 : n1 < n0
  · by_cases t2 : n2 < n1
    · exact law3_4 a0 n0 c0 (fun i => z0.getD i false) a1 n1 c1 (fun i => z1.getD i 0) a2 n2 c2 (fun i => z2.getD i ByteArray.empty) w w0.2 w1.2.1 w2.2.1 t1 t2
    · exact law3_3 a0 n0 c0 (fun i => z0.getD i false) a1 n1 c1 (fun i => z1.getD i 0) a2 n2 c2 (fun i => z2.getD i ByteArray.empty) w w0.2 w1.2.1 w2.2.1 t1 t2
  · by_cases t2 : n2 < n0
    · exact law3_2 a0 n0 c0 (fun i => z0.getD i false) a1 n1 c1 (fun i => z1.getD i 0) a2 n2 c2 (fun i => z2.getD i ByteArray.empty) w w0.2 w1.2.1 w2.2.1 t1 t2
    · exact law3_1 a0 n0 c0 (fun i => z0.getD i false) a1 n1 c1 (fun i => z1.getD i 0) a2 n2 c2 (fun i => z2.getD i ByteArray.empty) w w0.2 w1.2.1 w2.2.1 t1 t2

set_option maxRecDepth 100000 in
theorem lifted (os : Os) (started : os.Started) (H : Type) (enc : TypeId × Value → H) :
    ReturnsInTold none {} Tryf.checked os 3 .any Input.okWide ((OpenSpec.ofChange Rows.fnConstIndexGrowsByAtMostOneAndRepeatsSpec).preRow enc Tryf.prog Tryf.f3 [] false []) (fun F => ((OpenSpec.ofChange Rows.fnConstIndexGrowsByAtMostOneAndRepeatsSpec).at F).post enc Tryf.prog Tryf.f3 false true false false) (aloneAtReturn Tryf.prog) nothingAlways := by
  refine returnsInTold_of_row (C := Tryf.checked) (s := (OpenSpec.ofChange Rows.fnConstIndexGrowsByAtMostOneAndRepeatsSpec)) (by kernel_rfl) own started (by kernel_rfl) Tryf.func3
    (OpenSpec.witness_stopped (enc := enc) (C := Tryf.checked) false ⟨#[], #[.slice none 0 0, .slice none 0 0, .slice none 0 0], []⟩ 8 (by kernel_rfl) (by kernel_rfl) (by kernel_rfl) (by kernel_rfl)) ?_
  intro F W base args ds gs before _ _ hval0 hW _ _ _ _ _
  have hval : ∀ (j : Nat) t v, Tryf.f3.params[j]? = some t → args[j]? = some v → Value.okWide Tryf.prog W .any base t v := hval0
  have hW' := hW
  obtain ⟨p, q, hA0, hV, rfl, hfz, hnd⟩ := hW
  have hA : DataW.TrodAll enc Tryf.prog W 0 (fun _ => true) true Tryf.f3.params.toList args.toList ds p := hA0
  rw [Tryf.params3] at hA hval
  obtain ⟨v0, vs0, d0, ds0, p0, q0, hargs, rfl, rfl, h0, r0⟩ := trodAll_cons hA
  obtain ⟨v1, vs1, d1, ds1, p1, q1, rfl, rfl, rfl, h1, r1⟩ := trodAll_cons r0
  obtain ⟨v2, vs2, d2, ds2, p2, q2, rfl, rfl, rfl, h2, r2⟩ := trodAll_cons r1
  obtain ⟨rfl, rfl, rfl⟩ := trodAll_nil r2
  obtain rfl : args = #[v0, v1, v2] := by cases args; simp_all
  obtain ⟨rfl, rfl⟩ := trodVars_none hV
  obtain ⟨a0, n0, c0, rfl⟩ := okWide_slice Tryf.underlying22 (hval 0 22 v0 rfl rfl)
  have k0 := h0
  have lt0 : ∀ x ∈ p0, x.block < W.heap.size := by obtain ⟨m, hm⟩ := k0; exact DataW.trod_lt m _ _ _ hm
  obtain ⟨z0, w0⟩ := (fun ⟨_, hf⟩ => came_bools Tryf.underlying22 Tryf.underlying4 (by kernel_rfl) hf : (∃ fuel, _) → _) h0
  obtain ⟨a1, n1, c1, rfl⟩ := okWide_slice Tryf.underlying23 (hval 1 23 v1 rfl rfl)
  have k1 := h1
  have lt1 : ∀ x ∈ p1, x.block < W.heap.size := by obtain ⟨m, hm⟩ := k1; exact DataW.trod_lt m _ _ _ hm
  obtain ⟨z1, w1⟩ := (fun ⟨_, hf⟩ => came_floats Tryf.underlying23 Tryf.underlying34 (by kernel_rfl) hf : (∃ fuel, _) → _) h1
  obtain ⟨a2, n2, c2, rfl⟩ := okWide_slice Tryf.underlying24 (hval 2 24 v2 rfl rfl)
  have k2 := h2
  have lt2 : ∀ x ∈ p2, x.block < W.heap.size := by obtain ⟨m, hm⟩ := k2; exact DataW.trod_lt m _ _ _ hm
  obtain ⟨z2, w2⟩ := (fun ⟨_, hf⟩ => came_strs Tryf.underlying24 Tryf.underlying9 (by kernel_rfl) hf : (∃ fuel, _) → _) h2
  clear hA0 hval0
  refine (walk a0 n0 c0 z0 a1 n1 c1 z1 a2 n2 c2 z2 W w0 w1 w2).mono fun e W' ⟨he, bel⟩ => ?_
  subst he
  exact ⟨_, rfl, _, _, _, [], _, [], hW', trodAll_mk1 (shut_bool Tryf.underlying4 _), (trodAll_cons_mk (Below.trod laidOut (by kernel_rfl) (of_decide_eq_true (by kernel_rfl)) k0 bel lt0) (trodAll_cons_mk (Below.trod laidOut (by kernel_rfl) (of_decide_eq_true (by kernel_rfl)) k1 bel lt1) (trodAll_cons_mk (Below.trod laidOut (by kernel_rfl) (of_decide_eq_true (by kernel_rfl)) k2 bel lt2) trodAll_mk0))), rfl, bel.frame _, fun h => by cases h⟩

theorem stops_ : Tryf.pinned.checked.prog.stops = ["fmt.Sprintf, its operands' methods called", "fmt.Sprint"] := by kernel_rfl
theorem stopKnobs_ : Tryf.pinned.checked.prog.stopKnobs = [] := by kernel_rfl
theorem quiet_ (os : Os) : Stop.quiet Tryf.pinned.checked.prog os := by
  intro k hk
  rw [stopKnobs_] at hk
  cases hk

theorem over : Claim7.holds Tryf.pinned (.plain (OpenSpec.ofChange Rows.fnConstIndexGrowsByAtMostOneAndRepeatsSpec)) (Claim7.toldRow Rows.fnConstIndexGrowsByAtMostOneAndRepeatsRow (true, "0d902a02b70ff3226d1b341538aa924d0d83510f93b8ac2b4db592479ae4c629") true false) :=
  Claim7.holds_of_told_any 3 Tryf.f3 "fmt.Sprintf, its operands' methods called" ["fmt.Sprint"] [] _ _ _ (by kernel_rfl) rfl rfl rfl laidOut (by kernel_rfl) rfl ⟨rfl, rfl, rfl, rfl, rfl, rfl, rfl⟩ rfl rfl (by kernel_rfl) (by kernel_rfl) Tryf.func3 (by kernel_rfl)
    (of_decide_eq_true (by kernel_rfl)) (by first | exact of_decide_eq_true (by kernel_rfl) | (unfold Func.isWrapper; first | (rw [if_pos (by decide +kernel)]; kernel_rfl) | (rw [if_neg (by decide +kernel)]; exact ⟨rfl, rfl⟩))) stops_.symm rfl stopKnobs_.symm (by kernel_rfl)
    (by kernel_rfl) (by kernel_rfl) (by kernel_rfl) (by kernel_rfl) (by kernel_rfl) (by kernel_rfl) (by kernel_rfl) (by kernel_rfl) (by kernel_rfl) rfl (by kernel_rfl) rfl rfl
    rfl rfl
    rfl (by kernel_rfl) (by kernel_rfl) (by kernel_rfl) (by decide) (by kernel_rfl)
    (OpenClaim.moreEntering_of (by kernel_rfl) (by kernel_rfl) (by kernel_rfl) (by kernel_rfl) (by kernel_rfl) (by kernel_rfl) (by kernel_rfl) (by kernel_rfl) (by kernel_rfl) (by kernel_rfl))
    ⟨_, WideRow.started_initial, quiet_ _⟩
    (fun os started _ H enc _ => lifted os started H enc)

/-- The statement (fmt's text is told by the kit's own Lean function; this law never comes to it). -/
theorem proved : Rows.FnConstIndexGrowsByAtMostOneAndRepeatsToldSaid := over
#print axioms proved
end Go.Proofs.YtpffohonpblfkaaFmt.fnConstIndexGrowsByAtMostOneAndRepeats
