/-
  For every 32-bit instruction the given law FnToStringHeaderExact returns true and leaves its argument as it was. Conditions: the table opProps holds at the call what the program's own initialiser lays (tied by the given tie); fmt's texts are told by the kit's own Lean function.
-/
import Derived.Test.YtddojkdaajfmcaaFmtCards
import Derived.Test.YtddojkdaajfmcaaFmtTie
import Derived.Test.YtddojkdaajfmcaaFmtLaid
import Derived.Test.YtddojkdaajfmcaaFmtLaw
import Derived.Stop.JoinedTold
import Derived.SevenToldRow
import Derived.SevenTiedAt
import Derived.Deep.DeepWitnessRef
import Derived.Carry
namespace Go.Proofs.YtddojkdaajfmcaaFmt.fnToStringHeaderExact
open Go.ChangeShapes Go.WideShapes Go.ChangeAt Go.RowKit Go.Deep
open Go.Extern.Stop Go.Stop Go.Extern
set_option linter.unusedVariables false
theorem own : ownKnob Tryf.prog.godebug = none := by kernel_rfl
theorem laidOut : laidOutB Tryf.prog = true := by kernel_rfl
theorem var?_below {P : Program} {B g : Nat} {W W' : World} {n : String} {cs : Array Value} (h : Below B W W') (hg : P.globalNamed n = some g) (hgB : g < B) (hv : W.var? P n = some cs) : W'.var? P n = some cs := by
  unfold World.var? at hv ⊢
  simp only [hg, Option.bind_some] at hv ⊢
  rw [h.block g hgB]
  exact hv
/-- The door's own heap meets the condition. -/
theorem door_met (os : Os) (args : Array Value) : laidMetH Tryf.prog Rows.fnToStringHeaderExactRow.laid ((World.doorLaid Tryf.prog 56 os).forCall (fun _ _ => 0) ⟨#[], args, []⟩).memory :=
  laidMetH_of_parts3 (fuel := 8) (laidMet_of_run' 8 (by kernel_rfl) (by kernel_rfl)) (by kernel_rfl) (by kernel_rfl)
set_option maxRecDepth 100000 in
theorem lifted (os : Os) (started : os.Started) (H : Type) (enc : TypeId × Value → H) :
    ReturnsInTold none {} Tryf.checked os 3 .any Input.okWide ((OpenSpec.ofChange Rows.fnToStringHeaderExactSpec).preRow enc Tryf.prog Tryf.f3 [] false Rows.fnToStringHeaderExactRow.laid) (fun F => ((OpenSpec.ofChange Rows.fnToStringHeaderExactSpec).at F).post enc Tryf.prog Tryf.f3 false true false false) (aloneAtReturn Tryf.prog) nothingAlways := by
  refine returnsInTold_of_row (C := Tryf.checked) (s := (OpenSpec.ofChange Rows.fnToStringHeaderExactSpec)) (by kernel_rfl) own started (by kernel_rfl) Tryf.func3
    (OpenSpec.witness_stopped_atRef (enc := enc) (C := Tryf.checked) false (World.doorLaid Tryf.prog 56 os) #[.int .u32 0] rfl (by kernel_rfl) (by kernel_rfl) (by kernel_rfl)
      (OpenSpec.preRow_of_B rfl 8 (by kernel_rfl) (by kernel_rfl) (door_met os _))) ?_
  intro F W base args ds gs before _ hF hval0 hW _ _ _ hL _
  have hval : ∀ (j : Nat) t v, Tryf.f3.params[j]? = some t → args[j]? = some v → Value.okWide Tryf.prog W .any base t v := hval0
  have hW' := hW
  obtain ⟨p, q, hA0, hV0, rfl, hfz, hnd⟩ := hW
  have hA : DataW.TrodAll enc Tryf.prog W 0 (fun _ => true) true Tryf.f3.params.toList args.toList ds p := hA0
  have hV : DataW.TrodVars enc Tryf.prog W (fun _ => true) ["github.com/yuin/gopher-lua.opProps"] gs q := hV0
  rw [Tryf.params3] at hA hval
  obtain ⟨v0, d0, rfl, rfl, h0⟩ := trodAll_one hA
  obtain ⟨x, rfl, rfl, rfl, wx⟩ := open_int Tryf.underlying22 (hval 0 22 v0 rfl rfl) h0
  obtain ⟨g, t, cs, fuel, d, p', rfl, hg, ht, hvar, hd, rfl⟩ := trodVars_one hV
  obtain ⟨b, off, cap, HO⟩ := ot_of_laid hL
  have hx := bounds_u32 wx
  clear hA0 hval0
  refine (law F x ⟨hx.1, hx.2⟩ W hF b off cap HO).mono fun e W' ⟨he, bel⟩ => ?_
  subst he
  have hgt : g = 0 := Option.some.inj (hg.symm.trans gTab)
  subst hgt
  obtain rfl := Option.some.inj (gTabType.symm.trans ht)
  have hv : ∃ v, cs.toList = [v] ∧ v.cells.toList = [v] := by
    obtain ⟨fs, hs, hone, hC, _⟩ := hone35
    rcases open_slice_fields Tryf.underlying36 hs hone hC hd with ⟨h, _⟩ | ⟨a, len, cap', m, D, Pl, h, _⟩
    · exact ⟨_, h, rfl⟩
    · exact ⟨_, h, rfl⟩
  obtain ⟨v, hv1, hv2⟩ := hv
  have hT : DataW.Trod enc Tryf.prog W 0 (fun _ => true) true 36 v d p' := ⟨fuel, by rw [hv2, ← hv1]; exact hd⟩
  have hlt : ∀ y ∈ p', y.block < W.heap.size := DataW.trod_lt fuel _ _ _ hd
  obtain ⟨fuel', hT'⟩ := Below.trod laidOut (by kernel_rfl) (of_decide_eq_true (by kernel_rfl)) hT bel hlt
  rw [hv2, ← hv1] at hT'
  have hb : 0 < W.heap.size := by
    have := World.block_lt_of_cell? W _ HO.g
    exact this
  exact ⟨_, rfl, _, _, _, [], _, _, hW', trodAll_mk1 (shut_bool Tryf.underlying4 _), trodAll_mk1 (shut_int Tryf.underlying22 wx), trodVars_mk1 hg ht (var?_below bel hg hb hvar) hT', bel.frame _, fun h => by cases h⟩
theorem stops_ : Tryf.pinned.checked.prog.stops = ["fmt.Sprintf"] := by kernel_rfl
theorem stopKnobs_ : Tryf.pinned.checked.prog.stopKnobs = [] := by kernel_rfl
theorem quiet_ (os : Os) : Stop.quiet Tryf.pinned.checked.prog os := by
  intro k hk
  rw [stopKnobs_] at hk
  cases hk
theorem over : Claim7.holds Tryf.pinned (.plain (OpenSpec.ofChange Rows.fnToStringHeaderExactSpec)) (Claim7.toldTiedRowAt .later Rows.fnToStringHeaderExactRow (true, "0ba24ae5254fc2290d1fb73ce65fc6a73b4e7e5e93e04a2cc07fec5257820eee") false false [.widerDeep] true) :=
  Claim7.holds_of_told_tied_any_at .later 3 Tryf.f3 "fmt.Sprintf" [] [] _ _ _ _ _ (by kernel_rfl) rfl rfl rfl laidOut (by kernel_rfl) rfl ⟨rfl, rfl, rfl, rfl, rfl, rfl, rfl⟩ rfl rfl (by kernel_rfl) (by kernel_rfl) Tryf.func3 (by kernel_rfl)
    (of_decide_eq_true (by kernel_rfl)) (by first | exact of_decide_eq_true (by kernel_rfl) | (unfold Func.isWrapper; first | (rw [if_pos (by decide +kernel)]; kernel_rfl) | (rw [if_neg (by decide +kernel)]; exact ⟨rfl, rfl⟩))) stops_.symm rfl stopKnobs_.symm (by kernel_rfl)
    (by kernel_rfl) (by kernel_rfl) (by kernel_rfl) (by kernel_rfl) (by kernel_rfl) (by kernel_rfl) (by kernel_rfl) (by kernel_rfl) (by kernel_rfl) rfl (by kernel_rfl) rfl rfl
    rfl rfl
    rfl (by kernel_rfl) (by kernel_rfl) (by kernel_rfl) (by decide) (by kernel_rfl) fnToStringHeaderExact_row_tie
    (OpenClaim.moreEntering_of (by kernel_rfl) (by kernel_rfl) (by kernel_rfl) (by kernel_rfl) (by kernel_rfl) (by kernel_rfl) (by kernel_rfl) (by kernel_rfl) (by kernel_rfl) (by kernel_rfl))
    ⟨_, WideRow.started_initial, quiet_ _⟩
    (fun os started _ H enc _ => lifted os started H enc)
/-- The statement (fmt's texts are told by the kit's own Lean function). -/
theorem proved : Rows.FnToStringHeaderExactToldSaid := over
#print axioms proved
end Go.Proofs.YtddojkdaajfmcaaFmt.fnToStringHeaderExact
