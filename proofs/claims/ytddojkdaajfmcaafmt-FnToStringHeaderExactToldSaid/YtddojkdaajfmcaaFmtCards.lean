/-
  DERIVED. GIVEN WITH THE SEED: THE CARDS: each row of YtddojkdaajfmcaaFmtRows.lean that lists a variable, with what it lists TIED to the program's text (the seventh form; the later family's looks); each row that meets fmt, with fmt's text TOLD by the authors' own Lean function (tested against real Go, not proved from fmt's source: count such statements apart). THE CARD IS WHAT COUNTS. Prove the row's statement (the work); the ties are given (YtddojkdaajfmcaaFmtTie.lean); close each card by the builder's one call (the guide's Derived/Test/ToyasCard.lean, 'card_holds'). Laid BY PROGRAM, IN A SANDBOX (cutbox-door.mjs). By AI agents, Wed Nov 11 2026. No macro, syntax, notation, axiom, sorry.
-/
import Derived.Test.YtddojkdaajfmcaaFmtRows
import GoSem.ClaimSeven
namespace Go.Proofs.YtddojkdaajfmcaaFmt
namespace Rows

/-- THE TOLD AND TIED CARD OF 'n005_74.FnToStringHeaderExact'. -/
def fnToStringHeaderExactCard : Claim7 := { stood := { row := fnToStringHeaderExactRow, standIns := [], harness := (true, "0ba24ae5254fc2290d1fb73ce65fc6a73b4e7e5e93e04a2cc07fec5257820eee"), looks := false }, told := true, laidByText := true, laidKinds := [.widerDeep], laidTests := true, laidLooks := .later, goes := false }
def FnToStringHeaderExactToldSaid : Prop := Claim7.holds Tryf.pinned (.plain (OpenSpec.ofChange fnToStringHeaderExactSpec)) fnToStringHeaderExactCard
/-- ITS FALSE NEIGHBOUR. Refute it at one input. -/
def FnToStringHeaderExactToldWrongFalsely : Prop := Claim7.holds Tryf.pinned (.plain (OpenSpec.ofChange fnToStringHeaderExactWrong)) fnToStringHeaderExactCard
end Rows
end Go.Proofs.YtddojkdaajfmcaaFmt
