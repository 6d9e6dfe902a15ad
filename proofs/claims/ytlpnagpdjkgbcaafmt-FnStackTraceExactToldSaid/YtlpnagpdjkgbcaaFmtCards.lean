/-
  DERIVED. GIVEN WITH THE SEED: THE CARDS: each row of YtlpnagpdjkgbcaaFmtRows.lean that lists a variable, with what it lists TIED to the program's text (the seventh form; the later family's looks); each row that meets fmt, with fmt's text TOLD by the authors' own Lean function (tested against real Go, not proved from fmt's source: count such statements apart). THE CARD IS WHAT COUNTS. Prove the row's statement (the work); the ties are given (YtlpnagpdjkgbcaaFmtTie.lean); close each card by the builder's one call (the guide's Derived/Test/ToyasCard.lean, 'card_holds'). Laid BY PROGRAM, IN A SANDBOX (cutbox-door.mjs). By AI agents, Wed Nov 11 2026. No macro, syntax, notation, axiom, sorry.
-/
import Derived.Test.YtlpnagpdjkgbcaaFmtRows
import GoSem.ClaimSeven
namespace Go.Proofs.YtlpnagpdjkgbcaaFmt
namespace Rows

/-- THE TOLD CARD OF 'n005_94.FnStackTraceExact'. -/
def fnStackTraceExactCard : Claim7 := { stood := { row := fnStackTraceExactRow, standIns := [], harness := (true, "c6b67752791f94014dfcefec2de40351efef98afa61b4edf2c4f57dc647cd38b"), looks := false }, told := true, goes := false }
def FnStackTraceExactToldSaid : Prop := Claim7.holds Tryf.pinned (.plain (OpenSpec.ofChange fnStackTraceExactSpec)) fnStackTraceExactCard
/-- ITS FALSE NEIGHBOUR. Refute it at one input. -/
def FnStackTraceExactToldWrongFalsely : Prop := Claim7.holds Tryf.pinned (.plain (OpenSpec.ofChange fnStackTraceExactWrong)) fnStackTraceExactCard

/-- THE TOLD CARD OF 'n005_94.FnWhereSkipGo'. -/
def fnWhereSkipGoCard : Claim7 := { stood := { row := fnWhereSkipGoRow, standIns := [], harness := (true, "c6b67752791f94014dfcefec2de40351efef98afa61b4edf2c4f57dc647cd38b"), looks := false }, told := true, goes := false }
def FnWhereSkipGoToldSaid : Prop := Claim7.holds Tryf.pinned (.plain (OpenSpec.ofChange fnWhereSkipGoSpec)) fnWhereSkipGoCard
/-- ITS FALSE NEIGHBOUR. Refute it at one input. -/
def FnWhereSkipGoToldWrongFalsely : Prop := Claim7.holds Tryf.pinned (.plain (OpenSpec.ofChange fnWhereSkipGoWrong)) fnWhereSkipGoCard
end Rows
end Go.Proofs.YtlpnagpdjkgbcaaFmt
