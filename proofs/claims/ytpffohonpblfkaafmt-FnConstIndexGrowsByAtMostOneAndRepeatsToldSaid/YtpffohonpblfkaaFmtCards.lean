/-
  DERIVED. GIVEN WITH THE SEED: THE CARDS: each row of YtpffohonpblfkaaFmtRows.lean that lists a variable, with what it lists TIED to the program's text (the seventh form; the later family's looks); each row that meets fmt, with fmt's text TOLD by the authors' own Lean function (tested against real Go, not proved from fmt's source: count such statements apart). THE CARD IS WHAT COUNTS. Prove the row's statement (the work); the ties are given (YtpffohonpblfkaaFmtTie.lean); close each card by the builder's one call (the guide's Derived/Test/ToyasCard.lean, 'card_holds'). Laid BY PROGRAM, IN A SANDBOX (cutbox-door.mjs). By AI agents, Wed Nov 11 2026. No macro, syntax, notation, axiom, sorry.
-/
import Derived.Test.YtpffohonpblfkaaFmtRows
import GoSem.ClaimSeven
namespace Go.Proofs.YtpffohonpblfkaaFmt
namespace Rows

/-- THE TOLD CARD OF 'n005_82.FnConstIndexGrowsByAtMostOneAndRepeats'. -/
def fnConstIndexGrowsByAtMostOneAndRepeatsCard : Claim7 := { stood := { row := fnConstIndexGrowsByAtMostOneAndRepeatsRow, standIns := [], harness := (true, "0d902a02b70ff3226d1b341538aa924d0d83510f93b8ac2b4db592479ae4c629"), looks := true }, told := true, goes := false }
def FnConstIndexGrowsByAtMostOneAndRepeatsToldSaid : Prop := Claim7.holds Tryf.pinned (.plain (OpenSpec.ofChange fnConstIndexGrowsByAtMostOneAndRepeatsSpec)) fnConstIndexGrowsByAtMostOneAndRepeatsCard
/-- ITS FALSE NEIGHBOUR. Refute it at one input. -/
def FnConstIndexGrowsByAtMostOneAndRepeatsToldWrongFalsely : Prop := Claim7.holds Tryf.pinned (.plain (OpenSpec.ofChange fnConstIndexGrowsByAtMostOneAndRepeatsWrong)) fnConstIndexGrowsByAtMostOneAndRepeatsCard

/-- THE TOLD CARD OF 'n005_82.FnBlockLocalVarsCountAgreesWithLocalVars'. -/
def fnBlockLocalVarsCountAgreesWithLocalVarsCard : Claim7 := { stood := { row := fnBlockLocalVarsCountAgreesWithLocalVarsRow, standIns := [], harness := (true, "0d902a02b70ff3226d1b341538aa924d0d83510f93b8ac2b4db592479ae4c629"), looks := true }, told := true, goes := false }
def FnBlockLocalVarsCountAgreesWithLocalVarsToldSaid : Prop := Claim7.holds Tryf.pinned (.plain (OpenSpec.ofChange fnBlockLocalVarsCountAgreesWithLocalVarsSpec)) fnBlockLocalVarsCountAgreesWithLocalVarsCard
/-- ITS FALSE NEIGHBOUR. Refute it at one input. -/
def FnBlockLocalVarsCountAgreesWithLocalVarsToldWrongFalsely : Prop := Claim7.holds Tryf.pinned (.plain (OpenSpec.ofChange fnBlockLocalVarsCountAgreesWithLocalVarsWrong)) fnBlockLocalVarsCountAgreesWithLocalVarsCard

/-- THE TOLD CARD OF 'n005_82.FnRegisterLocalVarFindLatest'. -/
def fnRegisterLocalVarFindLatestCard : Claim7 := { stood := { row := fnRegisterLocalVarFindLatestRow, standIns := [], harness := (true, "0d902a02b70ff3226d1b341538aa924d0d83510f93b8ac2b4db592479ae4c629"), looks := true }, told := true, goes := false }
def FnRegisterLocalVarFindLatestToldSaid : Prop := Claim7.holds Tryf.pinned (.plain (OpenSpec.ofChange fnRegisterLocalVarFindLatestSpec)) fnRegisterLocalVarFindLatestCard
/-- ITS FALSE NEIGHBOUR. Refute it at one input. -/
def FnRegisterLocalVarFindLatestToldWrongFalsely : Prop := Claim7.holds Tryf.pinned (.plain (OpenSpec.ofChange fnRegisterLocalVarFindLatestWrong)) fnRegisterLocalVarFindLatestCard

/-- THE TOLD CARD OF 'n005_82.FnBlockLocalVarsCountTracksRegistrations'. -/
def fnBlockLocalVarsCountTracksRegistrationsCard : Claim7 := { stood := { row := fnBlockLocalVarsCountTracksRegistrationsRow, standIns := [], harness := (true, "0d902a02b70ff3226d1b341538aa924d0d83510f93b8ac2b4db592479ae4c629"), looks := true }, told := true, goes := false }
def FnBlockLocalVarsCountTracksRegistrationsToldSaid : Prop := Claim7.holds Tryf.pinned (.plain (OpenSpec.ofChange fnBlockLocalVarsCountTracksRegistrationsSpec)) fnBlockLocalVarsCountTracksRegistrationsCard
/-- ITS FALSE NEIGHBOUR. Refute it at one input. -/
def FnBlockLocalVarsCountTracksRegistrationsToldWrongFalsely : Prop := Claim7.holds Tryf.pinned (.plain (OpenSpec.ofChange fnBlockLocalVarsCountTracksRegistrationsWrong)) fnBlockLocalVarsCountTracksRegistrationsCard

/-- THE TOLD CARD OF 'n005_82.FnRegisterLocalVarReturnsRunningIndex'. -/
def fnRegisterLocalVarReturnsRunningIndexCard : Claim7 := { stood := { row := fnRegisterLocalVarReturnsRunningIndexRow, standIns := [], harness := (true, "0d902a02b70ff3226d1b341538aa924d0d83510f93b8ac2b4db592479ae4c629"), looks := true }, told := true, goes := false }
def FnRegisterLocalVarReturnsRunningIndexToldSaid : Prop := Claim7.holds Tryf.pinned (.plain (OpenSpec.ofChange fnRegisterLocalVarReturnsRunningIndexSpec)) fnRegisterLocalVarReturnsRunningIndexCard
/-- ITS FALSE NEIGHBOUR. Refute it at one input. -/
def FnRegisterLocalVarReturnsRunningIndexToldWrongFalsely : Prop := Claim7.holds Tryf.pinned (.plain (OpenSpec.ofChange fnRegisterLocalVarReturnsRunningIndexWrong)) fnRegisterLocalVarReturnsRunningIndexCard
end Rows
end Go.Proofs.YtpffohonpblfkaaFmt
