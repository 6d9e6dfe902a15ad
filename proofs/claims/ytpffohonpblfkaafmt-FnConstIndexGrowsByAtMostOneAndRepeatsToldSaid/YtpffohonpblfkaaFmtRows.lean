/-
  No cell of these rows narrows 'for every input' (looked for: loops, veiled, ifaces, maps, wideKeys, modest, calm, conditions, laid).
  DERIVED. THE GIVEN ROWS OF THIS SEAT. 5 by the template 'for every input the law returns true; each argument reads behind the call as it read before'; 0 by the template 'total and deterministic' (their statements: YtpffohonpblfkaaFmtTotals.lean).
  GIVEN WITH THE SEED: the statements are not yours to turn. If you find one false, say at which input.
  Laid BY PROGRAM, IN A SANDBOX (cutbox-rows.mjs): the forced cells as the released guide's own fill.sh prints them over the translation bbd722157ad15c7b… (all of the seat's roots in one cut). By AI agents, Wed Nov 11 2026. No macro, syntax, notation, axiom, sorry.
-/
import Derived.Test.YtpffohonpblfkaaFmtChecked
import GoSem.Claim
import GoSem.ClaimJoined
import GoSem.ClaimMapViews
import Derived.JoinedTies
import Derived.KernelRfl
namespace Go.Proofs.YtpffohonpblfkaaFmt
/- THE CELL 'sum', in the pinned program and in every row, IS THE sha256 OF THE DUMP (.gsa) THAT YtpffohonpblfkaaFmtProg.lean LOADS. Nothing in Lean hashes anything: it is a label: what it is worth is what the hold of that sum in a sandbox is worth. -/
noncomputable def Tryf.pinned : Pinned := { name := "ytpffohonpblfkaafmt", sum := "bbd722157ad15c7b320a5d7023f5654244a890bda7f3fa12bf61e70a479d8ea4", checked := Tryf.checked }
namespace Rows
def none {H : Type} : Left H := { results := [], args := [] }

/-- 'n005_82.FnConstIndexGrowsByAtMostOneAndRepeats': WHATEVER THE INPUT: true; the input reads as it did. -/
def fnConstIndexGrowsByAtMostOneAndRepeatsSpec : ChangeSpec := { name := "fnConstIndexGrowsByAtMostOneAndRepeats", fn := fun _ => fun
  | [d1, d2, d3] => { results := [.lit (.bool true)], args := [d1, d2, d3] }
  | _ => none }
def fnConstIndexGrowsByAtMostOneAndRepeatsRow : OpenClaim := { program := "ytpffohonpblfkaafmt", sum := "bbd722157ad15c7b320a5d7023f5654244a890bda7f3fa12bf61e70a479d8ea4", func := "github.com/yuin/gopher-lua/n005_82.FnConstIndexGrowsByAtMostOneAndRepeats", spec := "fnConstIndexGrowsByAtMostOneAndRepeats", stops := ["fmt.Sprintf, its operands' methods called", "fmt.Sprint"], inPlace := ["fmt.Sprintf"], unfollowed := true, recurses := true, apart := false }
/-- NO THEOREM (fmt's text is open here; it may be false): for the released tool's asking of the row's closed facts alone. THE STATEMENT IS 'FnConstIndexGrowsByAtMostOneAndRepeatsToldSaid' (YtpffohonpblfkaaFmtCards.lean). -/
def FnConstIndexGrowsByAtMostOneAndRepeatsFormAsk : Prop := fnConstIndexGrowsByAtMostOneAndRepeatsRow.holds Tryf.pinned (OpenSpec.ofChange fnConstIndexGrowsByAtMostOneAndRepeatsSpec)

/-- ITS FALSE NEIGHBOUR: 'it returns false'. Refute it at one input. -/
def fnConstIndexGrowsByAtMostOneAndRepeatsWrong : ChangeSpec := { name := "fnConstIndexGrowsByAtMostOneAndRepeats", fn := fun _ => fun
  | [d1, d2, d3] => { results := [.lit (.bool false)], args := [d1, d2, d3] }
  | _ => none }
def FnConstIndexGrowsByAtMostOneAndRepeatsWrongFormAsk : Prop := fnConstIndexGrowsByAtMostOneAndRepeatsRow.holds Tryf.pinned (OpenSpec.ofChange fnConstIndexGrowsByAtMostOneAndRepeatsWrong)

/-- 'n005_82.FnBlockLocalVarsCountAgreesWithLocalVars': WHATEVER THE INPUT: true; the input reads as it did. -/
def fnBlockLocalVarsCountAgreesWithLocalVarsSpec : ChangeSpec := { name := "fnBlockLocalVarsCountAgreesWithLocalVars", fn := fun _ => fun
  | [d1, d2] => { results := [.lit (.bool true)], args := [d1, d2] }
  | _ => none }
def fnBlockLocalVarsCountAgreesWithLocalVarsRow : OpenClaim := { program := "ytpffohonpblfkaafmt", sum := "bbd722157ad15c7b320a5d7023f5654244a890bda7f3fa12bf61e70a479d8ea4", func := "github.com/yuin/gopher-lua/n005_82.FnBlockLocalVarsCountAgreesWithLocalVars", spec := "fnBlockLocalVarsCountAgreesWithLocalVars", stops := ["fmt.Sprintf, its operands' methods called", "fmt.Sprint"], inPlace := ["fmt.Sprintf"], unfollowed := true, recurses := true, apart := false }
/-- NO THEOREM (fmt's text is open here; it may be false): for the released tool's asking of the row's closed facts alone. THE STATEMENT IS 'FnBlockLocalVarsCountAgreesWithLocalVarsToldSaid' (YtpffohonpblfkaaFmtCards.lean). -/
def FnBlockLocalVarsCountAgreesWithLocalVarsFormAsk : Prop := fnBlockLocalVarsCountAgreesWithLocalVarsRow.holds Tryf.pinned (OpenSpec.ofChange fnBlockLocalVarsCountAgreesWithLocalVarsSpec)

/-- ITS FALSE NEIGHBOUR: 'it returns false'. Refute it at one input. -/
def fnBlockLocalVarsCountAgreesWithLocalVarsWrong : ChangeSpec := { name := "fnBlockLocalVarsCountAgreesWithLocalVars", fn := fun _ => fun
  | [d1, d2] => { results := [.lit (.bool false)], args := [d1, d2] }
  | _ => none }
def FnBlockLocalVarsCountAgreesWithLocalVarsWrongFormAsk : Prop := fnBlockLocalVarsCountAgreesWithLocalVarsRow.holds Tryf.pinned (OpenSpec.ofChange fnBlockLocalVarsCountAgreesWithLocalVarsWrong)

/-- 'n005_82.FnRegisterLocalVarFindLatest': WHATEVER THE INPUT: true; the input reads as it did. -/
def fnRegisterLocalVarFindLatestSpec : ChangeSpec := { name := "fnRegisterLocalVarFindLatest", fn := fun _ => fun
  | [d1, d2, d3] => { results := [.lit (.bool true)], args := [d1, d2, d3] }
  | _ => none }
def fnRegisterLocalVarFindLatestRow : OpenClaim := { program := "ytpffohonpblfkaafmt", sum := "bbd722157ad15c7b320a5d7023f5654244a890bda7f3fa12bf61e70a479d8ea4", func := "github.com/yuin/gopher-lua/n005_82.FnRegisterLocalVarFindLatest", spec := "fnRegisterLocalVarFindLatest", stops := ["fmt.Sprintf, its operands' methods called", "fmt.Sprint"], inPlace := ["fmt.Sprintf"], unfollowed := true, recurses := true, apart := false }
/-- NO THEOREM (fmt's text is open here; it may be false): for the released tool's asking of the row's closed facts alone. THE STATEMENT IS 'FnRegisterLocalVarFindLatestToldSaid' (YtpffohonpblfkaaFmtCards.lean). -/
def FnRegisterLocalVarFindLatestFormAsk : Prop := fnRegisterLocalVarFindLatestRow.holds Tryf.pinned (OpenSpec.ofChange fnRegisterLocalVarFindLatestSpec)

/-- ITS FALSE NEIGHBOUR: 'it returns false'. Refute it at one input. -/
def fnRegisterLocalVarFindLatestWrong : ChangeSpec := { name := "fnRegisterLocalVarFindLatest", fn := fun _ => fun
  | [d1, d2, d3] => { results := [.lit (.bool false)], args := [d1, d2, d3] }
  | _ => none }
def FnRegisterLocalVarFindLatestWrongFormAsk : Prop := fnRegisterLocalVarFindLatestRow.holds Tryf.pinned (OpenSpec.ofChange fnRegisterLocalVarFindLatestWrong)

/-- 'n005_82.FnBlockLocalVarsCountTracksRegistrations': WHATEVER THE INPUT: true; the input reads as it did. -/
def fnBlockLocalVarsCountTracksRegistrationsSpec : ChangeSpec := { name := "fnBlockLocalVarsCountTracksRegistrations", fn := fun _ => fun
  | [d1, d2] => { results := [.lit (.bool true)], args := [d1, d2] }
  | _ => none }
def fnBlockLocalVarsCountTracksRegistrationsRow : OpenClaim := { program := "ytpffohonpblfkaafmt", sum := "bbd722157ad15c7b320a5d7023f5654244a890bda7f3fa12bf61e70a479d8ea4", func := "github.com/yuin/gopher-lua/n005_82.FnBlockLocalVarsCountTracksRegistrations", spec := "fnBlockLocalVarsCountTracksRegistrations", stops := ["fmt.Sprintf, its operands' methods called", "fmt.Sprint"], inPlace := ["fmt.Sprintf"], unfollowed := true, recurses := true, apart := false }
/-- NO THEOREM (fmt's text is open here; it may be false): for the released tool's asking of the row's closed facts alone. THE STATEMENT IS 'FnBlockLocalVarsCountTracksRegistrationsToldSaid' (YtpffohonpblfkaaFmtCards.lean). -/
def FnBlockLocalVarsCountTracksRegistrationsFormAsk : Prop := fnBlockLocalVarsCountTracksRegistrationsRow.holds Tryf.pinned (OpenSpec.ofChange fnBlockLocalVarsCountTracksRegistrationsSpec)

/-- ITS FALSE NEIGHBOUR: 'it returns false'. Refute it at one input. -/
def fnBlockLocalVarsCountTracksRegistrationsWrong : ChangeSpec := { name := "fnBlockLocalVarsCountTracksRegistrations", fn := fun _ => fun
  | [d1, d2] => { results := [.lit (.bool false)], args := [d1, d2] }
  | _ => none }
def FnBlockLocalVarsCountTracksRegistrationsWrongFormAsk : Prop := fnBlockLocalVarsCountTracksRegistrationsRow.holds Tryf.pinned (OpenSpec.ofChange fnBlockLocalVarsCountTracksRegistrationsWrong)

/-- 'n005_82.FnRegisterLocalVarReturnsRunningIndex': WHATEVER THE INPUT: true; the input reads as it did. -/
def fnRegisterLocalVarReturnsRunningIndexSpec : ChangeSpec := { name := "fnRegisterLocalVarReturnsRunningIndex", fn := fun _ => fun
  | [d1, d2] => { results := [.lit (.bool true)], args := [d1, d2] }
  | _ => none }
def fnRegisterLocalVarReturnsRunningIndexRow : OpenClaim := { program := "ytpffohonpblfkaafmt", sum := "bbd722157ad15c7b320a5d7023f5654244a890bda7f3fa12bf61e70a479d8ea4", func := "github.com/yuin/gopher-lua/n005_82.FnRegisterLocalVarReturnsRunningIndex", spec := "fnRegisterLocalVarReturnsRunningIndex", stops := ["fmt.Sprintf, its operands' methods called", "fmt.Sprint"], inPlace := ["fmt.Sprintf"], unfollowed := true, recurses := true, apart := false }
/-- NO THEOREM (fmt's text is open here; it may be false): for the released tool's asking of the row's closed facts alone. THE STATEMENT IS 'FnRegisterLocalVarReturnsRunningIndexToldSaid' (YtpffohonpblfkaaFmtCards.lean). -/
def FnRegisterLocalVarReturnsRunningIndexFormAsk : Prop := fnRegisterLocalVarReturnsRunningIndexRow.holds Tryf.pinned (OpenSpec.ofChange fnRegisterLocalVarReturnsRunningIndexSpec)

/-- ITS FALSE NEIGHBOUR: 'it returns false'. Refute it at one input. -/
def fnRegisterLocalVarReturnsRunningIndexWrong : ChangeSpec := { name := "fnRegisterLocalVarReturnsRunningIndex", fn := fun _ => fun
  | [d1, d2] => { results := [.lit (.bool false)], args := [d1, d2] }
  | _ => none }
def FnRegisterLocalVarReturnsRunningIndexWrongFormAsk : Prop := fnRegisterLocalVarReturnsRunningIndexRow.holds Tryf.pinned (OpenSpec.ofChange fnRegisterLocalVarReturnsRunningIndexWrong)

end Rows
end Go.Proofs.YtpffohonpblfkaaFmt
