/-
  No cell of these rows narrows 'for every input' (looked for: loops, veiled, ifaces, maps, wideKeys, modest, calm, conditions, laid).
  DERIVED. THE GIVEN ROWS OF THIS SEAT. 2 by the template 'for every input the law returns true; each argument reads behind the call as it read before'; 0 by the template 'total and deterministic' (their statements: YtlpnagpdjkgbcaaFmtTotals.lean).
  GIVEN WITH THE SEED: the statements are not yours to turn. If you find one false, say at which input.
  Laid BY PROGRAM, IN A SANDBOX (cutbox-rows.mjs): the forced cells as the released guide's own fill.sh prints them over the translation cc52e3599b50ca80… (all of the seat's roots in one cut). By AI agents, Wed Nov 11 2026. No macro, syntax, notation, axiom, sorry.
-/
import Derived.Test.YtlpnagpdjkgbcaaFmtChecked
import GoSem.Claim
import GoSem.ClaimJoined
import GoSem.ClaimMapViews
import Derived.JoinedTies
import Derived.KernelRfl
namespace Go.Proofs.YtlpnagpdjkgbcaaFmt
/- THE CELL 'sum', in the pinned program and in every row, IS THE sha256 OF THE DUMP (.gsa) THAT YtlpnagpdjkgbcaaFmtProg.lean LOADS. Nothing in Lean hashes anything: it is a label: what it is worth is what the hold of that sum in a sandbox is worth. -/
noncomputable def Tryf.pinned : Pinned := { name := "ytlpnagpdjkgbcaafmt", sum := "cc52e3599b50ca80f0e22ef0119528184cde26d2027db7ff6dbd9b1af3d7e7d1", checked := Tryf.checked }
namespace Rows
def none {H : Type} : Left H := { results := [], args := [] }

/-- 'n005_94.FnStackTraceExact': WHATEVER THE INPUT: true; the input reads as it did. -/
def fnStackTraceExactSpec : ChangeSpec := { name := "fnStackTraceExact", fn := fun _ => fun
  | [d1, d2, d3, d4, d5] => { results := [.lit (.bool true)], args := [d1, d2, d3, d4, d5] }
  | _ => none }
def fnStackTraceExactRow : OpenClaim := { program := "ytlpnagpdjkgbcaafmt", sum := "cc52e3599b50ca80f0e22ef0119528184cde26d2027db7ff6dbd9b1af3d7e7d1", func := "github.com/yuin/gopher-lua/n005_94.FnStackTraceExact", spec := "fnStackTraceExact", stops := ["fmt.Sprintf"], inPlace := ["fmt.Sprintf", "internal/abi.NoEscape", "internal/bytealg.MakeNoZero"], unfollowed := true, recurses := true, apart := false }
/-- NO THEOREM (fmt's text is open here; it may be false): for the released tool's asking of the row's closed facts alone. THE STATEMENT IS 'FnStackTraceExactToldSaid' (YtlpnagpdjkgbcaaFmtCards.lean). -/
def FnStackTraceExactFormAsk : Prop := fnStackTraceExactRow.holds Tryf.pinned (OpenSpec.ofChange fnStackTraceExactSpec)

/-- ITS FALSE NEIGHBOUR: 'it returns false'. Refute it at one input. -/
def fnStackTraceExactWrong : ChangeSpec := { name := "fnStackTraceExact", fn := fun _ => fun
  | [d1, d2, d3, d4, d5] => { results := [.lit (.bool false)], args := [d1, d2, d3, d4, d5] }
  | _ => none }
def FnStackTraceExactWrongFormAsk : Prop := fnStackTraceExactRow.holds Tryf.pinned (OpenSpec.ofChange fnStackTraceExactWrong)

/-- 'n005_94.FnWhereSkipGo': WHATEVER THE INPUT: true; the input reads as it did. -/
def fnWhereSkipGoSpec : ChangeSpec := { name := "fnWhereSkipGo", fn := fun _ => fun
  | [d1, d2, d3] => { results := [.lit (.bool true)], args := [d1, d2, d3] }
  | _ => none }
def fnWhereSkipGoRow : OpenClaim := { program := "ytlpnagpdjkgbcaafmt", sum := "cc52e3599b50ca80f0e22ef0119528184cde26d2027db7ff6dbd9b1af3d7e7d1", func := "github.com/yuin/gopher-lua/n005_94.FnWhereSkipGo", spec := "fnWhereSkipGo", stops := ["fmt.Sprintf"], inPlace := ["fmt.Sprintf"], unfollowed := true, recurses := true, apart := false }
/-- NO THEOREM (fmt's text is open here; it may be false): for the released tool's asking of the row's closed facts alone. THE STATEMENT IS 'FnWhereSkipGoToldSaid' (YtlpnagpdjkgbcaaFmtCards.lean). -/
def FnWhereSkipGoFormAsk : Prop := fnWhereSkipGoRow.holds Tryf.pinned (OpenSpec.ofChange fnWhereSkipGoSpec)

/-- ITS FALSE NEIGHBOUR: 'it returns false'. Refute it at one input. -/
def fnWhereSkipGoWrong : ChangeSpec := { name := "fnWhereSkipGo", fn := fun _ => fun
  | [d1, d2, d3] => { results := [.lit (.bool false)], args := [d1, d2, d3] }
  | _ => none }
def FnWhereSkipGoWrongFormAsk : Prop := fnWhereSkipGoRow.holds Tryf.pinned (OpenSpec.ofChange fnWhereSkipGoWrong)

end Rows
end Go.Proofs.YtlpnagpdjkgbcaaFmt
