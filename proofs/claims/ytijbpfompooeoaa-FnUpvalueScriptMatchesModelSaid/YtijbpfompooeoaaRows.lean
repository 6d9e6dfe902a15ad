/-
  No cell of these rows narrows 'for every input' (looked for: loops, veiled, ifaces, maps, wideKeys, modest, calm, conditions, laid).
  DERIVED. THE GIVEN ROWS OF THIS SEAT. 4 by the template 'for every input the law returns true; each argument reads behind the call as it read before'; 0 by the template 'total and deterministic' (their statements: YtijbpfompooeoaaTotals.lean).
  GIVEN WITH THE SEED: the statements are not yours to turn. If you find one false, say at which input.
  Laid BY PROGRAM, IN A SANDBOX (cutbox-rows.mjs): the forced cells as the released guide's own fill.sh prints them over the translation 3526bbaa937d379e… (all of the seat's roots in one cut). By AI agents, Wed Nov 11 2026. No macro, syntax, notation, axiom, sorry.
-/
import Derived.Test.YtijbpfompooeoaaChecked
import GoSem.Claim
import GoSem.ClaimJoined
import GoSem.ClaimMapViews
import Derived.JoinedTies
import Derived.KernelRfl
namespace Go.Proofs.Ytijbpfompooeoaa
/- THE CELL 'sum', in the pinned program and in every row, IS THE sha256 OF THE DUMP (.gsa) THAT YtijbpfompooeoaaProg.lean LOADS. Nothing in Lean hashes anything: it is a label: what it is worth is what the hold of that sum in a sandbox is worth. -/
noncomputable def Try.pinned : Pinned := { name := "ytijbpfompooeoaa", sum := "3526bbaa937d379e1eccecbec7fb232c8deae1b2e15e8f60f8502325c49bef13", checked := Try.checked }
namespace Rows
def none {H : Type} : Left H := { results := [], args := [] }

/-- 'n005_87.FnUpvalueScriptMatchesModel': WHATEVER THE INPUT: true; the input reads as it did. -/
def fnUpvalueScriptMatchesModelSpec : ChangeSpec := { name := "fnUpvalueScriptMatchesModel", fn := fun _ => fun
  | [d1, d2, d3, d4, d5] => { results := [.lit (.bool true)], args := [d1, d2, d3, d4, d5] }
  | _ => none }
def fnUpvalueScriptMatchesModelRow : OpenClaim := { program := "ytijbpfompooeoaa", sum := "3526bbaa937d379e1eccecbec7fb232c8deae1b2e15e8f60f8502325c49bef13", func := "github.com/yuin/gopher-lua/n005_87.FnUpvalueScriptMatchesModel", spec := "fnUpvalueScriptMatchesModel", unfollowed := true, recurses := true, apart := false }
def FnUpvalueScriptMatchesModelSaid : Prop := fnUpvalueScriptMatchesModelRow.holds Try.pinned (OpenSpec.ofChange fnUpvalueScriptMatchesModelSpec)

/-- ITS FALSE NEIGHBOUR: 'it returns false'. Refute it at one input. -/
def fnUpvalueScriptMatchesModelWrong : ChangeSpec := { name := "fnUpvalueScriptMatchesModel", fn := fun _ => fun
  | [d1, d2, d3, d4, d5] => { results := [.lit (.bool false)], args := [d1, d2, d3, d4, d5] }
  | _ => none }
def FnUpvalueScriptMatchesModelWrongFalsely : Prop := fnUpvalueScriptMatchesModelRow.holds Try.pinned (OpenSpec.ofChange fnUpvalueScriptMatchesModelWrong)

/-- 'n005_87.FnUpvalueSetValueTouchesOnlyItsCell': WHATEVER THE INPUT: true; the input reads as it did. -/
def fnUpvalueSetValueTouchesOnlyItsCellSpec : ChangeSpec := { name := "fnUpvalueSetValueTouchesOnlyItsCell", fn := fun _ => fun
  | [d1, d2, d3, d4, d5, d6] => { results := [.lit (.bool true)], args := [d1, d2, d3, d4, d5, d6] }
  | _ => none }
def fnUpvalueSetValueTouchesOnlyItsCellRow : OpenClaim := { program := "ytijbpfompooeoaa", sum := "3526bbaa937d379e1eccecbec7fb232c8deae1b2e15e8f60f8502325c49bef13", func := "github.com/yuin/gopher-lua/n005_87.FnUpvalueSetValueTouchesOnlyItsCell", spec := "fnUpvalueSetValueTouchesOnlyItsCell", unfollowed := true, recurses := true, apart := false }
def FnUpvalueSetValueTouchesOnlyItsCellSaid : Prop := fnUpvalueSetValueTouchesOnlyItsCellRow.holds Try.pinned (OpenSpec.ofChange fnUpvalueSetValueTouchesOnlyItsCellSpec)

/-- ITS FALSE NEIGHBOUR: 'it returns false'. Refute it at one input. -/
def fnUpvalueSetValueTouchesOnlyItsCellWrong : ChangeSpec := { name := "fnUpvalueSetValueTouchesOnlyItsCell", fn := fun _ => fun
  | [d1, d2, d3, d4, d5, d6] => { results := [.lit (.bool false)], args := [d1, d2, d3, d4, d5, d6] }
  | _ => none }
def FnUpvalueSetValueTouchesOnlyItsCellWrongFalsely : Prop := fnUpvalueSetValueTouchesOnlyItsCellRow.holds Try.pinned (OpenSpec.ofChange fnUpvalueSetValueTouchesOnlyItsCellWrong)

/-- 'n005_87.FnUpvalueCloseFreezesValue': WHATEVER THE INPUT: true; the input reads as it did. -/
def fnUpvalueCloseFreezesValueSpec : ChangeSpec := { name := "fnUpvalueCloseFreezesValue", fn := fun _ => fun
  | [d1, d2, d3, d4, d5, d6] => { results := [.lit (.bool true)], args := [d1, d2, d3, d4, d5, d6] }
  | _ => none }
def fnUpvalueCloseFreezesValueRow : OpenClaim := { program := "ytijbpfompooeoaa", sum := "3526bbaa937d379e1eccecbec7fb232c8deae1b2e15e8f60f8502325c49bef13", func := "github.com/yuin/gopher-lua/n005_87.FnUpvalueCloseFreezesValue", spec := "fnUpvalueCloseFreezesValue", unfollowed := true, recurses := true, apart := false }
def FnUpvalueCloseFreezesValueSaid : Prop := fnUpvalueCloseFreezesValueRow.holds Try.pinned (OpenSpec.ofChange fnUpvalueCloseFreezesValueSpec)

/-- ITS FALSE NEIGHBOUR: 'it returns false'. Refute it at one input. -/
def fnUpvalueCloseFreezesValueWrong : ChangeSpec := { name := "fnUpvalueCloseFreezesValue", fn := fun _ => fun
  | [d1, d2, d3, d4, d5, d6] => { results := [.lit (.bool false)], args := [d1, d2, d3, d4, d5, d6] }
  | _ => none }
def FnUpvalueCloseFreezesValueWrongFalsely : Prop := fnUpvalueCloseFreezesValueRow.holds Try.pinned (OpenSpec.ofChange fnUpvalueCloseFreezesValueWrong)

/-- 'n005_87.FnUpvalueIsClosedIffDetached': WHATEVER THE INPUT: true; the input reads as it did. -/
def fnUpvalueIsClosedIffDetachedSpec : ChangeSpec := { name := "fnUpvalueIsClosedIffDetached", fn := fun _ => fun
  | [d1, d2, d3, d4, d5, d6] => { results := [.lit (.bool true)], args := [d1, d2, d3, d4, d5, d6] }
  | _ => none }
def fnUpvalueIsClosedIffDetachedRow : OpenClaim := { program := "ytijbpfompooeoaa", sum := "3526bbaa937d379e1eccecbec7fb232c8deae1b2e15e8f60f8502325c49bef13", func := "github.com/yuin/gopher-lua/n005_87.FnUpvalueIsClosedIffDetached", spec := "fnUpvalueIsClosedIffDetached", apart := false }
def FnUpvalueIsClosedIffDetachedSaid : Prop := fnUpvalueIsClosedIffDetachedRow.holds Try.pinned (OpenSpec.ofChange fnUpvalueIsClosedIffDetachedSpec)

/-- ITS FALSE NEIGHBOUR: 'it returns false'. Refute it at one input. -/
def fnUpvalueIsClosedIffDetachedWrong : ChangeSpec := { name := "fnUpvalueIsClosedIffDetached", fn := fun _ => fun
  | [d1, d2, d3, d4, d5, d6] => { results := [.lit (.bool false)], args := [d1, d2, d3, d4, d5, d6] }
  | _ => none }
def FnUpvalueIsClosedIffDetachedWrongFalsely : Prop := fnUpvalueIsClosedIffDetachedRow.holds Try.pinned (OpenSpec.ofChange fnUpvalueIsClosedIffDetachedWrong)

/- THE SECOND FORM. 'bulk': how many values and letters a reading holds, each counted each time it is reached (what is shared counts as often as it is met; a slice's spare places count too). A statement '..UptoSaid' is the law's where the arguments, and the package variables that the reading takes, are together of bulk at most 1048576: NARROWER than '..Said'. Prove '..Said' where nothing that the law and all that it calls make is longer than what came in: it says more and counts as full. Else prove '..UptoSaid'. A law counts once. -/
mutual
def uptoBulk {H : Type} : DataW H → Nat
  | .lit (.string bytes) => bytes.length + 1
  | .lit _ => 1
  | .nil => 1
  | .ptr d => uptoBulk d + 1
  | .slice elems spare => uptoBulkAll elems + uptoBulkAll spare + 1
  | .agg parts => uptoBulkAll parts + 1
  | .iface _ d => uptoBulk d + 1
  | .map entries => uptoBulkEntries entries + 1
  | .held _ => 1
def uptoBulkAll {H : Type} : List (DataW H) → Nat
  | [] => 0
  | d :: r => uptoBulk d + uptoBulkAll r
def uptoBulkEntries {H : Type} : List (Lit × DataW H) → Nat
  | [] => 0
  | x :: r => uptoBulkEntry x + uptoBulkEntries r
def uptoBulkEntry {H : Type} : Lit × DataW H → Nat
  | (.string bytes, d) => bytes.length + uptoBulk d + 1
  | (_, d) => uptoBulk d + 1
 end
def uptoSmall : (H : Type) → List (DataW H) → Bool := fun _ ds => decide (uptoBulkAll ds ≤ 1048576)
def OpenSpec.upto (s : _root_.Go.ChangeSpec) : _root_.Go.OpenSpec := { _root_.Go.OpenSpec.ofChange s with cond := some uptoSmall }

/-- 'n005_87.FnUpvalueScriptMatchesModel', WHERE WHAT IT READS IS OF BULK AT MOST 1048576: true; the input reads as it did. -/
def fnUpvalueScriptMatchesModelUptoRow : OpenClaim := { program := "ytijbpfompooeoaa", sum := "3526bbaa937d379e1eccecbec7fb232c8deae1b2e15e8f60f8502325c49bef13", func := "github.com/yuin/gopher-lua/n005_87.FnUpvalueScriptMatchesModel", spec := "fnUpvalueScriptMatchesModel", unfollowed := true, recurses := true, apart := false, narrowed := true }
def FnUpvalueScriptMatchesModelUptoSaid : Prop := fnUpvalueScriptMatchesModelUptoRow.holds Try.pinned (OpenSpec.upto fnUpvalueScriptMatchesModelSpec)

/-- 'n005_87.FnUpvalueSetValueTouchesOnlyItsCell', WHERE WHAT IT READS IS OF BULK AT MOST 1048576: true; the input reads as it did. -/
def fnUpvalueSetValueTouchesOnlyItsCellUptoRow : OpenClaim := { program := "ytijbpfompooeoaa", sum := "3526bbaa937d379e1eccecbec7fb232c8deae1b2e15e8f60f8502325c49bef13", func := "github.com/yuin/gopher-lua/n005_87.FnUpvalueSetValueTouchesOnlyItsCell", spec := "fnUpvalueSetValueTouchesOnlyItsCell", unfollowed := true, recurses := true, apart := false, narrowed := true }
def FnUpvalueSetValueTouchesOnlyItsCellUptoSaid : Prop := fnUpvalueSetValueTouchesOnlyItsCellUptoRow.holds Try.pinned (OpenSpec.upto fnUpvalueSetValueTouchesOnlyItsCellSpec)

/-- 'n005_87.FnUpvalueCloseFreezesValue', WHERE WHAT IT READS IS OF BULK AT MOST 1048576: true; the input reads as it did. -/
def fnUpvalueCloseFreezesValueUptoRow : OpenClaim := { program := "ytijbpfompooeoaa", sum := "3526bbaa937d379e1eccecbec7fb232c8deae1b2e15e8f60f8502325c49bef13", func := "github.com/yuin/gopher-lua/n005_87.FnUpvalueCloseFreezesValue", spec := "fnUpvalueCloseFreezesValue", unfollowed := true, recurses := true, apart := false, narrowed := true }
def FnUpvalueCloseFreezesValueUptoSaid : Prop := fnUpvalueCloseFreezesValueUptoRow.holds Try.pinned (OpenSpec.upto fnUpvalueCloseFreezesValueSpec)

/-- 'n005_87.FnUpvalueIsClosedIffDetached', WHERE WHAT IT READS IS OF BULK AT MOST 1048576: true; the input reads as it did. -/
def fnUpvalueIsClosedIffDetachedUptoRow : OpenClaim := { program := "ytijbpfompooeoaa", sum := "3526bbaa937d379e1eccecbec7fb232c8deae1b2e15e8f60f8502325c49bef13", func := "github.com/yuin/gopher-lua/n005_87.FnUpvalueIsClosedIffDetached", spec := "fnUpvalueIsClosedIffDetached", apart := false, narrowed := true }
def FnUpvalueIsClosedIffDetachedUptoSaid : Prop := fnUpvalueIsClosedIffDetachedUptoRow.holds Try.pinned (OpenSpec.upto fnUpvalueIsClosedIffDetachedSpec)

end Rows
end Go.Proofs.Ytijbpfompooeoaa
