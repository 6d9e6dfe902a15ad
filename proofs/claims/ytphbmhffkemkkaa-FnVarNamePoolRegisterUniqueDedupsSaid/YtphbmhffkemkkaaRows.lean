/-
  No cell of these rows narrows 'for every input' (looked for: loops, veiled, ifaces, maps, wideKeys, modest, calm, conditions, laid).
  DERIVED. THE GIVEN ROWS OF THIS SEAT. 8 by the template 'for every input the law returns true; each argument reads behind the call as it read before'; 0 by the template 'total and deterministic' (their statements: YtphbmhffkemkkaaTotals.lean).
  GIVEN WITH THE SEED: the statements are not yours to turn. If you find one false, say at which input.
  Laid BY PROGRAM, IN A SANDBOX (cutbox-rows.mjs): the forced cells as the released guide's own fill.sh prints them over the translation 096f79b5052021ef… (all of the seat's roots in one cut). By AI agents, Wed Nov 11 2026. No macro, syntax, notation, axiom, sorry.
-/
import Derived.Test.YtphbmhffkemkkaaChecked
import GoSem.Claim
import GoSem.ClaimJoined
import GoSem.ClaimMapViews
import Derived.JoinedTies
import Derived.KernelRfl
namespace Go.Proofs.Ytphbmhffkemkkaa
/- THE CELL 'sum', in the pinned program and in every row, IS THE sha256 OF THE DUMP (.gsa) THAT YtphbmhffkemkkaaProg.lean LOADS. Nothing in Lean hashes anything: it is a label: what it is worth is what the hold of that sum in a sandbox is worth. -/
noncomputable def Try.pinned : Pinned := { name := "ytphbmhffkemkkaa", sum := "096f79b5052021ef0c77c67bda10a846cd4a44bb3ae936eb0249c2d8838ff80a", checked := Try.checked }
namespace Rows
def none {H : Type} : Left H := { results := [], args := [] }

/-- 'n005_8.FnCodeStoreLastIsLastAdded': WHATEVER THE INPUT: true; the input reads as it did. -/
def fnCodeStoreLastIsLastAddedSpec : ChangeSpec := { name := "fnCodeStoreLastIsLastAdded", fn := fun _ => fun
  | [d] => { results := [.lit (.bool true)], args := [d] }
  | _ => none }
def fnCodeStoreLastIsLastAddedRow : OpenClaim := { program := "ytphbmhffkemkkaa", sum := "096f79b5052021ef0c77c67bda10a846cd4a44bb3ae936eb0249c2d8838ff80a", func := "github.com/yuin/gopher-lua/n005_8.FnCodeStoreLastIsLastAdded", spec := "fnCodeStoreLastIsLastAdded", apart := false }
def FnCodeStoreLastIsLastAddedSaid : Prop := fnCodeStoreLastIsLastAddedRow.holds Try.pinned (OpenSpec.ofChange fnCodeStoreLastIsLastAddedSpec)

/-- ITS FALSE NEIGHBOUR: 'it returns false'. Refute it at one input. -/
def fnCodeStoreLastIsLastAddedWrong : ChangeSpec := { name := "fnCodeStoreLastIsLastAdded", fn := fun _ => fun
  | [d] => { results := [.lit (.bool false)], args := [d] }
  | _ => none }
def FnCodeStoreLastIsLastAddedWrongFalsely : Prop := fnCodeStoreLastIsLastAddedRow.holds Try.pinned (OpenSpec.ofChange fnCodeStoreLastIsLastAddedWrong)

/-- 'n005_8.FnNewVarNamePoolIsEmpty': WHATEVER THE INPUT: true; the input reads as it did. -/
def fnNewVarNamePoolIsEmptySpec : ChangeSpec := { name := "fnNewVarNamePoolIsEmpty", fn := fun _ => fun
  | [d1, d2] => { results := [.lit (.bool true)], args := [d1, d2] }
  | _ => none }
def fnNewVarNamePoolIsEmptyRow : OpenClaim := { program := "ytphbmhffkemkkaa", sum := "096f79b5052021ef0c77c67bda10a846cd4a44bb3ae936eb0249c2d8838ff80a", func := "github.com/yuin/gopher-lua/n005_8.FnNewVarNamePoolIsEmpty", spec := "fnNewVarNamePoolIsEmpty", apart := false }
def FnNewVarNamePoolIsEmptySaid : Prop := fnNewVarNamePoolIsEmptyRow.holds Try.pinned (OpenSpec.ofChange fnNewVarNamePoolIsEmptySpec)

/-- ITS FALSE NEIGHBOUR: 'it returns false'. Refute it at one input. -/
def fnNewVarNamePoolIsEmptyWrong : ChangeSpec := { name := "fnNewVarNamePoolIsEmpty", fn := fun _ => fun
  | [d1, d2] => { results := [.lit (.bool false)], args := [d1, d2] }
  | _ => none }
def FnNewVarNamePoolIsEmptyWrongFalsely : Prop := fnNewVarNamePoolIsEmptyRow.holds Try.pinned (OpenSpec.ofChange fnNewVarNamePoolIsEmptyWrong)

/-- 'n005_8.FnVarNamePoolNamesAreRegisteredInOrder': WHATEVER THE INPUT: true; the input reads as it did. -/
def fnVarNamePoolNamesAreRegisteredInOrderSpec : ChangeSpec := { name := "fnVarNamePoolNamesAreRegisteredInOrder", fn := fun _ => fun
  | [d1, d2] => { results := [.lit (.bool true)], args := [d1, d2] }
  | _ => none }
def fnVarNamePoolNamesAreRegisteredInOrderRow : OpenClaim := { program := "ytphbmhffkemkkaa", sum := "096f79b5052021ef0c77c67bda10a846cd4a44bb3ae936eb0249c2d8838ff80a", func := "github.com/yuin/gopher-lua/n005_8.FnVarNamePoolNamesAreRegisteredInOrder", spec := "fnVarNamePoolNamesAreRegisteredInOrder", apart := false }
def FnVarNamePoolNamesAreRegisteredInOrderSaid : Prop := fnVarNamePoolNamesAreRegisteredInOrderRow.holds Try.pinned (OpenSpec.ofChange fnVarNamePoolNamesAreRegisteredInOrderSpec)

/-- ITS FALSE NEIGHBOUR: 'it returns false'. Refute it at one input. -/
def fnVarNamePoolNamesAreRegisteredInOrderWrong : ChangeSpec := { name := "fnVarNamePoolNamesAreRegisteredInOrder", fn := fun _ => fun
  | [d1, d2] => { results := [.lit (.bool false)], args := [d1, d2] }
  | _ => none }
def FnVarNamePoolNamesAreRegisteredInOrderWrongFalsely : Prop := fnVarNamePoolNamesAreRegisteredInOrderRow.holds Try.pinned (OpenSpec.ofChange fnVarNamePoolNamesAreRegisteredInOrderWrong)

/-- 'n005_8.FnCodeStorePopThenAddReplaces': WHATEVER THE INPUT: true; the input reads as it did. -/
def fnCodeStorePopThenAddReplacesSpec : ChangeSpec := { name := "fnCodeStorePopThenAddReplaces", fn := fun _ => fun
  | [d1, d2, d3] => { results := [.lit (.bool true)], args := [d1, d2, d3] }
  | _ => none }
def fnCodeStorePopThenAddReplacesRow : OpenClaim := { program := "ytphbmhffkemkkaa", sum := "096f79b5052021ef0c77c67bda10a846cd4a44bb3ae936eb0249c2d8838ff80a", func := "github.com/yuin/gopher-lua/n005_8.FnCodeStorePopThenAddReplaces", spec := "fnCodeStorePopThenAddReplaces", apart := false }
def FnCodeStorePopThenAddReplacesSaid : Prop := fnCodeStorePopThenAddReplacesRow.holds Try.pinned (OpenSpec.ofChange fnCodeStorePopThenAddReplacesSpec)

/-- ITS FALSE NEIGHBOUR: 'it returns false'. Refute it at one input. -/
def fnCodeStorePopThenAddReplacesWrong : ChangeSpec := { name := "fnCodeStorePopThenAddReplaces", fn := fun _ => fun
  | [d1, d2, d3] => { results := [.lit (.bool false)], args := [d1, d2, d3] }
  | _ => none }
def FnCodeStorePopThenAddReplacesWrongFalsely : Prop := fnCodeStorePopThenAddReplacesRow.holds Try.pinned (OpenSpec.ofChange fnCodeStorePopThenAddReplacesWrong)

/-- 'n005_8.FnVarNamePoolNamesAgreeWithListAndFind': WHATEVER THE INPUT: true; the input reads as it did. -/
def fnVarNamePoolNamesAgreeWithListAndFindSpec : ChangeSpec := { name := "fnVarNamePoolNamesAgreeWithListAndFind", fn := fun _ => fun
  | [d1, d2] => { results := [.lit (.bool true)], args := [d1, d2] }
  | _ => none }
def fnVarNamePoolNamesAgreeWithListAndFindRow : OpenClaim := { program := "ytphbmhffkemkkaa", sum := "096f79b5052021ef0c77c67bda10a846cd4a44bb3ae936eb0249c2d8838ff80a", func := "github.com/yuin/gopher-lua/n005_8.FnVarNamePoolNamesAgreeWithListAndFind", spec := "fnVarNamePoolNamesAgreeWithListAndFind", apart := false }
def FnVarNamePoolNamesAgreeWithListAndFindSaid : Prop := fnVarNamePoolNamesAgreeWithListAndFindRow.holds Try.pinned (OpenSpec.ofChange fnVarNamePoolNamesAgreeWithListAndFindSpec)

/-- ITS FALSE NEIGHBOUR: 'it returns false'. Refute it at one input. -/
def fnVarNamePoolNamesAgreeWithListAndFindWrong : ChangeSpec := { name := "fnVarNamePoolNamesAgreeWithListAndFind", fn := fun _ => fun
  | [d1, d2] => { results := [.lit (.bool false)], args := [d1, d2] }
  | _ => none }
def FnVarNamePoolNamesAgreeWithListAndFindWrongFalsely : Prop := fnVarNamePoolNamesAgreeWithListAndFindRow.holds Try.pinned (OpenSpec.ofChange fnVarNamePoolNamesAgreeWithListAndFindWrong)

/-- 'n005_8.FnCodeStoreScriptMatchesStack': WHATEVER THE INPUT: true; the input reads as it did. -/
def fnCodeStoreScriptMatchesStackSpec : ChangeSpec := { name := "fnCodeStoreScriptMatchesStack", fn := fun _ => fun
  | [d] => { results := [.lit (.bool true)], args := [d] }
  | _ => none }
def fnCodeStoreScriptMatchesStackRow : OpenClaim := { program := "ytphbmhffkemkkaa", sum := "096f79b5052021ef0c77c67bda10a846cd4a44bb3ae936eb0249c2d8838ff80a", func := "github.com/yuin/gopher-lua/n005_8.FnCodeStoreScriptMatchesStack", spec := "fnCodeStoreScriptMatchesStack", apart := false }
def FnCodeStoreScriptMatchesStackSaid : Prop := fnCodeStoreScriptMatchesStackRow.holds Try.pinned (OpenSpec.ofChange fnCodeStoreScriptMatchesStackSpec)

/-- ITS FALSE NEIGHBOUR: 'it returns false'. Refute it at one input. -/
def fnCodeStoreScriptMatchesStackWrong : ChangeSpec := { name := "fnCodeStoreScriptMatchesStack", fn := fun _ => fun
  | [d] => { results := [.lit (.bool false)], args := [d] }
  | _ => none }
def FnCodeStoreScriptMatchesStackWrongFalsely : Prop := fnCodeStoreScriptMatchesStackRow.holds Try.pinned (OpenSpec.ofChange fnCodeStoreScriptMatchesStackWrong)

/-- 'n005_8.FnVarNamePoolRegisterUniqueDedups': WHATEVER THE INPUT: true; the input reads as it did. -/
def fnVarNamePoolRegisterUniqueDedupsSpec : ChangeSpec := { name := "fnVarNamePoolRegisterUniqueDedups", fn := fun _ => fun
  | [d1, d2] => { results := [.lit (.bool true)], args := [d1, d2] }
  | _ => none }
def fnVarNamePoolRegisterUniqueDedupsRow : OpenClaim := { program := "ytphbmhffkemkkaa", sum := "096f79b5052021ef0c77c67bda10a846cd4a44bb3ae936eb0249c2d8838ff80a", func := "github.com/yuin/gopher-lua/n005_8.FnVarNamePoolRegisterUniqueDedups", spec := "fnVarNamePoolRegisterUniqueDedups", apart := false }
def FnVarNamePoolRegisterUniqueDedupsSaid : Prop := fnVarNamePoolRegisterUniqueDedupsRow.holds Try.pinned (OpenSpec.ofChange fnVarNamePoolRegisterUniqueDedupsSpec)

/-- ITS FALSE NEIGHBOUR: 'it returns false'. Refute it at one input. -/
def fnVarNamePoolRegisterUniqueDedupsWrong : ChangeSpec := { name := "fnVarNamePoolRegisterUniqueDedups", fn := fun _ => fun
  | [d1, d2] => { results := [.lit (.bool false)], args := [d1, d2] }
  | _ => none }
def FnVarNamePoolRegisterUniqueDedupsWrongFalsely : Prop := fnVarNamePoolRegisterUniqueDedupsRow.holds Try.pinned (OpenSpec.ofChange fnVarNamePoolRegisterUniqueDedupsWrong)

/-- 'n005_8.FnCodeStorePopKTruncates': WHATEVER THE INPUT: true; the input reads as it did. -/
def fnCodeStorePopKTruncatesSpec : ChangeSpec := { name := "fnCodeStorePopKTruncates", fn := fun _ => fun
  | [d1, d2] => { results := [.lit (.bool true)], args := [d1, d2] }
  | _ => none }
def fnCodeStorePopKTruncatesRow : OpenClaim := { program := "ytphbmhffkemkkaa", sum := "096f79b5052021ef0c77c67bda10a846cd4a44bb3ae936eb0249c2d8838ff80a", func := "github.com/yuin/gopher-lua/n005_8.FnCodeStorePopKTruncates", spec := "fnCodeStorePopKTruncates", apart := false }
def FnCodeStorePopKTruncatesSaid : Prop := fnCodeStorePopKTruncatesRow.holds Try.pinned (OpenSpec.ofChange fnCodeStorePopKTruncatesSpec)

/-- ITS FALSE NEIGHBOUR: 'it returns false'. Refute it at one input. -/
def fnCodeStorePopKTruncatesWrong : ChangeSpec := { name := "fnCodeStorePopKTruncates", fn := fun _ => fun
  | [d1, d2] => { results := [.lit (.bool false)], args := [d1, d2] }
  | _ => none }
def FnCodeStorePopKTruncatesWrongFalsely : Prop := fnCodeStorePopKTruncatesRow.holds Try.pinned (OpenSpec.ofChange fnCodeStorePopKTruncatesWrong)

/- THE SECOND FORM. 'bulk': how many values and letters a reading holds, each counted each time it is reached (what is shared counts as often as it is met; a slice's spare places count too). A statement '..UptoSaid' is the law's where the arguments, and the package variables that the reading takes, are together of bulk at most 1048576: NARROWER than '..Said'. Prove '..Said' where nothing that the law and all that it calls make is longer than what came in: it says more and counts as full. Else prove '..UptoSaid'. A law counts once. -/
mutual
def uptoBulk {H : Type} : DataW H → Nat
  | .lit (.string bytes) => bytes.length + 1
  | .lit _ => 1
  | .nil => 1
  | .ptr d => uptoBulk d + 1
  | .slice elems spare => uptoBulkAll elems + uptoBulkAll spare + 1
  | .agg parts => uptoBulkAll parts + 1
  | .iface _ d => uptoBulk d + 1
  | .map entries => uptoBulkEntries entries + 1
  | .held _ => 1
def uptoBulkAll {H : Type} : List (DataW H) → Nat
  | [] => 0
  | d :: r => uptoBulk d + uptoBulkAll r
def uptoBulkEntries {H : Type} : List (Lit × DataW H) → Nat
  | [] => 0
  | x :: r => uptoBulkEntry x + uptoBulkEntries r
def uptoBulkEntry {H : Type} : Lit × DataW H → Nat
  | (.string bytes, d) => bytes.length + uptoBulk d + 1
  | (_, d) => uptoBulk d + 1
 end
def uptoSmall : (H : Type) → List (DataW H) → Bool := fun _ ds => decide (uptoBulkAll ds ≤ 1048576)
def OpenSpec.upto (s : _root_.Go.ChangeSpec) : _root_.Go.OpenSpec := { _root_.Go.OpenSpec.ofChange s with cond := some uptoSmall }

/-- 'n005_8.FnCodeStoreLastIsLastAdded', WHERE WHAT IT READS IS OF BULK AT MOST 1048576: true; the input reads as it did. -/
def fnCodeStoreLastIsLastAddedUptoRow : OpenClaim := { program := "ytphbmhffkemkkaa", sum := "096f79b5052021ef0c77c67bda10a846cd4a44bb3ae936eb0249c2d8838ff80a", func := "github.com/yuin/gopher-lua/n005_8.FnCodeStoreLastIsLastAdded", spec := "fnCodeStoreLastIsLastAdded", apart := false, narrowed := true }
def FnCodeStoreLastIsLastAddedUptoSaid : Prop := fnCodeStoreLastIsLastAddedUptoRow.holds Try.pinned (OpenSpec.upto fnCodeStoreLastIsLastAddedSpec)

/-- 'n005_8.FnNewVarNamePoolIsEmpty', WHERE WHAT IT READS IS OF BULK AT MOST 1048576: true; the input reads as it did. -/
def fnNewVarNamePoolIsEmptyUptoRow : OpenClaim := { program := "ytphbmhffkemkkaa", sum := "096f79b5052021ef0c77c67bda10a846cd4a44bb3ae936eb0249c2d8838ff80a", func := "github.com/yuin/gopher-lua/n005_8.FnNewVarNamePoolIsEmpty", spec := "fnNewVarNamePoolIsEmpty", apart := false, narrowed := true }
def FnNewVarNamePoolIsEmptyUptoSaid : Prop := fnNewVarNamePoolIsEmptyUptoRow.holds Try.pinned (OpenSpec.upto fnNewVarNamePoolIsEmptySpec)

/-- 'n005_8.FnVarNamePoolNamesAreRegisteredInOrder', WHERE WHAT IT READS IS OF BULK AT MOST 1048576: true; the input reads as it did. -/
def fnVarNamePoolNamesAreRegisteredInOrderUptoRow : OpenClaim := { program := "ytphbmhffkemkkaa", sum := "096f79b5052021ef0c77c67bda10a846cd4a44bb3ae936eb0249c2d8838ff80a", func := "github.com/yuin/gopher-lua/n005_8.FnVarNamePoolNamesAreRegisteredInOrder", spec := "fnVarNamePoolNamesAreRegisteredInOrder", apart := false, narrowed := true }
def FnVarNamePoolNamesAreRegisteredInOrderUptoSaid : Prop := fnVarNamePoolNamesAreRegisteredInOrderUptoRow.holds Try.pinned (OpenSpec.upto fnVarNamePoolNamesAreRegisteredInOrderSpec)

/-- 'n005_8.FnCodeStorePopThenAddReplaces', WHERE WHAT IT READS IS OF BULK AT MOST 1048576: true; the input reads as it did. -/
def fnCodeStorePopThenAddReplacesUptoRow : OpenClaim := { program := "ytphbmhffkemkkaa", sum := "096f79b5052021ef0c77c67bda10a846cd4a44bb3ae936eb0249c2d8838ff80a", func := "github.com/yuin/gopher-lua/n005_8.FnCodeStorePopThenAddReplaces", spec := "fnCodeStorePopThenAddReplaces", apart := false, narrowed := true }
def FnCodeStorePopThenAddReplacesUptoSaid : Prop := fnCodeStorePopThenAddReplacesUptoRow.holds Try.pinned (OpenSpec.upto fnCodeStorePopThenAddReplacesSpec)

/-- 'n005_8.FnVarNamePoolNamesAgreeWithListAndFind', WHERE WHAT IT READS IS OF BULK AT MOST 1048576: true; the input reads as it did. -/
def fnVarNamePoolNamesAgreeWithListAndFindUptoRow : OpenClaim := { program := "ytphbmhffkemkkaa", sum := "096f79b5052021ef0c77c67bda10a846cd4a44bb3ae936eb0249c2d8838ff80a", func := "github.com/yuin/gopher-lua/n005_8.FnVarNamePoolNamesAgreeWithListAndFind", spec := "fnVarNamePoolNamesAgreeWithListAndFind", apart := false, narrowed := true }
def FnVarNamePoolNamesAgreeWithListAndFindUptoSaid : Prop := fnVarNamePoolNamesAgreeWithListAndFindUptoRow.holds Try.pinned (OpenSpec.upto fnVarNamePoolNamesAgreeWithListAndFindSpec)

/-- 'n005_8.FnCodeStoreScriptMatchesStack', WHERE WHAT IT READS IS OF BULK AT MOST 1048576: true; the input reads as it did. -/
def fnCodeStoreScriptMatchesStackUptoRow : OpenClaim := { program := "ytphbmhffkemkkaa", sum := "096f79b5052021ef0c77c67bda10a846cd4a44bb3ae936eb0249c2d8838ff80a", func := "github.com/yuin/gopher-lua/n005_8.FnCodeStoreScriptMatchesStack", spec := "fnCodeStoreScriptMatchesStack", apart := false, narrowed := true }
def FnCodeStoreScriptMatchesStackUptoSaid : Prop := fnCodeStoreScriptMatchesStackUptoRow.holds Try.pinned (OpenSpec.upto fnCodeStoreScriptMatchesStackSpec)

/-- 'n005_8.FnVarNamePoolRegisterUniqueDedups', WHERE WHAT IT READS IS OF BULK AT MOST 1048576: true; the input reads as it did. -/
def fnVarNamePoolRegisterUniqueDedupsUptoRow : OpenClaim := { program := "ytphbmhffkemkkaa", sum := "096f79b5052021ef0c77c67bda10a846cd4a44bb3ae936eb0249c2d8838ff80a", func := "github.com/yuin/gopher-lua/n005_8.FnVarNamePoolRegisterUniqueDedups", spec := "fnVarNamePoolRegisterUniqueDedups", apart := false, narrowed := true }
def FnVarNamePoolRegisterUniqueDedupsUptoSaid : Prop := fnVarNamePoolRegisterUniqueDedupsUptoRow.holds Try.pinned (OpenSpec.upto fnVarNamePoolRegisterUniqueDedupsSpec)

/-- 'n005_8.FnCodeStorePopKTruncates', WHERE WHAT IT READS IS OF BULK AT MOST 1048576: true; the input reads as it did. -/
def fnCodeStorePopKTruncatesUptoRow : OpenClaim := { program := "ytphbmhffkemkkaa", sum := "096f79b5052021ef0c77c67bda10a846cd4a44bb3ae936eb0249c2d8838ff80a", func := "github.com/yuin/gopher-lua/n005_8.FnCodeStorePopKTruncates", spec := "fnCodeStorePopKTruncates", apart := false, narrowed := true }
def FnCodeStorePopKTruncatesUptoSaid : Prop := fnCodeStorePopKTruncatesUptoRow.holds Try.pinned (OpenSpec.upto fnCodeStorePopKTruncatesSpec)

end Rows
end Go.Proofs.Ytphbmhffkemkkaa
