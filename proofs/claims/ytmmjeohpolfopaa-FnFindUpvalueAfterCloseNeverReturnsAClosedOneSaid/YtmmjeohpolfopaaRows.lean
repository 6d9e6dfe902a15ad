/-
  No cell of these rows narrows 'for every input' (looked for: loops, veiled, ifaces, maps, wideKeys, modest, calm, conditions, laid).
  DERIVED. THE GIVEN ROWS OF THIS SEAT. 4 by the template 'for every input the law returns true; each argument reads behind the call as it read before'; 0 by the template 'total and deterministic' (their statements: YtmmjeohpolfopaaTotals.lean).
  GIVEN WITH THE SEED: the statements are not yours to turn. If you find one false, say at which input.
  Laid BY PROGRAM, IN A SANDBOX (cutbox-rows.mjs): the forced cells as the released guide's own fill.sh prints them over the translation 0fcb535e35276d97… (all of the seat's roots in one cut). By AI agents, Wed Nov 11 2026. No macro, syntax, notation, axiom, sorry.
-/
import Derived.Test.YtmmjeohpolfopaaChecked
import GoSem.Claim
import GoSem.ClaimJoined
import GoSem.ClaimMapViews
import Derived.JoinedTies
import Derived.KernelRfl
namespace Go.Proofs.Ytmmjeohpolfopaa
/- THE CELL 'sum', in the pinned program and in every row, IS THE sha256 OF THE DUMP (.gsa) THAT YtmmjeohpolfopaaProg.lean LOADS. Nothing in Lean hashes anything: it is a label: what it is worth is what the hold of that sum in a sandbox is worth. -/
noncomputable def Try.pinned : Pinned := { name := "ytmmjeohpolfopaa", sum := "0fcb535e35276d972c020e8916b5aa8c56c359125a49cae7fbf37e9ab1e8ecfb", checked := Try.checked }
namespace Rows
def none {H : Type} : Left H := { results := [], args := [] }

/-- 'n005_84.FnFindUpvalueCacheIsSortedDistinctAndStable': WHATEVER THE INPUT: true; the input reads as it did. -/
def fnFindUpvalueCacheIsSortedDistinctAndStableSpec : ChangeSpec := { name := "fnFindUpvalueCacheIsSortedDistinctAndStable", fn := fun _ => fun
  | [d] => { results := [.lit (.bool true)], args := [d] }
  | _ => none }
def fnFindUpvalueCacheIsSortedDistinctAndStableRow : OpenClaim := { program := "ytmmjeohpolfopaa", sum := "0fcb535e35276d972c020e8916b5aa8c56c359125a49cae7fbf37e9ab1e8ecfb", func := "github.com/yuin/gopher-lua/n005_84.FnFindUpvalueCacheIsSortedDistinctAndStable", spec := "fnFindUpvalueCacheIsSortedDistinctAndStable", apart := false }
def FnFindUpvalueCacheIsSortedDistinctAndStableSaid : Prop := fnFindUpvalueCacheIsSortedDistinctAndStableRow.holds Try.pinned (OpenSpec.ofChange fnFindUpvalueCacheIsSortedDistinctAndStableSpec)

/-- ITS FALSE NEIGHBOUR: 'it returns false'. Refute it at one input. -/
def fnFindUpvalueCacheIsSortedDistinctAndStableWrong : ChangeSpec := { name := "fnFindUpvalueCacheIsSortedDistinctAndStable", fn := fun _ => fun
  | [d] => { results := [.lit (.bool false)], args := [d] }
  | _ => none }
def FnFindUpvalueCacheIsSortedDistinctAndStableWrongFalsely : Prop := fnFindUpvalueCacheIsSortedDistinctAndStableRow.holds Try.pinned (OpenSpec.ofChange fnFindUpvalueCacheIsSortedDistinctAndStableWrong)

/-- 'n005_84.FnCloseUpvaluesClosesExactlyThoseAtOrAboveMark': WHATEVER THE INPUT: true; the input reads as it did. -/
def fnCloseUpvaluesClosesExactlyThoseAtOrAboveMarkSpec : ChangeSpec := { name := "fnCloseUpvaluesClosesExactlyThoseAtOrAboveMark", fn := fun _ => fun
  | [d1, d2] => { results := [.lit (.bool true)], args := [d1, d2] }
  | _ => none }
def fnCloseUpvaluesClosesExactlyThoseAtOrAboveMarkRow : OpenClaim := { program := "ytmmjeohpolfopaa", sum := "0fcb535e35276d972c020e8916b5aa8c56c359125a49cae7fbf37e9ab1e8ecfb", func := "github.com/yuin/gopher-lua/n005_84.FnCloseUpvaluesClosesExactlyThoseAtOrAboveMark", spec := "fnCloseUpvaluesClosesExactlyThoseAtOrAboveMark", apart := false }
def FnCloseUpvaluesClosesExactlyThoseAtOrAboveMarkSaid : Prop := fnCloseUpvaluesClosesExactlyThoseAtOrAboveMarkRow.holds Try.pinned (OpenSpec.ofChange fnCloseUpvaluesClosesExactlyThoseAtOrAboveMarkSpec)

/-- ITS FALSE NEIGHBOUR: 'it returns false'. Refute it at one input. -/
def fnCloseUpvaluesClosesExactlyThoseAtOrAboveMarkWrong : ChangeSpec := { name := "fnCloseUpvaluesClosesExactlyThoseAtOrAboveMark", fn := fun _ => fun
  | [d1, d2] => { results := [.lit (.bool false)], args := [d1, d2] }
  | _ => none }
def FnCloseUpvaluesClosesExactlyThoseAtOrAboveMarkWrongFalsely : Prop := fnCloseUpvaluesClosesExactlyThoseAtOrAboveMarkRow.holds Try.pinned (OpenSpec.ofChange fnCloseUpvaluesClosesExactlyThoseAtOrAboveMarkWrong)

/-- 'n005_84.FnCloseUpvaluesTwiceIsOnceAtTheLowerMark': WHATEVER THE INPUT: true; the input reads as it did. -/
def fnCloseUpvaluesTwiceIsOnceAtTheLowerMarkSpec : ChangeSpec := { name := "fnCloseUpvaluesTwiceIsOnceAtTheLowerMark", fn := fun _ => fun
  | [d1, d2, d3] => { results := [.lit (.bool true)], args := [d1, d2, d3] }
  | _ => none }
def fnCloseUpvaluesTwiceIsOnceAtTheLowerMarkRow : OpenClaim := { program := "ytmmjeohpolfopaa", sum := "0fcb535e35276d972c020e8916b5aa8c56c359125a49cae7fbf37e9ab1e8ecfb", func := "github.com/yuin/gopher-lua/n005_84.FnCloseUpvaluesTwiceIsOnceAtTheLowerMark", spec := "fnCloseUpvaluesTwiceIsOnceAtTheLowerMark", apart := false }
def FnCloseUpvaluesTwiceIsOnceAtTheLowerMarkSaid : Prop := fnCloseUpvaluesTwiceIsOnceAtTheLowerMarkRow.holds Try.pinned (OpenSpec.ofChange fnCloseUpvaluesTwiceIsOnceAtTheLowerMarkSpec)

/-- ITS FALSE NEIGHBOUR: 'it returns false'. Refute it at one input. -/
def fnCloseUpvaluesTwiceIsOnceAtTheLowerMarkWrong : ChangeSpec := { name := "fnCloseUpvaluesTwiceIsOnceAtTheLowerMark", fn := fun _ => fun
  | [d1, d2, d3] => { results := [.lit (.bool false)], args := [d1, d2, d3] }
  | _ => none }
def FnCloseUpvaluesTwiceIsOnceAtTheLowerMarkWrongFalsely : Prop := fnCloseUpvaluesTwiceIsOnceAtTheLowerMarkRow.holds Try.pinned (OpenSpec.ofChange fnCloseUpvaluesTwiceIsOnceAtTheLowerMarkWrong)

/-- 'n005_84.FnFindUpvalueAfterCloseNeverReturnsAClosedOne': WHATEVER THE INPUT: true; the input reads as it did. -/
def fnFindUpvalueAfterCloseNeverReturnsAClosedOneSpec : ChangeSpec := { name := "fnFindUpvalueAfterCloseNeverReturnsAClosedOne", fn := fun _ => fun
  | [d1, d2, d3] => { results := [.lit (.bool true)], args := [d1, d2, d3] }
  | _ => none }
def fnFindUpvalueAfterCloseNeverReturnsAClosedOneRow : OpenClaim := { program := "ytmmjeohpolfopaa", sum := "0fcb535e35276d972c020e8916b5aa8c56c359125a49cae7fbf37e9ab1e8ecfb", func := "github.com/yuin/gopher-lua/n005_84.FnFindUpvalueAfterCloseNeverReturnsAClosedOne", spec := "fnFindUpvalueAfterCloseNeverReturnsAClosedOne", apart := false }
def FnFindUpvalueAfterCloseNeverReturnsAClosedOneSaid : Prop := fnFindUpvalueAfterCloseNeverReturnsAClosedOneRow.holds Try.pinned (OpenSpec.ofChange fnFindUpvalueAfterCloseNeverReturnsAClosedOneSpec)

/-- ITS FALSE NEIGHBOUR: 'it returns false'. Refute it at one input. -/
def fnFindUpvalueAfterCloseNeverReturnsAClosedOneWrong : ChangeSpec := { name := "fnFindUpvalueAfterCloseNeverReturnsAClosedOne", fn := fun _ => fun
  | [d1, d2, d3] => { results := [.lit (.bool false)], args := [d1, d2, d3] }
  | _ => none }
def FnFindUpvalueAfterCloseNeverReturnsAClosedOneWrongFalsely : Prop := fnFindUpvalueAfterCloseNeverReturnsAClosedOneRow.holds Try.pinned (OpenSpec.ofChange fnFindUpvalueAfterCloseNeverReturnsAClosedOneWrong)

/- THE SECOND FORM. 'bulk': how many values and letters a reading holds, each counted each time it is reached (what is shared counts as often as it is met; a slice's spare places count too). A statement '..UptoSaid' is the law's where the arguments, and the package variables that the reading takes, are together of bulk at most 1048576: NARROWER than '..Said'. Prove '..Said' where nothing that the law and all that it calls make is longer than what came in: it says more and counts as full. Else prove '..UptoSaid'. A law counts once. -/
mutual
def uptoBulk {H : Type} : DataW H → Nat
  | .lit (.string bytes) => bytes.length + 1
  | .lit _ => 1
  | .nil => 1
  | .ptr d => uptoBulk d + 1
  | .slice elems spare => uptoBulkAll elems + uptoBulkAll spare + 1
  | .agg parts => uptoBulkAll parts + 1
  | .iface _ d => uptoBulk d + 1
  | .map entries => uptoBulkEntries entries + 1
  | .held _ => 1
def uptoBulkAll {H : Type} : List (DataW H) → Nat
  | [] => 0
  | d :: r => uptoBulk d + uptoBulkAll r
def uptoBulkEntries {H : Type} : List (Lit × DataW H) → Nat
  | [] => 0
  | x :: r => uptoBulkEntry x + uptoBulkEntries r
def uptoBulkEntry {H : Type} : Lit × DataW H → Nat
  | (.string bytes, d) => bytes.length + uptoBulk d + 1
  | (_, d) => uptoBulk d + 1
 end
def uptoSmall : (H : Type) → List (DataW H) → Bool := fun _ ds => decide (uptoBulkAll ds ≤ 1048576)
def OpenSpec.upto (s : _root_.Go.ChangeSpec) : _root_.Go.OpenSpec := { _root_.Go.OpenSpec.ofChange s with cond := some uptoSmall }

/-- 'n005_84.FnFindUpvalueCacheIsSortedDistinctAndStable', WHERE WHAT IT READS IS OF BULK AT MOST 1048576: true; the input reads as it did. -/
def fnFindUpvalueCacheIsSortedDistinctAndStableUptoRow : OpenClaim := { program := "ytmmjeohpolfopaa", sum := "0fcb535e35276d972c020e8916b5aa8c56c359125a49cae7fbf37e9ab1e8ecfb", func := "github.com/yuin/gopher-lua/n005_84.FnFindUpvalueCacheIsSortedDistinctAndStable", spec := "fnFindUpvalueCacheIsSortedDistinctAndStable", apart := false, narrowed := true }
def FnFindUpvalueCacheIsSortedDistinctAndStableUptoSaid : Prop := fnFindUpvalueCacheIsSortedDistinctAndStableUptoRow.holds Try.pinned (OpenSpec.upto fnFindUpvalueCacheIsSortedDistinctAndStableSpec)

/-- 'n005_84.FnCloseUpvaluesClosesExactlyThoseAtOrAboveMark', WHERE WHAT IT READS IS OF BULK AT MOST 1048576: true; the input reads as it did. -/
def fnCloseUpvaluesClosesExactlyThoseAtOrAboveMarkUptoRow : OpenClaim := { program := "ytmmjeohpolfopaa", sum := "0fcb535e35276d972c020e8916b5aa8c56c359125a49cae7fbf37e9ab1e8ecfb", func := "github.com/yuin/gopher-lua/n005_84.FnCloseUpvaluesClosesExactlyThoseAtOrAboveMark", spec := "fnCloseUpvaluesClosesExactlyThoseAtOrAboveMark", apart := false, narrowed := true }
def FnCloseUpvaluesClosesExactlyThoseAtOrAboveMarkUptoSaid : Prop := fnCloseUpvaluesClosesExactlyThoseAtOrAboveMarkUptoRow.holds Try.pinned (OpenSpec.upto fnCloseUpvaluesClosesExactlyThoseAtOrAboveMarkSpec)

/-- 'n005_84.FnCloseUpvaluesTwiceIsOnceAtTheLowerMark', WHERE WHAT IT READS IS OF BULK AT MOST 1048576: true; the input reads as it did. -/
def fnCloseUpvaluesTwiceIsOnceAtTheLowerMarkUptoRow : OpenClaim := { program := "ytmmjeohpolfopaa", sum := "0fcb535e35276d972c020e8916b5aa8c56c359125a49cae7fbf37e9ab1e8ecfb", func := "github.com/yuin/gopher-lua/n005_84.FnCloseUpvaluesTwiceIsOnceAtTheLowerMark", spec := "fnCloseUpvaluesTwiceIsOnceAtTheLowerMark", apart := false, narrowed := true }
def FnCloseUpvaluesTwiceIsOnceAtTheLowerMarkUptoSaid : Prop := fnCloseUpvaluesTwiceIsOnceAtTheLowerMarkUptoRow.holds Try.pinned (OpenSpec.upto fnCloseUpvaluesTwiceIsOnceAtTheLowerMarkSpec)

/-- 'n005_84.FnFindUpvalueAfterCloseNeverReturnsAClosedOne', WHERE WHAT IT READS IS OF BULK AT MOST 1048576: true; the input reads as it did. -/
def fnFindUpvalueAfterCloseNeverReturnsAClosedOneUptoRow : OpenClaim := { program := "ytmmjeohpolfopaa", sum := "0fcb535e35276d972c020e8916b5aa8c56c359125a49cae7fbf37e9ab1e8ecfb", func := "github.com/yuin/gopher-lua/n005_84.FnFindUpvalueAfterCloseNeverReturnsAClosedOne", spec := "fnFindUpvalueAfterCloseNeverReturnsAClosedOne", apart := false, narrowed := true }
def FnFindUpvalueAfterCloseNeverReturnsAClosedOneUptoSaid : Prop := fnFindUpvalueAfterCloseNeverReturnsAClosedOneUptoRow.holds Try.pinned (OpenSpec.upto fnFindUpvalueAfterCloseNeverReturnsAClosedOneSpec)

end Rows
end Go.Proofs.Ytmmjeohpolfopaa
