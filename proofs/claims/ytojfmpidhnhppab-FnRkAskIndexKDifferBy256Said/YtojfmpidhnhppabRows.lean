/-
  No cell of these rows narrows 'for every input' (looked for: loops, veiled, ifaces, maps, wideKeys, modest, calm, conditions, laid).
  DERIVED. THE GIVEN ROWS OF THIS SEAT. 5 by the template 'for every input the law returns true; each argument reads behind the call as it read before'; 0 by the template 'total and deterministic' (their statements: YtojfmpidhnhppabTotals.lean).
  GIVEN WITH THE SEED: the statements are not yours to turn. If you find one false, say at which input.
  Laid BY PROGRAM, IN A SANDBOX (cutbox-rows.mjs): the forced cells as the released guide's own fill.sh prints them over the translation 89894010ad1fcbfb… (all of the seat's roots in one cut). By AI agents, Wed Nov 11 2026. No macro, syntax, notation, axiom, sorry.
-/
import Derived.Test.YtojfmpidhnhppabChecked
import GoSem.Claim
import GoSem.ClaimJoined
import GoSem.ClaimMapViews
import Derived.JoinedTies
import Derived.KernelRfl
namespace Go.Proofs.Ytojfmpidhnhppab
/- THE CELL 'sum', in the pinned program and in every row, IS THE sha256 OF THE DUMP (.gsa) THAT YtojfmpidhnhppabProg.lean LOADS. Nothing in Lean hashes anything: it is a label: what it is worth is what the hold of that sum in a sandbox is worth. -/
noncomputable def Try.pinned : Pinned := { name := "ytojfmpidhnhppab", sum := "89894010ad1fcbfb688fffce35ec872c50e27d8db312543c7a3d565589e73054", checked := Try.checked }
namespace Rows
def none {H : Type} : Left H := { results := [], args := [] }

/-- 'n005_74.FnIndexKClearsOnlyTheKBit': WHATEVER THE INPUT: true; the input reads as it did. -/
def fnIndexKClearsOnlyTheKBitSpec : ChangeSpec := { name := "fnIndexKClearsOnlyTheKBit", fn := fun _ => fun
  | [d] => { results := [.lit (.bool true)], args := [d] }
  | _ => none }
def fnIndexKClearsOnlyTheKBitRow : OpenClaim := { program := "ytojfmpidhnhppab", sum := "89894010ad1fcbfb688fffce35ec872c50e27d8db312543c7a3d565589e73054", func := "github.com/yuin/gopher-lua/n005_74.FnIndexKClearsOnlyTheKBit", spec := "fnIndexKClearsOnlyTheKBit", apart := false }
def FnIndexKClearsOnlyTheKBitSaid : Prop := fnIndexKClearsOnlyTheKBitRow.holds Try.pinned (OpenSpec.ofChange fnIndexKClearsOnlyTheKBitSpec)

/-- ITS FALSE NEIGHBOUR: 'it returns false'. Refute it at one input. -/
def fnIndexKClearsOnlyTheKBitWrong : ChangeSpec := { name := "fnIndexKClearsOnlyTheKBit", fn := fun _ => fun
  | [d] => { results := [.lit (.bool false)], args := [d] }
  | _ => none }
def FnIndexKClearsOnlyTheKBitWrongFalsely : Prop := fnIndexKClearsOnlyTheKBitRow.holds Try.pinned (OpenSpec.ofChange fnIndexKClearsOnlyTheKBitWrong)

/-- 'n005_74.FnRkAskSetsOnlyTheKBit': WHATEVER THE INPUT: true; the input reads as it did. -/
def fnRkAskSetsOnlyTheKBitSpec : ChangeSpec := { name := "fnRkAskSetsOnlyTheKBit", fn := fun _ => fun
  | [d] => { results := [.lit (.bool true)], args := [d] }
  | _ => none }
def fnRkAskSetsOnlyTheKBitRow : OpenClaim := { program := "ytojfmpidhnhppab", sum := "89894010ad1fcbfb688fffce35ec872c50e27d8db312543c7a3d565589e73054", func := "github.com/yuin/gopher-lua/n005_74.FnRkAskSetsOnlyTheKBit", spec := "fnRkAskSetsOnlyTheKBit", apart := false }
def FnRkAskSetsOnlyTheKBitSaid : Prop := fnRkAskSetsOnlyTheKBitRow.holds Try.pinned (OpenSpec.ofChange fnRkAskSetsOnlyTheKBitSpec)

/-- ITS FALSE NEIGHBOUR: 'it returns false'. Refute it at one input. -/
def fnRkAskSetsOnlyTheKBitWrong : ChangeSpec := { name := "fnRkAskSetsOnlyTheKBit", fn := fun _ => fun
  | [d] => { results := [.lit (.bool false)], args := [d] }
  | _ => none }
def FnRkAskSetsOnlyTheKBitWrongFalsely : Prop := fnRkAskSetsOnlyTheKBitRow.holds Try.pinned (OpenSpec.ofChange fnRkAskSetsOnlyTheKBitWrong)

/-- 'n005_74.FnIndexKIdempotentAndUnmarks': WHATEVER THE INPUT: true; the input reads as it did. -/
def fnIndexKIdempotentAndUnmarksSpec : ChangeSpec := { name := "fnIndexKIdempotentAndUnmarks", fn := fun _ => fun
  | [d] => { results := [.lit (.bool true)], args := [d] }
  | _ => none }
def fnIndexKIdempotentAndUnmarksRow : OpenClaim := { program := "ytojfmpidhnhppab", sum := "89894010ad1fcbfb688fffce35ec872c50e27d8db312543c7a3d565589e73054", func := "github.com/yuin/gopher-lua/n005_74.FnIndexKIdempotentAndUnmarks", spec := "fnIndexKIdempotentAndUnmarks", apart := false }
def FnIndexKIdempotentAndUnmarksSaid : Prop := fnIndexKIdempotentAndUnmarksRow.holds Try.pinned (OpenSpec.ofChange fnIndexKIdempotentAndUnmarksSpec)

/-- ITS FALSE NEIGHBOUR: 'it returns false'. Refute it at one input. -/
def fnIndexKIdempotentAndUnmarksWrong : ChangeSpec := { name := "fnIndexKIdempotentAndUnmarks", fn := fun _ => fun
  | [d] => { results := [.lit (.bool false)], args := [d] }
  | _ => none }
def FnIndexKIdempotentAndUnmarksWrongFalsely : Prop := fnIndexKIdempotentAndUnmarksRow.holds Try.pinned (OpenSpec.ofChange fnIndexKIdempotentAndUnmarksWrong)

/-- 'n005_74.FnRkAskRoundTripOnConstantIndices': WHATEVER THE INPUT: true; the input reads as it did. -/
def fnRkAskRoundTripOnConstantIndicesSpec : ChangeSpec := { name := "fnRkAskRoundTripOnConstantIndices", fn := fun _ => fun
  | [d] => { results := [.lit (.bool true)], args := [d] }
  | _ => none }
def fnRkAskRoundTripOnConstantIndicesRow : OpenClaim := { program := "ytojfmpidhnhppab", sum := "89894010ad1fcbfb688fffce35ec872c50e27d8db312543c7a3d565589e73054", func := "github.com/yuin/gopher-lua/n005_74.FnRkAskRoundTripOnConstantIndices", spec := "fnRkAskRoundTripOnConstantIndices", apart := false }
def FnRkAskRoundTripOnConstantIndicesSaid : Prop := fnRkAskRoundTripOnConstantIndicesRow.holds Try.pinned (OpenSpec.ofChange fnRkAskRoundTripOnConstantIndicesSpec)

/-- ITS FALSE NEIGHBOUR: 'it returns false'. Refute it at one input. -/
def fnRkAskRoundTripOnConstantIndicesWrong : ChangeSpec := { name := "fnRkAskRoundTripOnConstantIndices", fn := fun _ => fun
  | [d] => { results := [.lit (.bool false)], args := [d] }
  | _ => none }
def FnRkAskRoundTripOnConstantIndicesWrongFalsely : Prop := fnRkAskRoundTripOnConstantIndicesRow.holds Try.pinned (OpenSpec.ofChange fnRkAskRoundTripOnConstantIndicesWrong)

/-- 'n005_74.FnRkAskIndexKDifferBy256': WHATEVER THE INPUT: true; the input reads as it did. -/
def fnRkAskIndexKDifferBy256Spec : ChangeSpec := { name := "fnRkAskIndexKDifferBy256", fn := fun _ => fun
  | [d] => { results := [.lit (.bool true)], args := [d] }
  | _ => none }
def fnRkAskIndexKDifferBy256Row : OpenClaim := { program := "ytojfmpidhnhppab", sum := "89894010ad1fcbfb688fffce35ec872c50e27d8db312543c7a3d565589e73054", func := "github.com/yuin/gopher-lua/n005_74.FnRkAskIndexKDifferBy256", spec := "fnRkAskIndexKDifferBy256", apart := false }
def FnRkAskIndexKDifferBy256Said : Prop := fnRkAskIndexKDifferBy256Row.holds Try.pinned (OpenSpec.ofChange fnRkAskIndexKDifferBy256Spec)

/-- ITS FALSE NEIGHBOUR: 'it returns false'. Refute it at one input. -/
def fnRkAskIndexKDifferBy256Wrong : ChangeSpec := { name := "fnRkAskIndexKDifferBy256", fn := fun _ => fun
  | [d] => { results := [.lit (.bool false)], args := [d] }
  | _ => none }
def FnRkAskIndexKDifferBy256WrongFalsely : Prop := fnRkAskIndexKDifferBy256Row.holds Try.pinned (OpenSpec.ofChange fnRkAskIndexKDifferBy256Wrong)

/- THE SECOND FORM. 'bulk': how many values and letters a reading holds, each counted each time it is reached (what is shared counts as often as it is met; a slice's spare places count too). A statement '..UptoSaid' is the law's where the arguments, and the package variables that the reading takes, are together of bulk at most 1048576: NARROWER than '..Said'. Prove '..Said' where nothing that the law and all that it calls make is longer than what came in: it says more and counts as full. Else prove '..UptoSaid'. A law counts once. -/
mutual
def uptoBulk {H : Type} : DataW H → Nat
  | .lit (.string bytes) => bytes.length + 1
  | .lit _ => 1
  | .nil => 1
  | .ptr d => uptoBulk d + 1
  | .slice elems spare => uptoBulkAll elems + uptoBulkAll spare + 1
  | .agg parts => uptoBulkAll parts + 1
  | .iface _ d => uptoBulk d + 1
  | .map entries => uptoBulkEntries entries + 1
  | .held _ => 1
def uptoBulkAll {H : Type} : List (DataW H) → Nat
  | [] => 0
  | d :: r => uptoBulk d + uptoBulkAll r
def uptoBulkEntries {H : Type} : List (Lit × DataW H) → Nat
  | [] => 0
  | x :: r => uptoBulkEntry x + uptoBulkEntries r
def uptoBulkEntry {H : Type} : Lit × DataW H → Nat
  | (.string bytes, d) => bytes.length + uptoBulk d + 1
  | (_, d) => uptoBulk d + 1
 end
def uptoSmall : (H : Type) → List (DataW H) → Bool := fun _ ds => decide (uptoBulkAll ds ≤ 1048576)
def OpenSpec.upto (s : _root_.Go.ChangeSpec) : _root_.Go.OpenSpec := { _root_.Go.OpenSpec.ofChange s with cond := some uptoSmall }

/-- 'n005_74.FnIndexKClearsOnlyTheKBit', WHERE WHAT IT READS IS OF BULK AT MOST 1048576: true; the input reads as it did. -/
def fnIndexKClearsOnlyTheKBitUptoRow : OpenClaim := { program := "ytojfmpidhnhppab", sum := "89894010ad1fcbfb688fffce35ec872c50e27d8db312543c7a3d565589e73054", func := "github.com/yuin/gopher-lua/n005_74.FnIndexKClearsOnlyTheKBit", spec := "fnIndexKClearsOnlyTheKBit", apart := false, narrowed := true }
def FnIndexKClearsOnlyTheKBitUptoSaid : Prop := fnIndexKClearsOnlyTheKBitUptoRow.holds Try.pinned (OpenSpec.upto fnIndexKClearsOnlyTheKBitSpec)

/-- 'n005_74.FnRkAskSetsOnlyTheKBit', WHERE WHAT IT READS IS OF BULK AT MOST 1048576: true; the input reads as it did. -/
def fnRkAskSetsOnlyTheKBitUptoRow : OpenClaim := { program := "ytojfmpidhnhppab", sum := "89894010ad1fcbfb688fffce35ec872c50e27d8db312543c7a3d565589e73054", func := "github.com/yuin/gopher-lua/n005_74.FnRkAskSetsOnlyTheKBit", spec := "fnRkAskSetsOnlyTheKBit", apart := false, narrowed := true }
def FnRkAskSetsOnlyTheKBitUptoSaid : Prop := fnRkAskSetsOnlyTheKBitUptoRow.holds Try.pinned (OpenSpec.upto fnRkAskSetsOnlyTheKBitSpec)

/-- 'n005_74.FnIndexKIdempotentAndUnmarks', WHERE WHAT IT READS IS OF BULK AT MOST 1048576: true; the input reads as it did. -/
def fnIndexKIdempotentAndUnmarksUptoRow : OpenClaim := { program := "ytojfmpidhnhppab", sum := "89894010ad1fcbfb688fffce35ec872c50e27d8db312543c7a3d565589e73054", func := "github.com/yuin/gopher-lua/n005_74.FnIndexKIdempotentAndUnmarks", spec := "fnIndexKIdempotentAndUnmarks", apart := false, narrowed := true }
def FnIndexKIdempotentAndUnmarksUptoSaid : Prop := fnIndexKIdempotentAndUnmarksUptoRow.holds Try.pinned (OpenSpec.upto fnIndexKIdempotentAndUnmarksSpec)

/-- 'n005_74.FnRkAskRoundTripOnConstantIndices', WHERE WHAT IT READS IS OF BULK AT MOST 1048576: true; the input reads as it did. -/
def fnRkAskRoundTripOnConstantIndicesUptoRow : OpenClaim := { program := "ytojfmpidhnhppab", sum := "89894010ad1fcbfb688fffce35ec872c50e27d8db312543c7a3d565589e73054", func := "github.com/yuin/gopher-lua/n005_74.FnRkAskRoundTripOnConstantIndices", spec := "fnRkAskRoundTripOnConstantIndices", apart := false, narrowed := true }
def FnRkAskRoundTripOnConstantIndicesUptoSaid : Prop := fnRkAskRoundTripOnConstantIndicesUptoRow.holds Try.pinned (OpenSpec.upto fnRkAskRoundTripOnConstantIndicesSpec)

/-- 'n005_74.FnRkAskIndexKDifferBy256', WHERE WHAT IT READS IS OF BULK AT MOST 1048576: true; the input reads as it did. -/
def fnRkAskIndexKDifferBy256UptoRow : OpenClaim := { program := "ytojfmpidhnhppab", sum := "89894010ad1fcbfb688fffce35ec872c50e27d8db312543c7a3d565589e73054", func := "github.com/yuin/gopher-lua/n005_74.FnRkAskIndexKDifferBy256", spec := "fnRkAskIndexKDifferBy256", apart := false, narrowed := true }
def FnRkAskIndexKDifferBy256UptoSaid : Prop := fnRkAskIndexKDifferBy256UptoRow.holds Try.pinned (OpenSpec.upto fnRkAskIndexKDifferBy256Spec)

end Rows
end Go.Proofs.Ytojfmpidhnhppab
