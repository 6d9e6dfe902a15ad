/-
  No cell of these rows narrows 'for every input' (looked for: loops, veiled, ifaces, maps, wideKeys, modest, calm, conditions, laid).
  DERIVED. THE GIVEN ROWS OF THIS SEAT. 12 by the template 'for every input the law returns true; each argument reads behind the call as it read before'; 0 by the template 'total and deterministic' (their statements: YtojfmpidhnhppaaTotals.lean).
  GIVEN WITH THE SEED: the statements are not yours to turn. If you find one false, say at which input.
  Laid BY PROGRAM, IN A SANDBOX (cutbox-rows.mjs): the forced cells as the released guide's own fill.sh prints them over the translation 70cba440751674a4… (all of the seat's roots in one cut). By AI agents, Wed Nov 11 2026. No macro, syntax, notation, axiom, sorry.
-/
import Derived.Test.YtojfmpidhnhppaaChecked
import GoSem.Claim
import GoSem.ClaimJoined
import GoSem.ClaimMapViews
import Derived.JoinedTies
import Derived.KernelRfl
namespace Go.Proofs.Ytojfmpidhnhppaa
/- THE CELL 'sum', in the pinned program and in every row, IS THE sha256 OF THE DUMP (.gsa) THAT YtojfmpidhnhppaaProg.lean LOADS. Nothing in Lean hashes anything: it is a label: what it is worth is what the hold of that sum in a sandbox is worth. -/
noncomputable def Try.pinned : Pinned := { name := "ytojfmpidhnhppaa", sum := "70cba440751674a4947402623c9b24ef7b9d375802ef41a022a14261d4ea1f15", checked := Try.checked }
namespace Rows
def none {H : Type} : Left H := { results := [], args := [] }

/-- 'n005_9.FnCreateABCDecodesBC': WHATEVER THE INPUT: true; the input reads as it did. -/
def fnCreateABCDecodesBCSpec : ChangeSpec := { name := "fnCreateABCDecodesBC", fn := fun _ => fun
  | [d1, d2, d3, d4] => { results := [.lit (.bool true)], args := [d1, d2, d3, d4] }
  | _ => none }
def fnCreateABCDecodesBCRow : OpenClaim := { program := "ytojfmpidhnhppaa", sum := "70cba440751674a4947402623c9b24ef7b9d375802ef41a022a14261d4ea1f15", func := "github.com/yuin/gopher-lua/n005_9.FnCreateABCDecodesBC", spec := "fnCreateABCDecodesBC", apart := false }
def FnCreateABCDecodesBCSaid : Prop := fnCreateABCDecodesBCRow.holds Try.pinned (OpenSpec.ofChange fnCreateABCDecodesBCSpec)

/-- ITS FALSE NEIGHBOUR: 'it returns false'. Refute it at one input. -/
def fnCreateABCDecodesBCWrong : ChangeSpec := { name := "fnCreateABCDecodesBC", fn := fun _ => fun
  | [d1, d2, d3, d4] => { results := [.lit (.bool false)], args := [d1, d2, d3, d4] }
  | _ => none }
def FnCreateABCDecodesBCWrongFalsely : Prop := fnCreateABCDecodesBCRow.holds Try.pinned (OpenSpec.ofChange fnCreateABCDecodesBCWrong)

/-- 'n005_9.FnBCReconstructLow18': WHATEVER THE INPUT: true; the input reads as it did. -/
def fnBCReconstructLow18Spec : ChangeSpec := { name := "fnBCReconstructLow18", fn := fun _ => fun
  | [d] => { results := [.lit (.bool true)], args := [d] }
  | _ => none }
def fnBCReconstructLow18Row : OpenClaim := { program := "ytojfmpidhnhppaa", sum := "70cba440751674a4947402623c9b24ef7b9d375802ef41a022a14261d4ea1f15", func := "github.com/yuin/gopher-lua/n005_9.FnBCReconstructLow18", spec := "fnBCReconstructLow18", apart := false }
def FnBCReconstructLow18Said : Prop := fnBCReconstructLow18Row.holds Try.pinned (OpenSpec.ofChange fnBCReconstructLow18Spec)

/-- ITS FALSE NEIGHBOUR: 'it returns false'. Refute it at one input. -/
def fnBCReconstructLow18Wrong : ChangeSpec := { name := "fnBCReconstructLow18", fn := fun _ => fun
  | [d] => { results := [.lit (.bool false)], args := [d] }
  | _ => none }
def FnBCReconstructLow18WrongFalsely : Prop := fnBCReconstructLow18Row.holds Try.pinned (OpenSpec.ofChange fnBCReconstructLow18Wrong)

/-- 'n005_9.FnGetArgBExact': WHATEVER THE INPUT: true; the input reads as it did. -/
def fnGetArgBExactSpec : ChangeSpec := { name := "fnGetArgBExact", fn := fun _ => fun
  | [d] => { results := [.lit (.bool true)], args := [d] }
  | _ => none }
def fnGetArgBExactRow : OpenClaim := { program := "ytojfmpidhnhppaa", sum := "70cba440751674a4947402623c9b24ef7b9d375802ef41a022a14261d4ea1f15", func := "github.com/yuin/gopher-lua/n005_9.FnGetArgBExact", spec := "fnGetArgBExact", apart := false }
def FnGetArgBExactSaid : Prop := fnGetArgBExactRow.holds Try.pinned (OpenSpec.ofChange fnGetArgBExactSpec)

/-- ITS FALSE NEIGHBOUR: 'it returns false'. Refute it at one input. -/
def fnGetArgBExactWrong : ChangeSpec := { name := "fnGetArgBExact", fn := fun _ => fun
  | [d] => { results := [.lit (.bool false)], args := [d] }
  | _ => none }
def FnGetArgBExactWrongFalsely : Prop := fnGetArgBExactRow.holds Try.pinned (OpenSpec.ofChange fnGetArgBExactWrong)

/-- 'n005_9.FnSetArgBExact': WHATEVER THE INPUT: true; the input reads as it did. -/
def fnSetArgBExactSpec : ChangeSpec := { name := "fnSetArgBExact", fn := fun _ => fun
  | [d1, d2] => { results := [.lit (.bool true)], args := [d1, d2] }
  | _ => none }
def fnSetArgBExactRow : OpenClaim := { program := "ytojfmpidhnhppaa", sum := "70cba440751674a4947402623c9b24ef7b9d375802ef41a022a14261d4ea1f15", func := "github.com/yuin/gopher-lua/n005_9.FnSetArgBExact", spec := "fnSetArgBExact", apart := false }
def FnSetArgBExactSaid : Prop := fnSetArgBExactRow.holds Try.pinned (OpenSpec.ofChange fnSetArgBExactSpec)

/-- ITS FALSE NEIGHBOUR: 'it returns false'. Refute it at one input. -/
def fnSetArgBExactWrong : ChangeSpec := { name := "fnSetArgBExact", fn := fun _ => fun
  | [d1, d2] => { results := [.lit (.bool false)], args := [d1, d2] }
  | _ => none }
def FnSetArgBExactWrongFalsely : Prop := fnSetArgBExactRow.holds Try.pinned (OpenSpec.ofChange fnSetArgBExactWrong)

/-- 'n005_9.FnSetArgCExact': WHATEVER THE INPUT: true; the input reads as it did. -/
def fnSetArgCExactSpec : ChangeSpec := { name := "fnSetArgCExact", fn := fun _ => fun
  | [d1, d2] => { results := [.lit (.bool true)], args := [d1, d2] }
  | _ => none }
def fnSetArgCExactRow : OpenClaim := { program := "ytojfmpidhnhppaa", sum := "70cba440751674a4947402623c9b24ef7b9d375802ef41a022a14261d4ea1f15", func := "github.com/yuin/gopher-lua/n005_9.FnSetArgCExact", spec := "fnSetArgCExact", apart := false }
def FnSetArgCExactSaid : Prop := fnSetArgCExactRow.holds Try.pinned (OpenSpec.ofChange fnSetArgCExactSpec)

/-- ITS FALSE NEIGHBOUR: 'it returns false'. Refute it at one input. -/
def fnSetArgCExactWrong : ChangeSpec := { name := "fnSetArgCExact", fn := fun _ => fun
  | [d1, d2] => { results := [.lit (.bool false)], args := [d1, d2] }
  | _ => none }
def FnSetArgCExactWrongFalsely : Prop := fnSetArgCExactRow.holds Try.pinned (OpenSpec.ofChange fnSetArgCExactWrong)

/-- 'n005_9.FnGetArgCExact': WHATEVER THE INPUT: true; the input reads as it did. -/
def fnGetArgCExactSpec : ChangeSpec := { name := "fnGetArgCExact", fn := fun _ => fun
  | [d] => { results := [.lit (.bool true)], args := [d] }
  | _ => none }
def fnGetArgCExactRow : OpenClaim := { program := "ytojfmpidhnhppaa", sum := "70cba440751674a4947402623c9b24ef7b9d375802ef41a022a14261d4ea1f15", func := "github.com/yuin/gopher-lua/n005_9.FnGetArgCExact", spec := "fnGetArgCExact", apart := false }
def FnGetArgCExactSaid : Prop := fnGetArgCExactRow.holds Try.pinned (OpenSpec.ofChange fnGetArgCExactSpec)

/-- ITS FALSE NEIGHBOUR: 'it returns false'. Refute it at one input. -/
def fnGetArgCExactWrong : ChangeSpec := { name := "fnGetArgCExact", fn := fun _ => fun
  | [d] => { results := [.lit (.bool false)], args := [d] }
  | _ => none }
def FnGetArgCExactWrongFalsely : Prop := fnGetArgCExactRow.holds Try.pinned (OpenSpec.ofChange fnGetArgCExactWrong)

/-- 'n005_9.FnSetArgBLens': WHATEVER THE INPUT: true; the input reads as it did. -/
def fnSetArgBLensSpec : ChangeSpec := { name := "fnSetArgBLens", fn := fun _ => fun
  | [d1, d2, d3] => { results := [.lit (.bool true)], args := [d1, d2, d3] }
  | _ => none }
def fnSetArgBLensRow : OpenClaim := { program := "ytojfmpidhnhppaa", sum := "70cba440751674a4947402623c9b24ef7b9d375802ef41a022a14261d4ea1f15", func := "github.com/yuin/gopher-lua/n005_9.FnSetArgBLens", spec := "fnSetArgBLens", apart := false }
def FnSetArgBLensSaid : Prop := fnSetArgBLensRow.holds Try.pinned (OpenSpec.ofChange fnSetArgBLensSpec)

/-- ITS FALSE NEIGHBOUR: 'it returns false'. Refute it at one input. -/
def fnSetArgBLensWrong : ChangeSpec := { name := "fnSetArgBLens", fn := fun _ => fun
  | [d1, d2, d3] => { results := [.lit (.bool false)], args := [d1, d2, d3] }
  | _ => none }
def FnSetArgBLensWrongFalsely : Prop := fnSetArgBLensRow.holds Try.pinned (OpenSpec.ofChange fnSetArgBLensWrong)

/-- 'n005_9.FnSetArgCLensCommutes': WHATEVER THE INPUT: true; the input reads as it did. -/
def fnSetArgCLensCommutesSpec : ChangeSpec := { name := "fnSetArgCLensCommutes", fn := fun _ => fun
  | [d1, d2, d3, d4] => { results := [.lit (.bool true)], args := [d1, d2, d3, d4] }
  | _ => none }
def fnSetArgCLensCommutesRow : OpenClaim := { program := "ytojfmpidhnhppaa", sum := "70cba440751674a4947402623c9b24ef7b9d375802ef41a022a14261d4ea1f15", func := "github.com/yuin/gopher-lua/n005_9.FnSetArgCLensCommutes", spec := "fnSetArgCLensCommutes", apart := false }
def FnSetArgCLensCommutesSaid : Prop := fnSetArgCLensCommutesRow.holds Try.pinned (OpenSpec.ofChange fnSetArgCLensCommutesSpec)

/-- ITS FALSE NEIGHBOUR: 'it returns false'. Refute it at one input. -/
def fnSetArgCLensCommutesWrong : ChangeSpec := { name := "fnSetArgCLensCommutes", fn := fun _ => fun
  | [d1, d2, d3, d4] => { results := [.lit (.bool false)], args := [d1, d2, d3, d4] }
  | _ => none }
def FnSetArgCLensCommutesWrongFalsely : Prop := fnSetArgCLensCommutesRow.holds Try.pinned (OpenSpec.ofChange fnSetArgCLensCommutesWrong)

/-- 'n005_76.FnIntMaxIsGreater': WHATEVER THE INPUT: true; the input reads as it did. -/
def fnIntMaxIsGreaterSpec : ChangeSpec := { name := "fnIntMaxIsGreater", fn := fun _ => fun
  | [d1, d2] => { results := [.lit (.bool true)], args := [d1, d2] }
  | _ => none }
def fnIntMaxIsGreaterRow : OpenClaim := { program := "ytojfmpidhnhppaa", sum := "70cba440751674a4947402623c9b24ef7b9d375802ef41a022a14261d4ea1f15", func := "github.com/yuin/gopher-lua/n005_76.FnIntMaxIsGreater", spec := "fnIntMaxIsGreater", apart := false }
def FnIntMaxIsGreaterSaid : Prop := fnIntMaxIsGreaterRow.holds Try.pinned (OpenSpec.ofChange fnIntMaxIsGreaterSpec)

/-- ITS FALSE NEIGHBOUR: 'it returns false'. Refute it at one input. -/
def fnIntMaxIsGreaterWrong : ChangeSpec := { name := "fnIntMaxIsGreater", fn := fun _ => fun
  | [d1, d2] => { results := [.lit (.bool false)], args := [d1, d2] }
  | _ => none }
def FnIntMaxIsGreaterWrongFalsely : Prop := fnIntMaxIsGreaterRow.holds Try.pinned (OpenSpec.ofChange fnIntMaxIsGreaterWrong)

/-- 'n005_76.FnIntMinIsLesser': WHATEVER THE INPUT: true; the input reads as it did. -/
def fnIntMinIsLesserSpec : ChangeSpec := { name := "fnIntMinIsLesser", fn := fun _ => fun
  | [d1, d2] => { results := [.lit (.bool true)], args := [d1, d2] }
  | _ => none }
def fnIntMinIsLesserRow : OpenClaim := { program := "ytojfmpidhnhppaa", sum := "70cba440751674a4947402623c9b24ef7b9d375802ef41a022a14261d4ea1f15", func := "github.com/yuin/gopher-lua/n005_76.FnIntMinIsLesser", spec := "fnIntMinIsLesser", apart := false }
def FnIntMinIsLesserSaid : Prop := fnIntMinIsLesserRow.holds Try.pinned (OpenSpec.ofChange fnIntMinIsLesserSpec)

/-- ITS FALSE NEIGHBOUR: 'it returns false'. Refute it at one input. -/
def fnIntMinIsLesserWrong : ChangeSpec := { name := "fnIntMinIsLesser", fn := fun _ => fun
  | [d1, d2] => { results := [.lit (.bool false)], args := [d1, d2] }
  | _ => none }
def FnIntMinIsLesserWrongFalsely : Prop := fnIntMinIsLesserRow.holds Try.pinned (OpenSpec.ofChange fnIntMinIsLesserWrong)

/-- 'n005_76.FnIntMinMaxSortPair': WHATEVER THE INPUT: true; the input reads as it did. -/
def fnIntMinMaxSortPairSpec : ChangeSpec := { name := "fnIntMinMaxSortPair", fn := fun _ => fun
  | [d1, d2] => { results := [.lit (.bool true)], args := [d1, d2] }
  | _ => none }
def fnIntMinMaxSortPairRow : OpenClaim := { program := "ytojfmpidhnhppaa", sum := "70cba440751674a4947402623c9b24ef7b9d375802ef41a022a14261d4ea1f15", func := "github.com/yuin/gopher-lua/n005_76.FnIntMinMaxSortPair", spec := "fnIntMinMaxSortPair", apart := false }
def FnIntMinMaxSortPairSaid : Prop := fnIntMinMaxSortPairRow.holds Try.pinned (OpenSpec.ofChange fnIntMinMaxSortPairSpec)

/-- ITS FALSE NEIGHBOUR: 'it returns false'. Refute it at one input. -/
def fnIntMinMaxSortPairWrong : ChangeSpec := { name := "fnIntMinMaxSortPair", fn := fun _ => fun
  | [d1, d2] => { results := [.lit (.bool false)], args := [d1, d2] }
  | _ => none }
def FnIntMinMaxSortPairWrongFalsely : Prop := fnIntMinMaxSortPairRow.holds Try.pinned (OpenSpec.ofChange fnIntMinMaxSortPairWrong)

/-- 'n005_76.FnIntMinMaxLattice': WHATEVER THE INPUT: true; the input reads as it did. -/
def fnIntMinMaxLatticeSpec : ChangeSpec := { name := "fnIntMinMaxLattice", fn := fun _ => fun
  | [d1, d2, d3] => { results := [.lit (.bool true)], args := [d1, d2, d3] }
  | _ => none }
def fnIntMinMaxLatticeRow : OpenClaim := { program := "ytojfmpidhnhppaa", sum := "70cba440751674a4947402623c9b24ef7b9d375802ef41a022a14261d4ea1f15", func := "github.com/yuin/gopher-lua/n005_76.FnIntMinMaxLattice", spec := "fnIntMinMaxLattice", apart := false }
def FnIntMinMaxLatticeSaid : Prop := fnIntMinMaxLatticeRow.holds Try.pinned (OpenSpec.ofChange fnIntMinMaxLatticeSpec)

/-- ITS FALSE NEIGHBOUR: 'it returns false'. Refute it at one input. -/
def fnIntMinMaxLatticeWrong : ChangeSpec := { name := "fnIntMinMaxLattice", fn := fun _ => fun
  | [d1, d2, d3] => { results := [.lit (.bool false)], args := [d1, d2, d3] }
  | _ => none }
def FnIntMinMaxLatticeWrongFalsely : Prop := fnIntMinMaxLatticeRow.holds Try.pinned (OpenSpec.ofChange fnIntMinMaxLatticeWrong)

/- THE SECOND FORM. 'bulk': how many values and letters a reading holds, each counted each time it is reached (what is shared counts as often as it is met; a slice's spare places count too). A statement '..UptoSaid' is the law's where the arguments, and the package variables that the reading takes, are together of bulk at most 1048576: NARROWER than '..Said'. Prove '..Said' where nothing that the law and all that it calls make is longer than what came in: it says more and counts as full. Else prove '..UptoSaid'. A law counts once. -/
mutual
def uptoBulk {H : Type} : DataW H → Nat
  | .lit (.string bytes) => bytes.length + 1
  | .lit _ => 1
  | .nil => 1
  | .ptr d => uptoBulk d + 1
  | .slice elems spare => uptoBulkAll elems + uptoBulkAll spare + 1
  | .agg parts => uptoBulkAll parts + 1
  | .iface _ d => uptoBulk d + 1
  | .map entries => uptoBulkEntries entries + 1
  | .held _ => 1
def uptoBulkAll {H : Type} : List (DataW H) → Nat
  | [] => 0
  | d :: r => uptoBulk d + uptoBulkAll r
def uptoBulkEntries {H : Type} : List (Lit × DataW H) → Nat
  | [] => 0
  | x :: r => uptoBulkEntry x + uptoBulkEntries r
def uptoBulkEntry {H : Type} : Lit × DataW H → Nat
  | (.string bytes, d) => bytes.length + uptoBulk d + 1
  | (_, d) => uptoBulk d + 1
 end
def uptoSmall : (H : Type) → List (DataW H) → Bool := fun _ ds => decide (uptoBulkAll ds ≤ 1048576)
def OpenSpec.upto (s : _root_.Go.ChangeSpec) : _root_.Go.OpenSpec := { _root_.Go.OpenSpec.ofChange s with cond := some uptoSmall }

/-- 'n005_9.FnCreateABCDecodesBC', WHERE WHAT IT READS IS OF BULK AT MOST 1048576: true; the input reads as it did. -/
def fnCreateABCDecodesBCUptoRow : OpenClaim := { program := "ytojfmpidhnhppaa", sum := "70cba440751674a4947402623c9b24ef7b9d375802ef41a022a14261d4ea1f15", func := "github.com/yuin/gopher-lua/n005_9.FnCreateABCDecodesBC", spec := "fnCreateABCDecodesBC", apart := false, narrowed := true }
def FnCreateABCDecodesBCUptoSaid : Prop := fnCreateABCDecodesBCUptoRow.holds Try.pinned (OpenSpec.upto fnCreateABCDecodesBCSpec)

/-- 'n005_9.FnBCReconstructLow18', WHERE WHAT IT READS IS OF BULK AT MOST 1048576: true; the input reads as it did. -/
def fnBCReconstructLow18UptoRow : OpenClaim := { program := "ytojfmpidhnhppaa", sum := "70cba440751674a4947402623c9b24ef7b9d375802ef41a022a14261d4ea1f15", func := "github.com/yuin/gopher-lua/n005_9.FnBCReconstructLow18", spec := "fnBCReconstructLow18", apart := false, narrowed := true }
def FnBCReconstructLow18UptoSaid : Prop := fnBCReconstructLow18UptoRow.holds Try.pinned (OpenSpec.upto fnBCReconstructLow18Spec)

/-- 'n005_9.FnGetArgBExact', WHERE WHAT IT READS IS OF BULK AT MOST 1048576: true; the input reads as it did. -/
def fnGetArgBExactUptoRow : OpenClaim := { program := "ytojfmpidhnhppaa", sum := "70cba440751674a4947402623c9b24ef7b9d375802ef41a022a14261d4ea1f15", func := "github.com/yuin/gopher-lua/n005_9.FnGetArgBExact", spec := "fnGetArgBExact", apart := false, narrowed := true }
def FnGetArgBExactUptoSaid : Prop := fnGetArgBExactUptoRow.holds Try.pinned (OpenSpec.upto fnGetArgBExactSpec)

/-- 'n005_9.FnSetArgBExact', WHERE WHAT IT READS IS OF BULK AT MOST 1048576: true; the input reads as it did. -/
def fnSetArgBExactUptoRow : OpenClaim := { program := "ytojfmpidhnhppaa", sum := "70cba440751674a4947402623c9b24ef7b9d375802ef41a022a14261d4ea1f15", func := "github.com/yuin/gopher-lua/n005_9.FnSetArgBExact", spec := "fnSetArgBExact", apart := false, narrowed := true }
def FnSetArgBExactUptoSaid : Prop := fnSetArgBExactUptoRow.holds Try.pinned (OpenSpec.upto fnSetArgBExactSpec)

/-- 'n005_9.FnSetArgCExact', WHERE WHAT IT READS IS OF BULK AT MOST 1048576: true; the input reads as it did. -/
def fnSetArgCExactUptoRow : OpenClaim := { program := "ytojfmpidhnhppaa", sum := "70cba440751674a4947402623c9b24ef7b9d375802ef41a022a14261d4ea1f15", func := "github.com/yuin/gopher-lua/n005_9.FnSetArgCExact", spec := "fnSetArgCExact", apart := false, narrowed := true }
def FnSetArgCExactUptoSaid : Prop := fnSetArgCExactUptoRow.holds Try.pinned (OpenSpec.upto fnSetArgCExactSpec)

/-- 'n005_9.FnGetArgCExact', WHERE WHAT IT READS IS OF BULK AT MOST 1048576: true; the input reads as it did. -/
def fnGetArgCExactUptoRow : OpenClaim := { program := "ytojfmpidhnhppaa", sum := "70cba440751674a4947402623c9b24ef7b9d375802ef41a022a14261d4ea1f15", func := "github.com/yuin/gopher-lua/n005_9.FnGetArgCExact", spec := "fnGetArgCExact", apart := false, narrowed := true }
def FnGetArgCExactUptoSaid : Prop := fnGetArgCExactUptoRow.holds Try.pinned (OpenSpec.upto fnGetArgCExactSpec)

/-- 'n005_9.FnSetArgBLens', WHERE WHAT IT READS IS OF BULK AT MOST 1048576: true; the input reads as it did. -/
def fnSetArgBLensUptoRow : OpenClaim := { program := "ytojfmpidhnhppaa", sum := "70cba440751674a4947402623c9b24ef7b9d375802ef41a022a14261d4ea1f15", func := "github.com/yuin/gopher-lua/n005_9.FnSetArgBLens", spec := "fnSetArgBLens", apart := false, narrowed := true }
def FnSetArgBLensUptoSaid : Prop := fnSetArgBLensUptoRow.holds Try.pinned (OpenSpec.upto fnSetArgBLensSpec)

/-- 'n005_9.FnSetArgCLensCommutes', WHERE WHAT IT READS IS OF BULK AT MOST 1048576: true; the input reads as it did. -/
def fnSetArgCLensCommutesUptoRow : OpenClaim := { program := "ytojfmpidhnhppaa", sum := "70cba440751674a4947402623c9b24ef7b9d375802ef41a022a14261d4ea1f15", func := "github.com/yuin/gopher-lua/n005_9.FnSetArgCLensCommutes", spec := "fnSetArgCLensCommutes", apart := false, narrowed := true }
def FnSetArgCLensCommutesUptoSaid : Prop := fnSetArgCLensCommutesUptoRow.holds Try.pinned (OpenSpec.upto fnSetArgCLensCommutesSpec)

/-- 'n005_76.FnIntMaxIsGreater', WHERE WHAT IT READS IS OF BULK AT MOST 1048576: true; the input reads as it did. -/
def fnIntMaxIsGreaterUptoRow : OpenClaim := { program := "ytojfmpidhnhppaa", sum := "70cba440751674a4947402623c9b24ef7b9d375802ef41a022a14261d4ea1f15", func := "github.com/yuin/gopher-lua/n005_76.FnIntMaxIsGreater", spec := "fnIntMaxIsGreater", apart := false, narrowed := true }
def FnIntMaxIsGreaterUptoSaid : Prop := fnIntMaxIsGreaterUptoRow.holds Try.pinned (OpenSpec.upto fnIntMaxIsGreaterSpec)

/-- 'n005_76.FnIntMinIsLesser', WHERE WHAT IT READS IS OF BULK AT MOST 1048576: true; the input reads as it did. -/
def fnIntMinIsLesserUptoRow : OpenClaim := { program := "ytojfmpidhnhppaa", sum := "70cba440751674a4947402623c9b24ef7b9d375802ef41a022a14261d4ea1f15", func := "github.com/yuin/gopher-lua/n005_76.FnIntMinIsLesser", spec := "fnIntMinIsLesser", apart := false, narrowed := true }
def FnIntMinIsLesserUptoSaid : Prop := fnIntMinIsLesserUptoRow.holds Try.pinned (OpenSpec.upto fnIntMinIsLesserSpec)

/-- 'n005_76.FnIntMinMaxSortPair', WHERE WHAT IT READS IS OF BULK AT MOST 1048576: true; the input reads as it did. -/
def fnIntMinMaxSortPairUptoRow : OpenClaim := { program := "ytojfmpidhnhppaa", sum := "70cba440751674a4947402623c9b24ef7b9d375802ef41a022a14261d4ea1f15", func := "github.com/yuin/gopher-lua/n005_76.FnIntMinMaxSortPair", spec := "fnIntMinMaxSortPair", apart := false, narrowed := true }
def FnIntMinMaxSortPairUptoSaid : Prop := fnIntMinMaxSortPairUptoRow.holds Try.pinned (OpenSpec.upto fnIntMinMaxSortPairSpec)

/-- 'n005_76.FnIntMinMaxLattice', WHERE WHAT IT READS IS OF BULK AT MOST 1048576: true; the input reads as it did. -/
def fnIntMinMaxLatticeUptoRow : OpenClaim := { program := "ytojfmpidhnhppaa", sum := "70cba440751674a4947402623c9b24ef7b9d375802ef41a022a14261d4ea1f15", func := "github.com/yuin/gopher-lua/n005_76.FnIntMinMaxLattice", spec := "fnIntMinMaxLattice", apart := false, narrowed := true }
def FnIntMinMaxLatticeUptoSaid : Prop := fnIntMinMaxLatticeUptoRow.holds Try.pinned (OpenSpec.upto fnIntMinMaxLatticeSpec)

end Rows
end Go.Proofs.Ytojfmpidhnhppaa
