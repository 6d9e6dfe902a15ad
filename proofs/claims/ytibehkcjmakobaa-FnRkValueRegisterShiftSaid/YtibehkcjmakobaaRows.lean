/-
  No cell of these rows narrows 'for every input' (looked for: loops, veiled, ifaces, maps, wideKeys, modest, calm, conditions, laid).
  DERIVED. THE GIVEN ROWS OF THIS SEAT. 3 by the template 'for every input the law returns true; each argument reads behind the call as it read before'; 0 by the template 'total and deterministic' (their statements: YtibehkcjmakobaaTotals.lean).
  GIVEN WITH THE SEED: the statements are not yours to turn. If you find one false, say at which input.
  Laid BY PROGRAM, IN A SANDBOX (cutbox-rows.mjs): the forced cells as the released guide's own fill.sh prints them over the translation db808cf808cb1d08… (all of the seat's roots in one cut). By AI agents, Wed Nov 11 2026. No macro, syntax, notation, axiom, sorry.
-/
import Derived.Test.YtibehkcjmakobaaChecked
import GoSem.Claim
import GoSem.ClaimJoined
import GoSem.ClaimMapViews
import Derived.JoinedTies
import Derived.KernelRfl
namespace Go.Proofs.Ytibehkcjmakobaa
/- THE CELL 'sum', in the pinned program and in every row, IS THE sha256 OF THE DUMP (.gsa) THAT YtibehkcjmakobaaProg.lean LOADS. Nothing in Lean hashes anything: it is a label: what it is worth is what the hold of that sum in a sandbox is worth. -/
noncomputable def Try.pinned : Pinned := { name := "ytibehkcjmakobaa", sum := "db808cf808cb1d08dc335bff0054f19ccaaa8089835a18be6be168b492082691", checked := Try.checked }
namespace Rows
def none {H : Type} : Left H := { results := [], args := [] }

/-- 'n005_88.FnCurrentEnvFollowsEnvField': WHATEVER THE INPUT: true; the input reads as it did. -/
def fnCurrentEnvFollowsEnvFieldSpec : ChangeSpec := { name := "fnCurrentEnvFollowsEnvField", fn := fun _ => fun
  | [d1, d2] => { results := [.lit (.bool true)], args := [d1, d2] }
  | _ => none }
def fnCurrentEnvFollowsEnvFieldRow : OpenClaim := { program := "ytibehkcjmakobaa", sum := "db808cf808cb1d08dc335bff0054f19ccaaa8089835a18be6be168b492082691", func := "github.com/yuin/gopher-lua/n005_88.FnCurrentEnvFollowsEnvField", spec := "fnCurrentEnvFollowsEnvField", apart := false }
def FnCurrentEnvFollowsEnvFieldSaid : Prop := fnCurrentEnvFollowsEnvFieldRow.holds Try.pinned (OpenSpec.ofChange fnCurrentEnvFollowsEnvFieldSpec)

/-- ITS FALSE NEIGHBOUR: 'it returns false'. Refute it at one input. -/
def fnCurrentEnvFollowsEnvFieldWrong : ChangeSpec := { name := "fnCurrentEnvFollowsEnvField", fn := fun _ => fun
  | [d1, d2] => { results := [.lit (.bool false)], args := [d1, d2] }
  | _ => none }
def FnCurrentEnvFollowsEnvFieldWrongFalsely : Prop := fnCurrentEnvFollowsEnvFieldRow.holds Try.pinned (OpenSpec.ofChange fnCurrentEnvFollowsEnvFieldWrong)

/-- 'n005_88.FnRkValueRegisterShift': WHATEVER THE INPUT: true; the input reads as it did. -/
def fnRkValueRegisterShiftSpec : ChangeSpec := { name := "fnRkValueRegisterShift", fn := fun _ => fun
  | [d1, d2, d3, d4] => { results := [.lit (.bool true)], args := [d1, d2, d3, d4] }
  | _ => none }
def fnRkValueRegisterShiftRow : OpenClaim := { program := "ytibehkcjmakobaa", sum := "db808cf808cb1d08dc335bff0054f19ccaaa8089835a18be6be168b492082691", func := "github.com/yuin/gopher-lua/n005_88.FnRkValueRegisterShift", spec := "fnRkValueRegisterShift", apart := false }
def FnRkValueRegisterShiftSaid : Prop := fnRkValueRegisterShiftRow.holds Try.pinned (OpenSpec.ofChange fnRkValueRegisterShiftSpec)

/-- ITS FALSE NEIGHBOUR: 'it returns false'. Refute it at one input. -/
def fnRkValueRegisterShiftWrong : ChangeSpec := { name := "fnRkValueRegisterShift", fn := fun _ => fun
  | [d1, d2, d3, d4] => { results := [.lit (.bool false)], args := [d1, d2, d3, d4] }
  | _ => none }
def FnRkValueRegisterShiftWrongFalsely : Prop := fnRkValueRegisterShiftRow.holds Try.pinned (OpenSpec.ofChange fnRkValueRegisterShiftWrong)

/-- 'n005_88.FnRkStringAgreesWithRkValue': WHATEVER THE INPUT: true; the input reads as it did. -/
def fnRkStringAgreesWithRkValueSpec : ChangeSpec := { name := "fnRkStringAgreesWithRkValue", fn := fun _ => fun
  | [d1, d2, d3, d4] => { results := [.lit (.bool true)], args := [d1, d2, d3, d4] }
  | _ => none }
def fnRkStringAgreesWithRkValueRow : OpenClaim := { program := "ytibehkcjmakobaa", sum := "db808cf808cb1d08dc335bff0054f19ccaaa8089835a18be6be168b492082691", func := "github.com/yuin/gopher-lua/n005_88.FnRkStringAgreesWithRkValue", spec := "fnRkStringAgreesWithRkValue", apart := false }
def FnRkStringAgreesWithRkValueSaid : Prop := fnRkStringAgreesWithRkValueRow.holds Try.pinned (OpenSpec.ofChange fnRkStringAgreesWithRkValueSpec)

/-- ITS FALSE NEIGHBOUR: 'it returns false'. Refute it at one input. -/
def fnRkStringAgreesWithRkValueWrong : ChangeSpec := { name := "fnRkStringAgreesWithRkValue", fn := fun _ => fun
  | [d1, d2, d3, d4] => { results := [.lit (.bool false)], args := [d1, d2, d3, d4] }
  | _ => none }
def FnRkStringAgreesWithRkValueWrongFalsely : Prop := fnRkStringAgreesWithRkValueRow.holds Try.pinned (OpenSpec.ofChange fnRkStringAgreesWithRkValueWrong)

/- THE SECOND FORM. 'bulk': how many values and letters a reading holds, each counted each time it is reached (what is shared counts as often as it is met; a slice's spare places count too). A statement '..UptoSaid' is the law's where the arguments, and the package variables that the reading takes, are together of bulk at most 1048576: NARROWER than '..Said'. Prove '..Said' where nothing that the law and all that it calls make is longer than what came in: it says more and counts as full. Else prove '..UptoSaid'. A law counts once. -/
mutual
def uptoBulk {H : Type} : DataW H → Nat
  | .lit (.string bytes) => bytes.length + 1
  | .lit _ => 1
  | .nil => 1
  | .ptr d => uptoBulk d + 1
  | .slice elems spare => uptoBulkAll elems + uptoBulkAll spare + 1
  | .agg parts => uptoBulkAll parts + 1
  | .iface _ d => uptoBulk d + 1
  | .map entries => uptoBulkEntries entries + 1
  | .held _ => 1
def uptoBulkAll {H : Type} : List (DataW H) → Nat
  | [] => 0
  | d :: r => uptoBulk d + uptoBulkAll r
def uptoBulkEntries {H : Type} : List (Lit × DataW H) → Nat
  | [] => 0
  | x :: r => uptoBulkEntry x + uptoBulkEntries r
def uptoBulkEntry {H : Type} : Lit × DataW H → Nat
  | (.string bytes, d) => bytes.length + uptoBulk d + 1
  | (_, d) => uptoBulk d + 1
 end
def uptoSmall : (H : Type) → List (DataW H) → Bool := fun _ ds => decide (uptoBulkAll ds ≤ 1048576)
def OpenSpec.upto (s : _root_.Go.ChangeSpec) : _root_.Go.OpenSpec := { _root_.Go.OpenSpec.ofChange s with cond := some uptoSmall }

/-- 'n005_88.FnCurrentEnvFollowsEnvField', WHERE WHAT IT READS IS OF BULK AT MOST 1048576: true; the input reads as it did. -/
def fnCurrentEnvFollowsEnvFieldUptoRow : OpenClaim := { program := "ytibehkcjmakobaa", sum := "db808cf808cb1d08dc335bff0054f19ccaaa8089835a18be6be168b492082691", func := "github.com/yuin/gopher-lua/n005_88.FnCurrentEnvFollowsEnvField", spec := "fnCurrentEnvFollowsEnvField", apart := false, narrowed := true }
def FnCurrentEnvFollowsEnvFieldUptoSaid : Prop := fnCurrentEnvFollowsEnvFieldUptoRow.holds Try.pinned (OpenSpec.upto fnCurrentEnvFollowsEnvFieldSpec)

/-- 'n005_88.FnRkValueRegisterShift', WHERE WHAT IT READS IS OF BULK AT MOST 1048576: true; the input reads as it did. -/
def fnRkValueRegisterShiftUptoRow : OpenClaim := { program := "ytibehkcjmakobaa", sum := "db808cf808cb1d08dc335bff0054f19ccaaa8089835a18be6be168b492082691", func := "github.com/yuin/gopher-lua/n005_88.FnRkValueRegisterShift", spec := "fnRkValueRegisterShift", apart := false, narrowed := true }
def FnRkValueRegisterShiftUptoSaid : Prop := fnRkValueRegisterShiftUptoRow.holds Try.pinned (OpenSpec.upto fnRkValueRegisterShiftSpec)

/-- 'n005_88.FnRkStringAgreesWithRkValue', WHERE WHAT IT READS IS OF BULK AT MOST 1048576: true; the input reads as it did. -/
def fnRkStringAgreesWithRkValueUptoRow : OpenClaim := { program := "ytibehkcjmakobaa", sum := "db808cf808cb1d08dc335bff0054f19ccaaa8089835a18be6be168b492082691", func := "github.com/yuin/gopher-lua/n005_88.FnRkStringAgreesWithRkValue", spec := "fnRkStringAgreesWithRkValue", apart := false, narrowed := true }
def FnRkStringAgreesWithRkValueUptoSaid : Prop := fnRkStringAgreesWithRkValueUptoRow.holds Try.pinned (OpenSpec.upto fnRkStringAgreesWithRkValueSpec)

end Rows
end Go.Proofs.Ytibehkcjmakobaa
