/-
  No cell of these rows narrows 'for every input' (looked for: loops, veiled, ifaces, maps, wideKeys, modest, calm, conditions, laid).
  DERIVED. THE GIVEN ROWS OF THIS SEAT. 3 by the template 'for every input the law returns true; each argument reads behind the call as it read before'; 0 by the template 'total and deterministic' (their statements: YtmaidembpbolpaaTotals.lean).
  GIVEN WITH THE SEED: the statements are not yours to turn. If you find one false, say at which input.
  Laid BY PROGRAM, IN A SANDBOX (cutbox-rows.mjs): the forced cells as the released guide's own fill.sh prints them over the translation 21f07b5dd3f5f798… (all of the seat's roots in one cut). By AI agents, Wed Nov 11 2026. No macro, syntax, notation, axiom, sorry.
-/
import Derived.Test.YtmaidembpbolpaaChecked
import GoSem.Claim
import GoSem.ClaimJoined
import GoSem.ClaimMapViews
import Derived.JoinedTies
import Derived.KernelRfl
namespace Go.Proofs.Ytmaidembpbolpaa
/- THE CELL 'sum', in the pinned program and in every row, IS THE sha256 OF THE DUMP (.gsa) THAT YtmaidembpbolpaaProg.lean LOADS. Nothing in Lean hashes anything: it is a label: what it is worth is what the hold of that sum in a sandbox is worth. -/
noncomputable def Try.pinned : Pinned := { name := "ytmaidembpbolpaa", sum := "21f07b5dd3f5f7980dc4d0e5dee7bf55f872ac1200e5b5dee55afc0d9b51fe4d", checked := Try.checked }
namespace Rows
def none {H : Type} : Left H := { results := [], args := [] }

/-- 'n005_75.FnNewLFunctionLFresh': WHATEVER THE INPUT: true; the input reads as it did. -/
def fnNewLFunctionLFreshSpec : ChangeSpec := { name := "fnNewLFunctionLFresh", fn := fun _ => fun
  | [d1, d2] => { results := [.lit (.bool true)], args := [d1, d2] }
  | _ => none }
def fnNewLFunctionLFreshRow : OpenClaim := { program := "ytmaidembpbolpaa", sum := "21f07b5dd3f5f7980dc4d0e5dee7bf55f872ac1200e5b5dee55afc0d9b51fe4d", func := "github.com/yuin/gopher-lua/n005_75.FnNewLFunctionLFresh", spec := "fnNewLFunctionLFresh", apart := false }
def FnNewLFunctionLFreshSaid : Prop := fnNewLFunctionLFreshRow.holds Try.pinned (OpenSpec.ofChange fnNewLFunctionLFreshSpec)

/-- ITS FALSE NEIGHBOUR: 'it returns false'. Refute it at one input. -/
def fnNewLFunctionLFreshWrong : ChangeSpec := { name := "fnNewLFunctionLFresh", fn := fun _ => fun
  | [d1, d2] => { results := [.lit (.bool false)], args := [d1, d2] }
  | _ => none }
def FnNewLFunctionLFreshWrongFalsely : Prop := fnNewLFunctionLFreshRow.holds Try.pinned (OpenSpec.ofChange fnNewLFunctionLFreshWrong)

/-- 'n005_75.FnLocalNameModel': WHATEVER THE INPUT: true; the input reads as it did. -/
def fnLocalNameModelSpec : ChangeSpec := { name := "fnLocalNameModel", fn := fun _ => fun
  | [d1, d2, d3, d4, d5] => { results := [.lit (.bool true)], args := [d1, d2, d3, d4, d5] }
  | _ => none }
def fnLocalNameModelRow : OpenClaim := { program := "ytmaidembpbolpaa", sum := "21f07b5dd3f5f7980dc4d0e5dee7bf55f872ac1200e5b5dee55afc0d9b51fe4d", func := "github.com/yuin/gopher-lua/n005_75.FnLocalNameModel", spec := "fnLocalNameModel", apart := false }
def FnLocalNameModelSaid : Prop := fnLocalNameModelRow.holds Try.pinned (OpenSpec.ofChange fnLocalNameModelSpec)

/-- ITS FALSE NEIGHBOUR: 'it returns false'. Refute it at one input. -/
def fnLocalNameModelWrong : ChangeSpec := { name := "fnLocalNameModel", fn := fun _ => fun
  | [d1, d2, d3, d4, d5] => { results := [.lit (.bool false)], args := [d1, d2, d3, d4, d5] }
  | _ => none }
def FnLocalNameModelWrongFalsely : Prop := fnLocalNameModelRow.holds Try.pinned (OpenSpec.ofChange fnLocalNameModelWrong)

/-- 'n005_75.FnLocalNameFoundIsActive': WHATEVER THE INPUT: true; the input reads as it did. -/
def fnLocalNameFoundIsActiveSpec : ChangeSpec := { name := "fnLocalNameFoundIsActive", fn := fun _ => fun
  | [d1, d2, d3, d4, d5] => { results := [.lit (.bool true)], args := [d1, d2, d3, d4, d5] }
  | _ => none }
def fnLocalNameFoundIsActiveRow : OpenClaim := { program := "ytmaidembpbolpaa", sum := "21f07b5dd3f5f7980dc4d0e5dee7bf55f872ac1200e5b5dee55afc0d9b51fe4d", func := "github.com/yuin/gopher-lua/n005_75.FnLocalNameFoundIsActive", spec := "fnLocalNameFoundIsActive", apart := false }
def FnLocalNameFoundIsActiveSaid : Prop := fnLocalNameFoundIsActiveRow.holds Try.pinned (OpenSpec.ofChange fnLocalNameFoundIsActiveSpec)

/-- ITS FALSE NEIGHBOUR: 'it returns false'. Refute it at one input. -/
def fnLocalNameFoundIsActiveWrong : ChangeSpec := { name := "fnLocalNameFoundIsActive", fn := fun _ => fun
  | [d1, d2, d3, d4, d5] => { results := [.lit (.bool false)], args := [d1, d2, d3, d4, d5] }
  | _ => none }
def FnLocalNameFoundIsActiveWrongFalsely : Prop := fnLocalNameFoundIsActiveRow.holds Try.pinned (OpenSpec.ofChange fnLocalNameFoundIsActiveWrong)

/- THE SECOND FORM. 'bulk': how many values and letters a reading holds, each counted each time it is reached (what is shared counts as often as it is met; a slice's spare places count too). A statement '..UptoSaid' is the law's where the arguments, and the package variables that the reading takes, are together of bulk at most 1048576: NARROWER than '..Said'. Prove '..Said' where nothing that the law and all that it calls make is longer than what came in: it says more and counts as full. Else prove '..UptoSaid'. A law counts once. -/
mutual
def uptoBulk {H : Type} : DataW H → Nat
  | .lit (.string bytes) => bytes.length + 1
  | .lit _ => 1
  | .nil => 1
  | .ptr d => uptoBulk d + 1
  | .slice elems spare => uptoBulkAll elems + uptoBulkAll spare + 1
  | .agg parts => uptoBulkAll parts + 1
  | .iface _ d => uptoBulk d + 1
  | .map entries => uptoBulkEntries entries + 1
  | .held _ => 1
def uptoBulkAll {H : Type} : List (DataW H) → Nat
  | [] => 0
  | d :: r => uptoBulk d + uptoBulkAll r
def uptoBulkEntries {H : Type} : List (Lit × DataW H) → Nat
  | [] => 0
  | x :: r => uptoBulkEntry x + uptoBulkEntries r
def uptoBulkEntry {H : Type} : Lit × DataW H → Nat
  | (.string bytes, d) => bytes.length + uptoBulk d + 1
  | (_, d) => uptoBulk d + 1
 end
def uptoSmall : (H : Type) → List (DataW H) → Bool := fun _ ds => decide (uptoBulkAll ds ≤ 1048576)
def OpenSpec.upto (s : _root_.Go.ChangeSpec) : _root_.Go.OpenSpec := { _root_.Go.OpenSpec.ofChange s with cond := some uptoSmall }

/-- 'n005_75.FnNewLFunctionLFresh', WHERE WHAT IT READS IS OF BULK AT MOST 1048576: true; the input reads as it did. -/
def fnNewLFunctionLFreshUptoRow : OpenClaim := { program := "ytmaidembpbolpaa", sum := "21f07b5dd3f5f7980dc4d0e5dee7bf55f872ac1200e5b5dee55afc0d9b51fe4d", func := "github.com/yuin/gopher-lua/n005_75.FnNewLFunctionLFresh", spec := "fnNewLFunctionLFresh", apart := false, narrowed := true }
def FnNewLFunctionLFreshUptoSaid : Prop := fnNewLFunctionLFreshUptoRow.holds Try.pinned (OpenSpec.upto fnNewLFunctionLFreshSpec)

/-- 'n005_75.FnLocalNameModel', WHERE WHAT IT READS IS OF BULK AT MOST 1048576: true; the input reads as it did. -/
def fnLocalNameModelUptoRow : OpenClaim := { program := "ytmaidembpbolpaa", sum := "21f07b5dd3f5f7980dc4d0e5dee7bf55f872ac1200e5b5dee55afc0d9b51fe4d", func := "github.com/yuin/gopher-lua/n005_75.FnLocalNameModel", spec := "fnLocalNameModel", apart := false, narrowed := true }
def FnLocalNameModelUptoSaid : Prop := fnLocalNameModelUptoRow.holds Try.pinned (OpenSpec.upto fnLocalNameModelSpec)

/-- 'n005_75.FnLocalNameFoundIsActive', WHERE WHAT IT READS IS OF BULK AT MOST 1048576: true; the input reads as it did. -/
def fnLocalNameFoundIsActiveUptoRow : OpenClaim := { program := "ytmaidembpbolpaa", sum := "21f07b5dd3f5f7980dc4d0e5dee7bf55f872ac1200e5b5dee55afc0d9b51fe4d", func := "github.com/yuin/gopher-lua/n005_75.FnLocalNameFoundIsActive", spec := "fnLocalNameFoundIsActive", apart := false, narrowed := true }
def FnLocalNameFoundIsActiveUptoSaid : Prop := fnLocalNameFoundIsActiveUptoRow.holds Try.pinned (OpenSpec.upto fnLocalNameFoundIsActiveSpec)

end Rows
end Go.Proofs.Ytmaidembpbolpaa
