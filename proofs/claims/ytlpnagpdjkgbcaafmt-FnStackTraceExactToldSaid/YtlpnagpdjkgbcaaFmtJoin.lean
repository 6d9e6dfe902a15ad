/- strings.Join by its contract: printed by the kit's lay-shelf and lay-plain for this program. -/
import Derived.Test.YtlpnagpdjkgbcaaFmtChecked
import Derived.Shelf.Strings.OnBuilder
import Derived.KernelRfl
namespace Go.Proofs.YtlpnagpdjkgbcaaFmt
open Go.Shelf
def jn_lays156_ren : Go.Shelf.Ren := ⟨fun | 156 => 34 | 165 => 38 | 166 => 39 | 169 => 40 | 240 => 42 | 241 => 43 | 276 => 44 | 277 => 45 | n => n, fun | 31 => 63 | 9 => 9 | 3 => 3 | 4 => 4 | 0 => 0 | 20 => 20 | 72 => 104 | 76 => 108 | 70 => 101 | 37 => 102 | 75 => 107 | 127 => 114 | 164 => 115 | 5 => 5 | 80 => 110 | n => n, fun | n => n⟩
theorem jn_lays156 : Go.Proofs.Lays.n156 Tryf.prog jn_lays156_ren := {
  mixed := by kernel_rfl
  f156 := Tryf.func34.trans (congrArg some (by kernel_rfl))
  f165 := Tryf.func38.trans (congrArg some (by kernel_rfl))
  f166 := Tryf.func39.trans (congrArg some (by kernel_rfl))
  f169 := Tryf.func40.trans (congrArg some (by kernel_rfl))
  f240 := Tryf.func42.trans (congrArg some (by kernel_rfl))
  f241 := Tryf.func43.trans (congrArg some (by kernel_rfl))
  f276 := Tryf.func44.trans (congrArg some (by kernel_rfl))
  f277 := Tryf.func45.trans (congrArg some (by kernel_rfl))
  t0 := Tryf.underlying0
  a0 := Tryf.isAgg0
  z0 := Tryf.sizeOf0
  v0 := Tryf.zeroValue0
  t3 := Tryf.underlying3
  a3 := Tryf.isAgg3
  z3 := Tryf.sizeOf3
  v3 := Tryf.zeroValue3
  t4 := Tryf.underlying4
  a4 := Tryf.isAgg4
  z4 := Tryf.sizeOf4
  v4 := Tryf.zeroValue4
  t9 := Tryf.underlying9
  a9 := Tryf.isAgg9
  z9 := Tryf.sizeOf9
  v9 := Tryf.zeroValue9
  t20 := Tryf.underlying20
  a20 := Tryf.isAgg20
  z20 := Tryf.sizeOf20
  v20 := Tryf.zeroValue20
  t31 := Tryf.underlying63
  a31 := Tryf.isAgg63
  z31 := Tryf.sizeOf63
  v31 := Tryf.zeroValue63
  t37 := Tryf.underlying102
  a37 := Tryf.isAgg102
  z37 := Tryf.sizeOf102
  v37 := Tryf.zeroValue102
  t70 := Tryf.underlying101
  a70 := Tryf.isAgg101
  z70 := Tryf.sizeOf101
  v70 := Tryf.zeroValue101
  t72 := Tryf.underlying104
  a72 := Tryf.isAgg104
  z72 := Tryf.sizeOf104
  v72 := Tryf.zeroValue104
  t75 := Tryf.underlying107
  a75 := Tryf.isAgg107
  z75 := Tryf.sizeOf107
  v75 := Tryf.zeroValue107
  t76 := Tryf.underlying108
  a76 := Tryf.isAgg108
  z76 := Tryf.sizeOf108
  v76 := Tryf.zeroValue108
  t127 := Tryf.underlying114
  a127 := Tryf.isAgg114
  z127 := Tryf.sizeOf114
  v127 := Tryf.zeroValue114
  t164 := Tryf.underlying115
  a164 := Tryf.isAgg115
  z164 := Tryf.sizeOf115
  v164 := Tryf.zeroValue115 }
theorem jn_Builder_Extra_156 : Builder.Extra Tryf.prog jn_lays156_ren := {
  sizeBuilder := by kernel_rfl
  liesBuilder := by kernel_rfl
  t5 := Tryf.underlying5
  a5 := Tryf.isAgg5
  z5 := Tryf.sizeOf5
  v5 := Tryf.zeroValue5
  infoByte := by kernel_rfl
  cellsByte := by kernel_rfl
  sizeByte := by kernel_rfl
  neB5 := by decide }
open Go.RowKit in
theorem jn_strings_Join_none (a : Option Addr) (c : Nat) (sep : ByteArray) (w : World) :
    Calls Tryf.prog 34 #[.slice a 0 c, .string sep] w fun e w' => e = .returned (.string ⟨#[]⟩) ∧ w' = w := Any.strings_Join_none jn_lays156 jn_Builder_Extra_156 a c sep w
open Go.RowKit in
theorem jn_strings_Join (bk o c : Nat) (xs : List ByteArray) (sep : ByteArray) (w : World) (hcells : ∀ (j : Nat) x, xs[j]? = some x → w.cell? ⟨bk, o + j, none⟩ = some (.string x)) (hbk : bk < w.heap.size) (hN : xs.length ≤ 140737488355328) (hcap : xs.length ≤ c) (hlen : (Lib.join (xs.map (·.data.toList)) sep.data.toList).length ≤ 140737488355328) :
    Calls Tryf.prog 34 #[.slice (some ⟨bk, o, none⟩) xs.length c, .string sep] w fun e w' => e = .returned (.string ⟨(Lib.join (xs.map (·.data.toList)) sep.data.toList).toArray⟩) ∧ Below w.heap.size w w' := Any.strings_Join jn_lays156 jn_Builder_Extra_156 bk o c xs sep w hcells hbk hN hcap hlen
end Go.Proofs.YtlpnagpdjkgbcaaFmt
