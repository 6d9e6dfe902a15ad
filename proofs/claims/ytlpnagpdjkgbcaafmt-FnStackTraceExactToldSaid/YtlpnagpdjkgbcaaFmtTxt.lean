/- What fmt.Sprintf gives for the formats of the traceback (by the kit's own telling of fmt). -/
import Derived.Test.YtlpnagpdjkgbcaaFmtStop
import Derived.Stop.FmtTextVerbs
import Derived.Stop.FmtTextKit
import Derived.Lib.ItoaLen
namespace Go.Proofs.YtlpnagpdjkgbcaaFmt
open Go.Extern.Stop Go.Stop Go.Extern Go.Kit
theorem bytes_ext {a : ByteArray} {l : List UInt8} (h : a.data.toList = l) : a = ⟨l.toArray⟩ := by
  subst h
  cases a
  rfl
theorem textOf_told (F : Interp) {reading : List (List UInt8)} {s : List UInt8} (h : FmtText.text "fmt.Sprintf" reading = some s) (hl : s.length < 2 ^ 63) : FmtStop.textOf (F.told "fmt.Sprintf" reading 0) = ⟨s.toArray⟩ :=
  bytes_ext ((textOf_list F.told "fmt.Sprintf" reading).trans (told_string F h hl))
theorem pp3 : (FmtText.parse [37, 118, 58]).map FmtText.glue = some [.verb {} 118, .lit [58]] := by rfl
theorem pp4 : (FmtText.parse [37, 118, 58, 37, 118]).map FmtText.glue = some [.verb {} 118, .lit [58], .verb {} 118] := by rfl
theorem tx_line (F : Interp) (x : Int) (hw : (Lit.int .i64 x).wf = true) : FmtStop.textOf (F.told "fmt.Sprintf" [[37, 118, 58], shape3, digits 8 (x % 18446744073709551616).toNat] 0) = ⟨(Lib.itoa x ++ [58]).toArray⟩ := by
  have l1 := FmtText.itoa_length_le hw
  refine textOf_told F ?_ (by simp; omega)
  rw [FmtText.text_sprintf_glued pp3 (FmtText.operands_cons (FmtText.operand_int_at (sh := shape3) (k := .i64) rfl rfl x hw) FmtText.operands_nil)]
  simp [FmtText.render, FmtText.printArg_v _ _ hw]
theorem tx_where (F : Interp) (s t : List UInt8) (h1 : s.length ≤ 1000000000) (h2 : t.length ≤ 1000000000) : FmtStop.textOf (F.told "fmt.Sprintf" [[37, 118, 58, 37, 118], shape9, FmtStop.pack s, shape9, FmtStop.pack t] 0) = ⟨(s ++ [58] ++ t).toArray⟩ := by
  refine textOf_told F ?_ (by simp; omega)
  rw [FmtText.text_sprintf_glued pp4 (FmtText.operands_cons (FmtText.operand_str_at (sh := shape9) rfl rfl s (by omega)) (FmtText.operands_cons (FmtText.operand_str_at (sh := shape9) rfl rfl t (by omega)) FmtText.operands_nil))]
  simp [FmtText.render, FmtText.printArg_v_str]
end Go.Proofs.YtlpnagpdjkgbcaaFmt
