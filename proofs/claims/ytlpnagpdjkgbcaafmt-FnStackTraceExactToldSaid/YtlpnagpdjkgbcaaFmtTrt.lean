/- The other texts of fmt's that the traceback uses, and the traceback in plain mathematics. -/
import Derived.Test.YtlpnagpdjkgbcaaFmtWhr
import Derived.Lib.Join
namespace Go.Proofs.YtlpnagpdjkgbcaaFmt
set_option linter.unusedVariables false
open Go.RowKit Go.ChangeShapes Go.Deep Go.Extern.Stop Go.Stop Go.Extern Go.Kit
theorem pp0 : (FmtText.parse [9, 37, 118, 32, 105, 110, 32, 37, 118]).map FmtText.glue = some [.lit [9], .verb {} 118, .lit [32, 105, 110, 32], .verb {} 118] := by rfl
theorem pp1 : (FmtText.parse [9, 37, 118, 58, 32, 37, 118]).map FmtText.glue = some [.lit [9], .verb {} 118, .lit [58, 32], .verb {} 118] := by rfl
theorem pp2 : (FmtText.parse [37, 115, 10, 37, 115]).map FmtText.glue = some [.verb {} 115, .lit [10], .verb {} 115] := by rfl
theorem pp5 : (FmtText.parse [102, 117, 110, 99, 116, 105, 111, 110, 32, 39, 37, 115, 39]).map FmtText.glue = some [.lit [102, 117, 110, 99, 116, 105, 111, 110, 32, 39], .verb {} 115, .lit [39]] := by rfl
theorem pp6 : (FmtText.parse [102, 117, 110, 99, 116, 105, 111, 110, 32, 37, 115]).map FmtText.glue = some [.lit [102, 117, 110, 99, 116, 105, 111, 110, 32], .verb {} 115] := by rfl
theorem pp7 : (FmtText.parse [60, 37, 118, 58, 37, 118, 62]).map FmtText.glue = some [.lit [60], .verb {} 118, .lit [58], .verb {} 118, .lit [62]] := by rfl
theorem tx_ent (F : Interp) (s t : List UInt8) (h1 : s.length ≤ 1000000000) (h2 : t.length ≤ 1000000000) : FmtStop.textOf (F.told "fmt.Sprintf" [[9, 37, 118, 32, 105, 110, 32, 37, 118], shape9, FmtStop.pack s, shape9, FmtStop.pack t] 0) = ⟨(9 :: s ++ [32, 105, 110, 32] ++ t).toArray⟩ := by
  refine textOf_told F ?_ (by simp; omega)
  rw [FmtText.text_sprintf_glued pp0 (FmtText.operands_cons (FmtText.operand_str_at (sh := shape9) rfl rfl s (by omega)) (FmtText.operands_cons (FmtText.operand_str_at (sh := shape9) rfl rfl t (by omega)) FmtText.operands_nil))]
  simp [FmtText.render, FmtText.printArg_v_str]
theorem tx_base (F : Interp) (s t : List UInt8) (h1 : s.length ≤ 1000000000) (h2 : t.length ≤ 1000000000) : FmtStop.textOf (F.told "fmt.Sprintf" [[9, 37, 118, 58, 32, 37, 118], shape9, FmtStop.pack s, shape9, FmtStop.pack t] 0) = ⟨(9 :: s ++ [58, 32] ++ t).toArray⟩ := by
  refine textOf_told F ?_ (by simp; omega)
  rw [FmtText.text_sprintf_glued pp1 (FmtText.operands_cons (FmtText.operand_str_at (sh := shape9) rfl rfl s (by omega)) (FmtText.operands_cons (FmtText.operand_str_at (sh := shape9) rfl rfl t (by omega)) FmtText.operands_nil))]
  simp [FmtText.render, FmtText.printArg_v_str]
theorem tx_all (F : Interp) (s t : List UInt8) (h1 : s.length ≤ 1000000000) (h2 : t.length ≤ 1000000000) : FmtStop.textOf (F.told "fmt.Sprintf" [[37, 115, 10, 37, 115], shape9, FmtStop.pack s, shape9, FmtStop.pack t] 0) = ⟨(s ++ [10] ++ t).toArray⟩ := by
  refine textOf_told F ?_ (by simp; omega)
  rw [FmtText.text_sprintf_glued pp2 (FmtText.operands_cons (FmtText.operand_str_at (sh := shape9) rfl rfl s (by omega)) (FmtText.operands_cons (FmtText.operand_str_at (sh := shape9) rfl rfl t (by omega)) FmtText.operands_nil))]
  simp [FmtText.render, FmtText.printArg_s_str]
theorem tx_q (F : Interp) (s : List UInt8) (h1 : s.length ≤ 1000000000) : FmtStop.textOf (F.told "fmt.Sprintf" [[102, 117, 110, 99, 116, 105, 111, 110, 32, 39, 37, 115, 39], shape9, FmtStop.pack s] 0) = ⟨([102, 117, 110, 99, 116, 105, 111, 110, 32, 39] ++ s ++ [39]).toArray⟩ := by
  refine textOf_told F ?_ (by simp; omega)
  rw [FmtText.text_sprintf_glued pp5 (FmtText.operands_cons (FmtText.operand_str_at (sh := shape9) rfl rfl s (by omega)) FmtText.operands_nil)]
  simp [FmtText.render, FmtText.printArg_s_str]
theorem tx_nq (F : Interp) (s : List UInt8) (h1 : s.length ≤ 1000000000) : FmtStop.textOf (F.told "fmt.Sprintf" [[102, 117, 110, 99, 116, 105, 111, 110, 32, 37, 115], shape9, FmtStop.pack s] 0) = ⟨([102, 117, 110, 99, 116, 105, 111, 110, 32] ++ s).toArray⟩ := by
  refine textOf_told F ?_ (by simp; omega)
  rw [FmtText.text_sprintf_glued pp6 (FmtText.operands_cons (FmtText.operand_str_at (sh := shape9) rfl rfl s (by omega)) FmtText.operands_nil)]
  simp [FmtText.render, FmtText.printArg_s_str]
theorem tx_pos (F : Interp) (s : List UInt8) (x : Int) (h1 : s.length ≤ 1000000000) (hw : (Lit.int .i64 x).wf = true) : FmtStop.textOf (F.told "fmt.Sprintf" [[60, 37, 118, 58, 37, 118, 62], shape9, FmtStop.pack s, shape3, digits 8 (x % 18446744073709551616).toNat] 0) = ⟨(60 :: s ++ [58] ++ Lib.itoa x ++ [62]).toArray⟩ := by
  have l1 := FmtText.itoa_length_le hw
  refine textOf_told F ?_ (by simp; omega)
  rw [FmtText.text_sprintf_glued pp7 (FmtText.operands_cons (FmtText.operand_str_at (sh := shape9) rfl rfl s (by omega)) (FmtText.operands_cons (FmtText.operand_int_at (sh := shape3) (k := .i64) rfl rfl x hw) FmtText.operands_nil))]
  simp [FmtText.render, FmtText.printArg_v_str, FmtText.printArg_v _ _ hw]
/-- A function's position. -/
def posT (src : ByteArray) (ld : Int) : List UInt8 := 60 :: src.data.toList ++ [58] ++ Lib.itoa ld ++ [62]
def mainT : List UInt8 := [109, 97, 105, 110, 32, 99, 104, 117, 110, 107]
def coroT : List UInt8 := [99, 111, 114, 111, 117, 110, 116, 105, 110, 101]
def anonT : List UInt8 := [40, 97, 110, 111, 110, 121, 109, 111, 117, 115, 41]
/-- The bare name of frame k. -/
def rawT (z : Nat → FR) (src : ByteArray) (ld : Int) (child : Bool) : Nat → List UInt8
  | 0 => if child then coroT else mainT
  | k + 1 => if (z k).g = false ∧ (z (k + 1)).name.size ≠ 0 ∧ (z (k + 1)).pc = 0 then (if (z (k + 1)).g = false ∧ ((z (k + 1)).name = ⟨#[63]⟩ ∨ 0 < zt (z (k + 1))) then posT src ld else (z (k + 1)).name.data.toList)
    else if (z (k + 1)).g = false then posT src ld else anonT
def funT : List UInt8 := [102, 117, 110, 99, 116, 105, 111, 110, 32]
def dress (s : List UInt8) : List UInt8 := if s.head? = some 40 ∨ s.head? = some 60 then funT ++ s else [102, 117, 110, 99, 116, 105, 111, 110, 32, 39] ++ s ++ [39]
/-- The name in the traceback's words. -/
def fmtT (z : Nat → FR) (src : ByteArray) (ld : Int) (child : Bool) (k : Nat) : List UInt8 := if k = 0 then rawT z src ld child 0 else dress (rawT z src ld child k)
def entT (z : Nat → FR) (src : ByteArray) (ld : Int) (child : Bool) (k : Nat) : List UInt8 := 9 :: wtext (z k) src ++ [32, 105, 110, 32] ++ fmtT z src ld child k
def tcT : List UInt8 := [9, 40, 116, 97, 105, 108, 99, 97, 108, 108, 41, 58, 32, 63]
def gT : List UInt8 := [9, 91, 71, 93, 58, 32, 63]
/-- The lines of the frames n - 1 .. j. -/
def linesT (z : Nat → FR) (src : ByteArray) (ld : Int) (child : Bool) (n : Nat) : Nat → List (List UInt8)
  | 0 => []
  | d + 1 => linesT z src ld child n d ++ entT z src ld child (n - 1 - d) :: List.replicate (zt (z (n - 1 - d))).toNat tcT
def dotT : List UInt8 := [9, 46, 46, 46]
def cutT (ls : List (List UInt8)) : List (List UInt8) := if 20 < ls.length then ls.take 7 ++ dotT :: ls.drop (ls.length - 7) else ls
def headT : List UInt8 := [115, 116, 97, 99, 107, 32, 116, 114, 97, 99, 101, 98, 97, 99, 107, 58]
def clampT (lv : Int) (m : Nat) : Nat := (max 0 (min lv m)).toNat
def traceT (z : Nat → FR) (src : ByteArray) (ld : Int) (child : Bool) (n : Nat) (lv : Int) : List UInt8 :=
  let all := linesT z src ld child n n ++ [gT]
  headT ++ [10] ++ Lib.join (cutT (all.drop (clampT lv all.length))) [10]
section
variable {z : Nat → FR} {src : ByteArray} {ld : Int} {child : Bool} {n : Nat}
theorem posT_len (hs : src.size ≤ 65536) (hld : (Lit.int .i64 ld).wf = true) : (posT src ld).length ≤ 70000 := by
  have l1 := FmtText.itoa_length_le hld
  have l2 : src.size ≤ 65536 := hs
  unfold posT
  simp; omega
theorem rawT_len (ok : FOK n z src) (hld : (Lit.int .i64 ld).wf = true) {k : Nat} (hk : k < n) : (rawT z src ld child k).length ≤ 1048576 ∧ 0 < (rawT z src ld child k).length := by
  have l1 := posT_len ok.hs hld
  have l2 : 0 < (posT src ld).length := by simp [posT]
  cases k with
  | zero => rw [rawT]; split <;> exact ⟨by decide, by decide⟩
  | succ k =>
    have hn : (z (k + 1)).name.data.toList.length ≤ 1048576 := ok.name (k + 1) hk
    rw [rawT]
    split
    · rename_i h
      split
      · omega
      · have : (z (k + 1)).name.data.toList.length = (z (k + 1)).name.size := rfl
        omega
    · split
      · omega
      · exact ⟨by decide, by decide⟩
theorem dress_len (s : List UInt8) : (dress s).length ≤ s.length + 11 := by
  unfold dress
  split <;> simp [funT] <;> omega
theorem fmtT_len (ok : FOK n z src) (hld : (Lit.int .i64 ld).wf = true) {k : Nat} (hk : k < n) : (fmtT z src ld child k).length ≤ 1048587 := by
  have h := rawT_len (child := child) ok hld hk
  unfold fmtT
  split
  · rename_i h0
    subst h0
    omega
  · have := dress_len (rawT z src ld child k)
    omega
theorem wtext_len (ok : FOK n z src) {k : Nat} (hk : k < n) (hl : (Lit.int .i64 (z k).line).wf = true) : (wtext (z k) src).length ≤ 70000 := by
  have l1 := FmtText.itoa_length_le hl
  have l2 : src.size ≤ 65536 := ok.hs
  unfold wtext
  split
  · decide
  · simp; omega
theorem entT_len (ok : FOK n z src) (hld : (Lit.int .i64 ld).wf = true) {k : Nat} (hk : k < n) (hl : (Lit.int .i64 (z k).line).wf = true) : (entT z src ld child k).length ≤ 1200000 := by
  have h1 := fmtT_len (child := child) ok hld hk
  have h2 := wtext_len ok hk hl
  unfold entT
  simp; omega
end
end Go.Proofs.YtlpnagpdjkgbcaaFmt
