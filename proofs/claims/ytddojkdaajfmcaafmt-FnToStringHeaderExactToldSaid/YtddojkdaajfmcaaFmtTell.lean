/- What opToString answers: the words for it. -/
import Derived.Test.YtddojkdaajfmcaaFmtTxt
import Derived.Below
namespace Go.Proofs.YtddojkdaajfmcaaFmt
open Go.RowKit Go.Extern.Stop Go.Stop Go.Extern Go.Kit
def TS (name : List UInt8) (T : Nat) (more : Bool) (x : Int) (w : World) (e : Ending) (w' : World) : Prop :=
  ∃ R : List UInt8, e = .returned (.string ⟨(HD name T x ++ R).toArray⟩) ∧ Below w.heap.size w w' ∧ R.length ≤ 1000 ∧ ((more = true ∧ ∃ r, R = 59 :: 32 :: r) ∨ (more = false ∧ R = []))
theorem HD_size (name : List UInt8) (T : Nat) (x : Int) (hl : name.length ≤ 100) {b : ByteArray} (h : (⟨(HD name T x).toArray⟩ : ByteArray) = b) : b.size ≤ 1000 := by
  subst h
  have l1 := FmtText.itoa_length_le (AA_w x)
  have l2 := FmtText.itoa_length_le (BB_w x)
  have l3 := FmtText.itoa_length_le (CC_w x)
  have l4 := FmtText.itoa_length_le (BX_w x)
  have l5 := FmtText.itoa_length_le (SX_w x)
  show (HD name T x).toArray.size ≤ 1000
  unfold HD
  split
  · simp; omega
  · split <;> simp <;> omega
theorem app_lists (a b : List UInt8) : (⟨a.toArray⟩ : ByteArray) ++ ⟨b.toArray⟩ = ⟨(a ++ b).toArray⟩ := by
  apply bytes_ext
  simp [ByteArray.data_append]
end Go.Proofs.YtddojkdaajfmcaaFmt
