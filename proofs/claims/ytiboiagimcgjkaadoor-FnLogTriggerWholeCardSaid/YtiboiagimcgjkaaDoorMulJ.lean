/- Several writers: the law about the rows of two runs of lines. -/
import Derived.Test.YtiboiagimcgjkaaDoorMulI
namespace Go.Proofs.YtiboiagimcgjkaaDoor
open Go.RowKit

/-- Two runs of lines, one behind the other. -/
def cat (a : Nat → LineOp) (m : Nat) (b : Nat → LineOp) : Nat → LineOp := fun i => if i < m then a i else b (i - m)
theorem rows_pre {n : Nat} {lo : Nat → Int} {a b : Nat → LineOp} : ∀ (m : Nat), (∀ i, i < m → a i = b i) → rowsOf n lo a m = rowsOf n lo b m
  | 0, _ => rfl
  | m + 1, h => by
    simp only [rowsOf]
    rw [h m (by omega), rows_pre m (fun i hi => h i (by omega))]
theorem rows_cat {n : Nat} {lo : Nat → Int} (a b : Nat → LineOp) (m : Nat) : ∀ (q i : Nat), rowsOf n lo (cat a m b) (m + q) i = rowsOf n lo a m i ++ rowsOf n lo b q i
  | 0, i => by
    rw [Nat.add_zero, rows_pre (b := a) m (fun j hj => by simp [cat, hj])]
    simp [rowsOf]
  | q + 1, i => by
    have ih := rows_cat (n := n) (lo := lo) a b m q i
    have hc : cat a m b (m + q) = b q := by
      unfold cat
      rw [if_neg (by omega), show m + q - m = q by omega]
    show hold lo (IntKind.i8.wrap (cat a m b (m + q)).lv) (cat a m b (m + q)).tx (rowsOf n lo (cat a m b) (m + q)) n i = rowsOf n lo a m i ++ hold lo (IntKind.i8.wrap (b q).lv) (b q).tx (rowsOf n lo b q) n i
    rw [hc]
    simp only [hold]
    split
    · rw [ih, List.append_assoc]
    · exact ih
end Go.Proofs.YtiboiagimcgjkaaDoor
