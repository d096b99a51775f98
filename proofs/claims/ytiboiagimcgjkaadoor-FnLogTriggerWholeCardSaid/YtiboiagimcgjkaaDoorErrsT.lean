/- What the rows of the two laws on a TriggerLevelWriter list, and a world for the witness. -/
import Derived.Test.YtiboiagimcgjkaaDoorErrs
namespace Go.Proofs.YtiboiagimcgjkaaDoor
open Go.ChangeShapes Go.WideShapes Go.ChangeAt Go.RowKit

def laidAllT : List (String × DataW Unit) := [("math/bits.deBruijn32tab", Rows.laid_math_bits_deBruijn32tab), ("math/bits.deBruijn64tab", Rows.laid_math_bits_deBruijn64tab), ("internal/strconv.uint64pow10", Rows.laid_internal_strconv_uint64pow10), ("strconv.ErrRange", Rows.laid_strconv_ErrRange), ("strconv.ErrSyntax", Rows.laid_strconv_ErrSyntax), ("bytes.ErrTooLarge", Rows.laid_bytes_ErrTooLarge)]
theorem errsT_of {W : World} (h : laidMetH Tryd.prog laidAllT W) : Errs W := by
  have h0 : laidMet Tryd.prog laidAllT W := h
  unfold laidAllT at h0
  have hR := h0.tail.tail.tail
  obtain ⟨a, _, h1, _⟩ := laid_sentinel hR gRng1 gRngT Tryd.underlying56 rowErr Tryd.underlying92 Tryd.underlying94 rfl rfl Tryd.underlying9 cells94 cells9
  obtain ⟨b, _, h2, _⟩ := laid_sentinel hR.tail gSyn0 gSynT Tryd.underlying56 rowErr Tryd.underlying92 Tryd.underlying94 rfl rfl Tryd.underlying9 cells94 cells9
  exact ⟨⟨_, _, h2⟩, ⟨_, _, h1⟩⟩
theorem laid_metT (os : Os) (args : Array Value) : laidMet Tryd.prog laidAllT ((laidWorld os).forCall (fun _ _ => 0) ⟨#[], args, []⟩).memory :=
  laidMet_of_run' 8 (by kernel_rfl) (by kernel_rfl)
end Go.Proofs.YtiboiagimcgjkaaDoor
