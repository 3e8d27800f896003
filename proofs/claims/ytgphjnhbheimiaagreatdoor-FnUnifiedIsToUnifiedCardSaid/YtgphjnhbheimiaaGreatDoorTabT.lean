/-
  The table of powers of ten out of what a row lists. No condition.
-/
import Derived.Test.YtgphjnhbheimiaaGreatDoorRows
import Derived.Test.YtgphjnhbheimiaaGreatDoorStB
import Derived.Lib.LaidTab
import Derived.ProofKit
import Derived.LaidMore
import Derived.Stop.Joined
import Derived.Stop.LaidErr
namespace Go.Proofs.YtgphjnhbheimiaaGreatDoor
set_option linter.unusedVariables false
open Go.RowKit Go.Lib

/-- the tables as a row lists them -/
noncomputable def laidT : List (String × DataW Unit) := [("math/bits.deBruijn32tab", Rows.laid_math_bits_deBruijn32tab), ("math/bits.deBruijn64tab", Rows.laid_math_bits_deBruijn64tab), ("internal/strconv.uint64pow10", Rows.laid_internal_strconv_uint64pow10)]
theorem pow10Laid : (Rows.laid_internal_strconv_uint64pow10 : DataW Unit) = tabData .u64 pow10Tab := by kernel_rfl
theorem of_laidT {W : World} (h : laidMetH Tryz.prog laidT W) : TabP W := by
  rw [MakeChecks.laidMetH_plain _ _ _ (by kernel_rfl)] at h
  have h2 : laidMet Tryz.prog [("internal/strconv.uint64pow10", Rows.laid_internal_strconv_uint64pow10)] W := laidMet.tail (laidMet.tail h)
  rw [pow10Laid] at h2
  exact tabIs_of_head (g := 1) (t := 144) (e := 125) (n := 20) (by kernel_rfl) (by kernel_rfl) (by kernel_rfl) (by kernel_rfl) (by kernel_rfl) (by kernel_rfl) h2
end Go.Proofs.YtgphjnhbheimiaaGreatDoor
