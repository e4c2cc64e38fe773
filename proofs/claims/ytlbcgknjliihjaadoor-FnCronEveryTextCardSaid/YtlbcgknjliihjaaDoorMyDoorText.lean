/-
  From what the row lists of the package-level variables to the fact that the walks ask of the world.
-/
import Derived.Test.YtlbcgknjliihjaaDoorMyDoor
namespace Go.Proofs.YtlbcgknjliihjaaDoor
open Go Go.ChangeShapes Go.WideShapes
theorem glob4 {W : World} (h : laidMetH Tryd.prog Rows.fnCronEveryTextRow.laid W) : GlobT W := by
  have h0 : laidMet Tryd.prog Rows.fnCronEveryTextRow.laid W := by rw [← MakeChecks.laidMetH_plain _ _ _ (by kernel_rfl)]; exact h
  have h2 : laidMet Tryd.prog (("internal/strconv.uint64pow10", Rows.laid_internal_strconv_uint64pow10) :: Rows.fnCronEveryTextRow.laid.drop 3) W := laidMet.tail (laidMet.tail h0)
  exact Lib.tabIs_of_head (zs := Lib.pow10Tab) (k := .u64) gPow tPow Tryd.underlying113 Tryd.underlying26 c26 c113 h2
end Go.Proofs.YtlbcgknjliihjaaDoor
