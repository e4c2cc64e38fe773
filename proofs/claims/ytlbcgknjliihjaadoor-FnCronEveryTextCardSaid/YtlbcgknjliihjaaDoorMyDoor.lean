/-
  From what the row lists of the package-level variables to the fact that the walks ask of the world.
-/
import Derived.Test.YtlbcgknjliihjaaDoorRows
import Derived.Test.YtlbcgknjliihjaaDoorWri
import Derived.Lib.LaidTab
import Derived.MakeChecks
import Derived.Lay
import Derived.Stop.LaidErr
namespace Go.Proofs.YtlbcgknjliihjaaDoor
open Go Go.ChangeShapes Go.WideShapes
theorem c113 : Tryd.prog.cellsOf 113 = 20 := by kernel_rfl
theorem c26 : Tryd.prog.cellsOf 26 = 1 := by kernel_rfl
theorem tPow : (Tryd.prog.globals[1]?).map (·.type) = some 113 := by kernel_rfl
theorem glob3 {W : World} (h : laidMetH Tryd.prog Rows.fnCronEveryJoinedRow.laid W) : GlobT W := by
  have h0 : laidMet Tryd.prog Rows.fnCronEveryJoinedRow.laid W := by rw [← MakeChecks.laidMetH_plain _ _ _ (by kernel_rfl)]; exact h
  have h2 : laidMet Tryd.prog [("internal/strconv.uint64pow10", Rows.laid_internal_strconv_uint64pow10), ("pub-timebook/pub/gotime.errLeadingInt", Rows.laid_pub_timebook_pub_gotime_errLeadingInt)] W := laidMet.tail (laidMet.tail h0)
  exact Lib.tabIs_of_head (zs := Lib.pow10Tab) (k := .u64) gPow tPow Tryd.underlying113 Tryd.underlying26 c26 c113 h2
end Go.Proofs.YtlbcgknjliihjaaDoor
