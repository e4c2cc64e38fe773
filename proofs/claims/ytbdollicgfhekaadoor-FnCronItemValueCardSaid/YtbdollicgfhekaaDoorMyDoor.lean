/-
  From what the row lists of the package-level variables to the fact that Itoa's contract asks of the world.
-/
import Derived.Test.YtbdollicgfhekaaDoorItm
namespace Go.Proofs.YtbdollicgfhekaaDoor
open Go
theorem door3 {W : World} (h : laidMetH Tryd.prog Rows.fnCronItemValueRow.laid W) : GlobT W := glob3 h
end Go.Proofs.YtbdollicgfhekaaDoor
