/-
  From what a row lists of the package-level variables to the facts that the contracts ask of the world.
-/
import Derived.Test.YtlooelfkkbgmhaaDoorRows
import Derived.Test.YtlooelfkkbgmhaaDoorPart
import Derived.Stop.LaidErr
import Derived.LaidLaws
import Derived.MakeChecks
namespace Go.Proofs.YtlooelfkkbgmhaaDoor
open Go Go.ChangeShapes Go.WideShapes

theorem c130 : Tryd.prog.cellsOf 130 = 1 := by kernel_rfl
theorem c9 : Tryd.prog.cellsOf 9 = 1 := by kernel_rfl
theorem tSyntax : (Tryd.prog.globals[1]?).map (·.type) = some 82 := by kernel_rfl
theorem tRange : (Tryd.prog.globals[2]?).map (·.type) = some 82 := by kernel_rfl
theorem tPow : (Tryd.prog.globals[0]?).map (·.type) = some 142 := by kernel_rfl
theorem c142 : Tryd.prog.cellsOf 142 = 20 := by kernel_rfl
theorem c10 : Tryd.prog.cellsOf 22 = 1 := by kernel_rfl
theorem star : "*" ++ "errors.errorString" = "*errors.errorString" := by decide
theorem row128 (u : TypeId) (h : Tryd.prog.typeName? 3 u = some "*errors.errorString") : u = 128 :=
  typeName_ptr_named (nm := "errors.errorString") (by rw [star]; kernel_rfl) (by kernel_rfl) (by decide) u (by rw [star]; exact h)

theorem glob5 {W : World} (h : laidMetH Tryd.prog Rows.fnSemverPartRow.laid W) : GlobE W ∧ GlobT W := by
  rw [MakeChecks.laidMetH_plain _ _ _ (by kernel_rfl)] at h
  have h3 : laidMet Tryd.prog [("internal/strconv.uint64pow10", Rows.laid_internal_strconv_uint64pow10), ("strconv.ErrRange", Rows.laid_strconv_ErrRange), ("strconv.ErrSyntax", Rows.laid_strconv_ErrSyntax)] W := h.tail.tail
  have h4 : laidMet Tryd.prog [("strconv.ErrRange", Rows.laid_strconv_ErrRange), ("strconv.ErrSyntax", Rows.laid_strconv_ErrSyntax)] W := h3.tail
  have h5 : laidMet Tryd.prog [("strconv.ErrSyntax", Rows.laid_strconv_ErrSyntax)] W := h4.tail
  obtain ⟨a, s, hv, _⟩ := laid_sentinel h5 gSyntax tSyntax Tryd.underlying82 row128 Tryd.underlying128 Tryd.underlying130 rfl rfl Tryd.underlying9 c130 c9
  obtain ⟨a', s', hv', _⟩ := laid_sentinel h4 gRange tRange Tryd.underlying82 row128 Tryd.underlying128 Tryd.underlying130 rfl rfl Tryd.underlying9 c130 c9
  exact ⟨⟨⟨_, _, hv⟩, ⟨_, _, hv'⟩⟩, Lib.tabIs_of_head (zs := Lib.pow10Tab) (k := .u64) gPow tPow Tryd.underlying142 Tryd.underlying22 c10 c142 h3⟩

theorem glob3 {W : World} (h : laidMetH Tryd.prog Rows.fnSemverIncPatchRow.laid W) : GlobT W := by
  rw [MakeChecks.laidMetH_plain _ _ _ (by kernel_rfl)] at h
  have h3 : laidMet Tryd.prog [("internal/strconv.uint64pow10", Rows.laid_internal_strconv_uint64pow10)] W := h.tail.tail
  exact Lib.tabIs_of_head (zs := Lib.pow10Tab) (k := .u64) gPow tPow Tryd.underlying142 Tryd.underlying22 c10 c142 h3
end Go.Proofs.YtlooelfkkbgmhaaDoor
