/-
  The facts on the package-level variables that the contracts of strconv ask, and that calls keep.
-/
import Derived.Test.YtlooelfkkbgmhaaDoorProg
import Derived.Test.YtlooelfkkbgmhaaDoorShelf
import Derived.WalkSmall
import Derived.Lib.LaidTab
import Derived.Below
namespace Go.Proofs.YtlooelfkkbgmhaaDoor
open Go Go.RowKit

theorem gSyntax : Tryd.prog.globalNamed "strconv.ErrSyntax" = some 1 := by kernel_rfl
theorem gRange : Tryd.prog.globalNamed "strconv.ErrRange" = some 2 := by kernel_rfl
theorem gPow : Tryd.prog.globalNamed "internal/strconv.uint64pow10" = some 0 := by kernel_rfl

/-- the two errors of strconv are errors -/
def GlobE (w : World) : Prop := (∃ tp p, w.var? Tryd.prog "strconv.ErrSyntax" = some #[.iface tp p]) ∧ (∃ tp p, w.var? Tryd.prog "strconv.ErrRange" = some #[.iface tp p])
/-- the table of the powers of ten -/
def GlobT (w : World) : Prop := Lib.TabIs Tryd.prog w "internal/strconv.uint64pow10" .u64 Lib.pow10Tab

theorem var_lt {w : World} {n : String} {g : Nat} {cs : Array Value} (hg : Tryd.prog.globalNamed n = some g) (h : w.var? Tryd.prog n = some cs) : g < w.heap.size := by
  unfold World.var? at h
  simp only [hg, Option.bind_some] at h
  by_cases hlt : g < w.heap.size
  · exact hlt
  · rw [Array.getElem?_eq_none (by omega)] at h
    cases h

theorem var_keeps {w w' : World} {n : String} {g : Nat} {cs : Array Value} (hg : Tryd.prog.globalNamed n = some g) (hb : Below w.heap.size w w') (h : w.var? Tryd.prog n = some cs) : w'.var? Tryd.prog n = some cs :=
  var?_below hb hg (var_lt hg h) h

theorem globE_below {w w' : World} (h : GlobE w) (hb : Below w.heap.size w w') : GlobE w' := by
  obtain ⟨⟨t1, p1, h1⟩, ⟨t2, p2, h2⟩⟩ := h
  exact ⟨⟨t1, p1, var_keeps gSyntax hb h1⟩, ⟨t2, p2, var_keeps gRange hb h2⟩⟩
theorem globT_below {w w' : World} (h : GlobT w) (hb : Below w.heap.size w w') : GlobT w' := var_keeps gPow hb h

end Go.Proofs.YtlooelfkkbgmhaaDoor
