/-
  Small laws of answers that hold from some number of rounds on.
-/
import Derived.Test.YtlooelfkkbgmhaaDoorTxt
set_option linter.unusedVariables false
set_option linter.unusedSimpArgs false
namespace Go.Proofs.YtlooelfkkbgmhaaDoor
open Go Txt Go.RowKit QS Go.Proofs.YtlooelfkkbgmhaaDoorW.PrintWords Go.Proofs.YtlooelfkkbgmhaaDoorW.PrintLast

theorem Ev.ite' {α : Type} {p : Prop} [Decidable p] {f g : Nat → Option α} {r : α} (h1 : p → Ev f r) (h2 : ¬ p → Ev g r) : Ev (fun k => if p then f k else g k) r := by
  by_cases h : p
  · exact Ev.congr (fun k => if_pos h) (h1 h)
  · exact Ev.congr (fun k => if_neg h) (h2 h)
theorem Ev.val {α : Type} {f : Nat → Option α} {r r' : α} (h : Ev f r) (e : r = r') : Ev f r' := e ▸ h
theorem Ev.some' {α : Type} {f : Nat → Option α} {r : α} (h : Ev f r) : Ev (fun k => (f k).bind fun t => some t) r := Ev.bind h (Ev.now _)
end Go.Proofs.YtlooelfkkbgmhaaDoor
