/-
  What the reference says of a term: whether it is good, and what it holds of.
-/
import Derived.Test.YtlooelfkkbgmhaaDoorEvP
import Derived.Test.YtlooelfkkbgmhaaDoorQSB
set_option linter.unusedVariables false
set_option linter.unusedSimpArgs false
namespace Go.Proofs.YtlooelfkkbgmhaaDoor
open Go Txt Go.RowKit QS Go.Proofs.YtlooelfkkbgmhaaDoorW.PrintWords Go.Proofs.YtlooelfkkbgmhaaDoorW.PrintLast

theorem Ev.succ' {α : Type} {g : Nat → Option α} {r : α} (h : Ev (fun k => g (k + 1)) r) : Ev g r := Ev.step (fun _ => rfl) h

/-- a term is good -/
def GoodT (op gv a b c : Int) (s : List UInt8) : Prop :=
  ¬ ((gv = 0 ∧ op ≠ 0 ∧ op ≠ 4 ∧ op ≠ 6) ∨ (gv = 3 ∧ op = 6 ∧ a = 0 ∧ b = 0 ∧ c = 0)) ∧ (0 ≤ op ∧ op < 8 ∧ 0 ≤ gv ∧ gv ≤ 3) ∧ ((gv < 3 → c = 0 ∧ s = []) ∧ (gv < 2 → b = 0) ∧ (gv < 1 → a = 0)) ∧ preOk s = true

section
variable (op gv a b c : Int) (s : ByteArray)
theorem gt_j3 (hs : s.size ≤ 2147483647) (x : Bool) : Ev (fun k => spec_GoodTerm.j3 k x op gv a b c s) (!x && preOk s.toList) := by
  refine Ev.succ' ?_
  simp only [spec_GoodTerm.j3]
  refine Ev.ite' (fun h => ?_) (fun h => ?_)
  · subst h; exact Ev.now _
  · have hx : x = false := by simpa using h
    subst hx
    unfold preOk
    rw [empty_eq]
    refine Ev.ite' (fun h => ?_) (fun h => ?_)
    · rw [decide_eq_true h]; exact Ev.now _
    · rw [decide_eq_false h]
      refine Ev.bind (ev_validPre s hs) ?_
      refine Ev.ite' (fun h => ?_) (fun h => ?_)
      · rw [h]; exact Ev.val (Ev.some' (ev_smallPre s hs)) (by simp)
      · exact Ev.val (Ev.now _) (by simp [h])

theorem gt_j2 (hs : s.size ≤ 2147483647) (x : Bool) : Ev (fun k => spec_GoodTerm.j2 k x op gv a b c s) (!x && decide ((gv < 3 → c = 0 ∧ s.toList = []) ∧ (gv < 2 → b = 0) ∧ (gv < 1 → a = 0)) && preOk s.toList) := by
  refine Ev.succ' ?_
  simp only [spec_GoodTerm.j2]
  repeat' (refine Ev.ite' (fun _ => ?_) (fun _ => ?_))
  all_goals first
    | exact Ev.val (Ev.now _) (by grind)
    | exact Ev.val (gt_j3 op gv a b c s hs _) (by grind)
theorem gt_j1 (hs : s.size ≤ 2147483647) (x : Bool) : Ev (fun k => spec_GoodTerm.j1 k x op gv a b c s) (!x && decide (0 ≤ op ∧ op < 8 ∧ 0 ≤ gv ∧ gv ≤ 3) && decide ((gv < 3 → c = 0 ∧ s.toList = []) ∧ (gv < 2 → b = 0) ∧ (gv < 1 → a = 0)) && preOk s.toList) := by
  refine Ev.succ' ?_
  simp only [spec_GoodTerm.j1]
  repeat' (refine Ev.ite' (fun _ => ?_) (fun _ => ?_))
  all_goals first
    | exact Ev.val (Ev.now _) (by grind)
    | exact Ev.val (gt_j2 op gv a b c s hs _) (by grind)
theorem gt_j0 (hs : s.size ≤ 2147483647) (x : Bool) : Ev (fun k => spec_GoodTerm.j0 k x op gv a b c s) (!decide ((gv = 0 ∧ op ≠ 0 ∧ op ≠ 4 ∧ op ≠ 6) ∨ (gv = 3 ∧ op = 6 ∧ x = true)) && decide (0 ≤ op ∧ op < 8 ∧ 0 ≤ gv ∧ gv ≤ 3) && decide ((gv < 3 → c = 0 ∧ s.toList = []) ∧ (gv < 2 → b = 0) ∧ (gv < 1 → a = 0)) && preOk s.toList) := by
  refine Ev.succ' ?_
  simp only [spec_GoodTerm.j0]
  repeat' (refine Ev.ite' (fun _ => ?_) (fun _ => ?_))
  all_goals exact Ev.val (gt_j1 op gv a b c s hs _) (by grind)
theorem ev_goodTerm (hs : s.size ≤ 2147483647) : ∃ r, Ev (fun k => spec_GoodTerm.f k op gv a b c s) r ∧ (r = true ↔ GoodT op gv a b c s.toList) := by
  have h : Ev (fun k => spec_GoodTerm.f k op gv a b c s) (!decide ((gv = 0 ∧ op ≠ 0 ∧ op ≠ 4 ∧ op ≠ 6) ∨ (gv = 3 ∧ op = 6 ∧ a = 0 ∧ b = 0 ∧ c = 0)) && decide (0 ≤ op ∧ op < 8 ∧ 0 ≤ gv ∧ gv ≤ 3) && decide ((gv < 3 → c = 0 ∧ s.toList = []) ∧ (gv < 2 → b = 0) ∧ (gv < 1 → a = 0)) && preOk s.toList) := by
    unfold spec_GoodTerm.f
    repeat' (refine Ev.ite' (fun _ => ?_) (fun _ => ?_))
    all_goals exact Ev.val (gt_j0 op gv a b c s hs _) (by grind)
  exact ⟨_, h, by unfold GoodT; grind⟩
end
end Go.Proofs.YtlooelfkkbgmhaaDoor
