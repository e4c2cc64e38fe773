import Derived.Test.YtlooelfkkbgmhaaDoorQSx14
import Derived.Test.YtlooelfkkbgmhaaDoorTxt
set_option linter.unusedVariables false
namespace Go.Proofs.YtlooelfkkbgmhaaDoor.fnSemverOrderNames
open Go.RowKit Go.Proofs.YtlooelfkkbgmhaaDoorW.PrintWords Go.Proofs.YtlooelfkkbgmhaaDoor.QS
def wf24 (x : S24) : Prop := ((Lit.int .u64 x.f0).wf = true) ∧ ((Lit.int .u64 x.f1).wf = true) ∧ ((Lit.int .u64 x.f2).wf = true) ∧ (x.f3.size ≤ maxLen) ∧ (x.f4.size ≤ maxLen)
end Go.Proofs.YtlooelfkkbgmhaaDoor.fnSemverOrderNames
namespace Go.Proofs.YtlooelfkkbgmhaaDoor.Pure
open Go.RowKit Go.Proofs.YtlooelfkkbgmhaaDoor.QS Go.Proofs.YtlooelfkkbgmhaaDoorW.PrintWords Go.Proofs.YtlooelfkkbgmhaaDoorW.PrintLast Go.Proofs.YtlooelfkkbgmhaaDoor.fnSemverOrderNames

theorem FnSemverOrderNames (x0 : S24) (x1 : S24) (w0 : wf24 x0) (w1 : wf24 x1) : ∃ k, laws_FnSemverOrderNames.f k x0.f0 x0.f1 x0.f2 x0.f3 x0.f4 x1.f0 x1.f1 x1.f2 x1.f3 x1.f4 = some true := by
  have skip : Ev (fun k => laws_FnSemverOrderNames.j0 k true x0.f0 x0.f1 x0.f2 x0.f3 x0.f4 x1.f0 x1.f1 x1.f2 x1.f3 x1.f4) true := by
    refine Ev.step (f := fun _ => some true) (fun k => ?_) (Ev.now _)
    simp only [laws_FnSemverOrderNames.j0]
    rw [if_pos trivial]
  have h : Ev (fun k => laws_FnSemverOrderNames.f k x0.f0 x0.f1 x0.f2 x0.f3 x0.f4 x1.f0 x1.f1 x1.f2 x1.f3 x1.f4) true := by
    unfold laws_FnSemverOrderNames.f
    rw [fits_eq, fits_eq]
    simp only [Option.bind_some]
    by_cases h0 : x0.f3.size ≤ 2147483647 ∧ x0.f4.size ≤ 2147483647
    · rw [decide_eq_true h0]
      simp only [if_true]
      by_cases h1 : x1.f3.size ≤ 2147483647 ∧ x1.f4.size ≤ 2147483647
      · rw [decide_eq_true h1]
        have hg := ev_svGood [x0, x1] (by intro x hx; rcases List.mem_cons.1 hx with rfl | hx; exact h0; rcases List.mem_cons.1 hx with rfl | hx; exact h1; cases hx) (by simp)
        refine Ev.step (f := fun k => (laws_svGood.f k [x0, x1]).bind fun t181 => (if t181 = true then ((impl_VersionCompare.f k x0.f0 x0.f1 x0.f2 x0.f3 x0.f4 x1.f0 x1.f1 x1.f2 x1.f3 x1.f4).bind fun t182 => ((impl_VersionEqual.f k x0.f0 x0.f1 x0.f2 x0.f3 x0.f4 x1.f0 x1.f1 x1.f2 x1.f3 x1.f4).bind fun t183 => (if (t183 == (t182 == 0)) = true then ((impl_VersionLess.f k x0.f0 x0.f1 x0.f2 x0.f3 x0.f4 x1.f0 x1.f1 x1.f2 x1.f3 x1.f4).bind fun t184 => (if (t184 == (decide (t182 < 0))) = true then ((impl_VersionLessEqual.f k x0.f0 x0.f1 x0.f2 x0.f3 x0.f4 x1.f0 x1.f1 x1.f2 x1.f3 x1.f4).bind fun t185 => (if (t185 == (decide (t182 ≤ 0))) = true then ((impl_VersionGreater.f k x0.f0 x0.f1 x0.f2 x0.f3 x0.f4 x1.f0 x1.f1 x1.f2 x1.f3 x1.f4).bind fun t186 => (if (t186 == (decide (t182 > 0))) = true then ((impl_VersionGreaterEqual.f k x0.f0 x0.f1 x0.f2 x0.f3 x0.f4 x1.f0 x1.f1 x1.f2 x1.f3 x1.f4).bind fun t187 => (some (t187 == (decide (t182 ≥ 0))))) else (some false))) else (some false))) else (some false))) else (some false)))) else (some true))) (fun k => ?_) ?_
        · simp only [laws_FnSemverOrderNames.j0]
          rw [if_neg (by decide)]
        refine Ev.bind hg ?_
        cases hb : ([x0, x1].all goodB) with
        | false => exact Ev.now _
        | true =>
          simp only [if_true]
          have hp := ev_cmpPre x0.f3 x1.f3 h0.1 h1.1
          unfold impl_VersionCompare.f impl_VersionEqual.f impl_VersionLess.f impl_VersionLessEqual.f impl_VersionGreater.f impl_VersionGreaterEqual.f
          refine Ev.bind (Ev.bind hp (Ev.now _)) ?_
          refine Ev.bind (Ev.bind hp (Ev.now _)) ?_
          refine Ev.congr (fun k => by rw [if_pos (by rw [beq_self_eq_true])]) ?_
          refine Ev.bind (Ev.bind hp (Ev.now _)) ?_
          refine Ev.congr (fun k => by rw [if_pos (by rw [beq_self_eq_true])]) ?_
          refine Ev.bind (Ev.bind hp (Ev.now _)) ?_
          refine Ev.congr (fun k => by rw [if_pos (by rw [beq_self_eq_true])]) ?_
          refine Ev.bind (Ev.bind hp (Ev.now _)) ?_
          refine Ev.congr (fun k => by rw [if_pos (by rw [beq_self_eq_true])]) ?_
          refine Ev.bind (Ev.bind hp (Ev.now _)) ?_
          rw [beq_self_eq_true]
          exact Ev.now _
      · rw [decide_eq_false h1]
        exact skip
    · rw [decide_eq_false h0]
      exact skip
  exact h.rounds

end Go.Proofs.YtlooelfkkbgmhaaDoor.Pure
