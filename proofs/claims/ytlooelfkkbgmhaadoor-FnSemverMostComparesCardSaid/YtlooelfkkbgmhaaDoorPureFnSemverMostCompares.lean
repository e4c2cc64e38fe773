import Derived.Test.YtlooelfkkbgmhaaDoorQlawsFnSemverMostCompares
import Derived.Test.YtlooelfkkbgmhaaDoorVer
set_option linter.unusedVariables false
namespace Go.Proofs.YtlooelfkkbgmhaaDoor.fnSemverMostCompares
open Go.RowKit Go.Proofs.YtlooelfkkbgmhaaDoorW.PrintWords Go.Proofs.YtlooelfkkbgmhaaDoor.QS
def wf24 (x : S24) : Prop := ((Lit.int .u64 x.f0).wf = true) ∧ ((Lit.int .u64 x.f1).wf = true) ∧ ((Lit.int .u64 x.f2).wf = true) ∧ (x.f3.size ≤ maxLen) ∧ (x.f4.size ≤ maxLen)
end Go.Proofs.YtlooelfkkbgmhaaDoor.fnSemverMostCompares
namespace Go.Proofs.YtlooelfkkbgmhaaDoor.Pure
open Go.RowKit Go.Proofs.YtlooelfkkbgmhaaDoor.QS Go.Proofs.YtlooelfkkbgmhaaDoorW.PrintWords Go.Proofs.YtlooelfkkbgmhaaDoorW.PrintLast Go.Proofs.YtlooelfkkbgmhaaDoor.fnSemverMostCompares

theorem st3 (op a b c : Int) (s m : ByteArray) : laws_stTerm.f op a b c s m 3 = some (op, 3, a, b, c, s) := by
  unfold laws_stTerm.f
  rw [if_pos (by omega), if_pos (by omega), if_pos (by omega)]

theorem FnSemverMostCompares (x0 : S24) (x1 : S24) (w0 : wf24 x0) (w1 : wf24 x1) : ∃ k, laws_FnSemverMostCompares.f k x0.f0 x0.f1 x0.f2 x0.f3 x0.f4 x1.f0 x1.f1 x1.f2 x1.f3 x1.f4 = some true := by
  have skip : Ev (fun k => laws_FnSemverMostCompares.j0 k true x0.f0 x0.f1 x0.f2 x0.f3 x0.f4 x1.f0 x1.f1 x1.f2 x1.f3 x1.f4) true := by
    refine Ev.step (f := fun _ => some true) (fun k => ?_) (Ev.now _)
    simp only [laws_FnSemverMostCompares.j0]
    rw [if_pos trivial]
  have h : Ev (fun k => laws_FnSemverMostCompares.f k x0.f0 x0.f1 x0.f2 x0.f3 x0.f4 x1.f0 x1.f1 x1.f2 x1.f3 x1.f4) true := by
    unfold laws_FnSemverMostCompares.f
    rw [fits_eq, fits_eq]
    simp only [Option.bind_some]
    by_cases h0 : x0.f3.size ≤ 2147483647 ∧ x0.f4.size ≤ 2147483647
    · rw [decide_eq_true h0]
      simp only [if_true]
      by_cases h1 : x1.f3.size ≤ 2147483647 ∧ x1.f4.size ≤ 2147483647
      · rw [decide_eq_true h1]
        have hg := ev_svGood [x0, x1] (by intro x hx; rcases List.mem_cons.1 hx with rfl | hx; exact h0; rcases List.mem_cons.1 hx with rfl | hx; exact h1; cases hx) (by simp)
        refine Ev.step (f := fun k => (laws_svGood.f k [x0, x1]).bind fun t198 => (if t198 = true then ((impl_MostHolds.f k 0 3 x1.f0 x1.f1 x1.f2 x1.f3 x0.f0 x0.f1 x0.f2 x0.f3 x0.f4 true).bind fun t205 => ((impl_VersionLessEqual.f k x0.f0 x0.f1 x0.f2 x0.f3 x0.f4 x1.f0 x1.f1 x1.f2 x1.f3 x1.f4).bind fun t206 => (if (t205 == t206) = true then ((impl_MostHolds.f k 0 3 x0.f0 x0.f1 x0.f2 x0.f3 x0.f0 x0.f1 x0.f2 x0.f3 x0.f4 true).bind fun t213 => (some t213)) else (some false)))) else (some true))) (fun k => ?_) ?_
        · simp only [laws_FnSemverMostCompares.j0]
          rw [if_neg (by decide)]
          simp only [st3, Option.bind_some]
        refine Ev.bind hg ?_
        cases hb : ([x0, x1].all goodB) with
        | false => exact Ev.now _
        | true =>
          simp only [if_true]
          have hp := ev_cmpPre x0.f3 x1.f3 h0.1 h1.1
          have hq := ev_cmpPre x0.f3 x0.f3 h0.1 h0.1
          unfold impl_MostHolds.f impl_VersionLessEqual.f
          refine Ev.bind (Ev.congr (fun k => if_pos (by omega)) (Ev.bind hp (Ev.now _))) ?_
          refine Ev.bind (Ev.bind hp (Ev.now _)) ?_
          refine Ev.congr (fun k => by rw [if_pos (by simp [gate, leB])]) ?_
          refine Ev.bind (Ev.congr (fun k => if_pos (by omega)) (Ev.bind hq (Ev.now _))) ?_
          rw [cmpF_self]
          exact Ev.congr (fun k => by simp [gate, leB]) (Ev.now _)
      · rw [decide_eq_false h1]
        exact skip
    · rw [decide_eq_false h0]
      exact skip
  exact h.rounds

end Go.Proofs.YtlooelfkkbgmhaaDoor.Pure
