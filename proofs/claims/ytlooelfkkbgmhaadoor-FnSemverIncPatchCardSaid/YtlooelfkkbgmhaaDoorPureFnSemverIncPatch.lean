import Derived.Test.YtlooelfkkbgmhaaDoorQlawsFnSemverIncPatch
import Derived.Test.YtlooelfkkbgmhaaDoorVer
set_option linter.unusedVariables false
namespace Go.Proofs.YtlooelfkkbgmhaaDoor.fnSemverIncPatch
open Go.RowKit Go.Proofs.YtlooelfkkbgmhaaDoorW.PrintWords Go.Proofs.YtlooelfkkbgmhaaDoor.QS
def wf24 (x : S24) : Prop := ((Lit.int .u64 x.f0).wf = true) ∧ ((Lit.int .u64 x.f1).wf = true) ∧ ((Lit.int .u64 x.f2).wf = true) ∧ (x.f3.size ≤ maxLen) ∧ (x.f4.size ≤ maxLen)
end Go.Proofs.YtlooelfkkbgmhaaDoor.fnSemverIncPatch
namespace Go.Proofs.YtlooelfkkbgmhaaDoor.Pure
open Go.RowKit Go.Proofs.YtlooelfkkbgmhaaDoor.QS Go.Proofs.YtlooelfkkbgmhaaDoorW.PrintWords Go.Proofs.YtlooelfkkbgmhaaDoorW.PrintLast Go.Proofs.YtlooelfkkbgmhaaDoor.fnSemverIncPatch

theorem FnSemverIncPatch (x0 : S24) (w0 : wf24 x0) : ∃ k, laws_FnSemverIncPatch.f k x0.f0 x0.f1 x0.f2 x0.f3 x0.f4 = some true := by
  obtain ⟨⟨a0, a1⟩, ⟨b0, b1⟩, ⟨c0, c1⟩, _, _⟩ : (0 ≤ x0.f0 ∧ x0.f0 < 18446744073709551616) ∧ (0 ≤ x0.f1 ∧ x0.f1 < 18446744073709551616) ∧ (0 ≤ x0.f2 ∧ x0.f2 < 18446744073709551616) ∧ x0.f3.size ≤ maxLen ∧ x0.f4.size ≤ maxLen :=
    ⟨wf_u64 w0.1, wf_u64 w0.2.1, wf_u64 w0.2.2.1, w0.2.2.2.1, w0.2.2.2.2⟩
  have h : Ev (fun k => laws_FnSemverIncPatch.f k x0.f0 x0.f1 x0.f2 x0.f3 x0.f4) true := by
    unfold laws_FnSemverIncPatch.f
    rw [fits_eq]
    simp only [Option.bind_some]
    by_cases h0 : x0.f3.size ≤ 2147483647 ∧ x0.f4.size ≤ 2147483647
    · rw [decide_eq_true h0]
      refine Ev.congr (fun k => if_pos rfl) ?_
      refine Ev.bind (ev_good1 x0 h0) ?_
      cases hg : goodB x0 with
      | false => exact Ev.now _
      | true =>
        refine Ev.congr (fun k => if_pos rfl) ?_
        have hgood := ev_good x0.f0 x0.f1 x0.f2 x0.f3 x0.f4 h0.1 h0.2
        have hp : ∃ b, Ev (fun k => spec_Plain.f k x0.f0 x0.f1 x0.f2 x0.f3 x0.f4) b ∧ (b = true → x0.f0 < 18446744073709551615 ∧ x0.f1 < 18446744073709551615 ∧ x0.f2 < 18446744073709551615) := by
          unfold spec_Plain.f
          cases hb : (preOk x0.f3.toList && metaOk x0.f4.toList) with
          | false => rw [hb] at hgood; exact ⟨false, Ev.bind hgood (Ev.now _), fun h => by cases h⟩
          | true =>
            rw [hb] at hgood
            by_cases e0 : x0.f0 < 18446744073709551615
            · by_cases e1 : x0.f1 < 18446744073709551615
              · by_cases e2 : x0.f2 < 18446744073709551615
                · by_cases e3 : x0.f4.toList = []
                  · exact ⟨true, Ev.bind hgood (Ev.congr (fun k => by rw [if_pos rfl, if_pos e0, if_pos e1, if_pos e2, if_pos e3]) (Ev.now _)), fun _ => ⟨e0, e1, e2⟩⟩
                  · exact ⟨_, Ev.bind hgood (Ev.congr (fun k => by rw [if_pos rfl, if_pos e0, if_pos e1, if_pos e2, if_neg e3]) (Ev.now _)), fun _ => ⟨e0, e1, e2⟩⟩
                · exact ⟨false, Ev.bind hgood (Ev.congr (fun k => by rw [if_pos rfl, if_pos e0, if_pos e1, if_neg e2]) (Ev.now _)), fun h => by cases h⟩
              · exact ⟨false, Ev.bind hgood (Ev.congr (fun k => by rw [if_pos rfl, if_pos e0, if_neg e1]) (Ev.now _)), fun h => by cases h⟩
            · exact ⟨false, Ev.bind hgood (Ev.congr (fun k => by rw [if_pos rfl, if_neg e0]) (Ev.now _)), fun h => by cases h⟩
        obtain ⟨b, hb, hbt⟩ := hp
        refine Ev.bind hb ?_
        cases b with
        | false => exact Ev.now _
        | true =>
          obtain ⟨e0, e1, e2⟩ := hbt rfl
          refine Ev.congr (fun k => if_pos rfl) ?_
          unfold impl_VersionIncPatch.f
          rw [if_pos ⟨⟨a0, e0⟩, ⟨b0, e1⟩, ⟨c0, e2⟩⟩]
          unfold spec_IncPatch.f spec_Bare.f
          by_cases g : x0.f3.toList = []
          · rw [if_pos g, if_pos g, u64_wrap (by omega) (by omega)]
            exact Ev.congr (fun k => by simp) (Ev.now _)
          · rw [if_neg g, if_neg g]
            exact Ev.congr (fun k => by simp) (Ev.now _)
    · rw [decide_eq_false h0]
      exact Ev.now _
  exact h.rounds

end Go.Proofs.YtlooelfkkbgmhaaDoor.Pure
