import Derived.Test.YtlooelfkkbgmhaaDoorQlawsFnSemverTermFewer
import Derived.Test.YtlooelfkkbgmhaaDoorRel
set_option linter.unusedVariables false
set_option linter.unusedSimpArgs false
namespace Go.Proofs.YtlooelfkkbgmhaaDoor.fnSemverTermFewer
open Go.RowKit Go.Proofs.YtlooelfkkbgmhaaDoorW.PrintWords Go.Proofs.YtlooelfkkbgmhaaDoor.QS
def wf24 (x : S24) : Prop := ((Lit.int .u64 x.f0).wf = true) ∧ ((Lit.int .u64 x.f1).wf = true) ∧ ((Lit.int .u64 x.f2).wf = true) ∧ (x.f3.size ≤ maxLen) ∧ (x.f4.size ≤ maxLen)
end Go.Proofs.YtlooelfkkbgmhaaDoor.fnSemverTermFewer
namespace Go.Proofs.YtlooelfkkbgmhaaDoor.Pure
open Go Txt Go.RowKit Go.Proofs.YtlooelfkkbgmhaaDoor.QS Go.Proofs.YtlooelfkkbgmhaaDoorW.PrintWords Go.Proofs.YtlooelfkkbgmhaaDoorW.PrintLast Go.Proofs.YtlooelfkkbgmhaaDoor.fnSemverTermFewer

theorem ev_stHolds (op k a' b' c' a b c : Int) (h0 : 0 ≤ op) (h8 : op < 8) (hk0 : 0 ≤ k) (hk : k ≤ 3) : Ev (fun n => laws_stHolds.f n op a' b' c' ⟨#[]⟩ ⟨#[]⟩ k a b c ⟨#[]⟩ ⟨#[]⟩) (relB op k a' b' c' a b c) := by
  unfold laws_stHolds.f laws_stTerm.f
  simp only [Option.bind_some, ite_self]
  exact Ev.some'' (ev_termRel op k a' b' c' a b c ⟨#[]⟩ true h0 h8 hk0 hk)

theorem FnSemverTermFewer (x0 : S24) (a1 : Int) (a2 : Int) (x3 : S24) (w0 : wf24 x0) (w1 : (Lit.int .i64 a1).wf = true) (w2 : (Lit.int .i64 a2).wf = true) (w3 : wf24 x3) : ∃ k, laws_FnSemverTermFewer.f k x0.f0 x0.f1 x0.f2 x0.f3 x0.f4 a1 a2 x3.f0 x3.f1 x3.f2 x3.f3 x3.f4 = some true := by
  obtain ⟨⟨p0, p1⟩, ⟨b0, b1⟩, ⟨c0, c1⟩⟩ : (0 ≤ x0.f0 ∧ x0.f0 < 18446744073709551616) ∧ (0 ≤ x0.f1 ∧ x0.f1 < 18446744073709551616) ∧ (0 ≤ x0.f2 ∧ x0.f2 < 18446744073709551616) := ⟨wf_u64 w0.1, wf_u64 w0.2.1, wf_u64 w0.2.2.1⟩
  obtain ⟨⟨d0, d1⟩, ⟨e0, e1⟩, ⟨g0, g1⟩⟩ : (0 ≤ x3.f0 ∧ x3.f0 < 18446744073709551616) ∧ (0 ≤ x3.f1 ∧ x3.f1 < 18446744073709551616) ∧ (0 ≤ x3.f2 ∧ x3.f2 < 18446744073709551616) := ⟨wf_u64 w3.1, wf_u64 w3.2.1, wf_u64 w3.2.2.1⟩
  obtain ⟨k0, k1⟩ := wf_i64 w1
  obtain ⟨o0, o1⟩ := wf_i64 w2
  have skip1 : ∀ y1 y2 y3 y4 y5 z1 z2 z3 z4 z5, Ev (fun k => laws_FnSemverTermFewer.j1 k a1 a2 true y1 y2 y3 y4 y5 z1 z2 z3 z4 z5) true := by
    intros
    refine Ev.succ'' ?_
    simp only [laws_FnSemverTermFewer.j1]
    exact Ev.congr (fun k => if_pos (by first | rfl | trivial)) (Ev.now _)
  have main : ∀ t, (t = false → (a1 = 2 ∨ a1 = 3) ∧ (0 ≤ a2 ∧ a2 < 8) ∧ (a2 = 6 → ¬ (x0.f0 = 0 ∧ x0.f1 = 0 ∧ x0.f2 = 0))) → Ev (fun k => laws_FnSemverTermFewer.j1 k a1 a2 t x0.f0 x0.f1 x0.f2 ⟨#[]⟩ ⟨#[]⟩ x3.f0 x3.f1 x3.f2 ⟨#[]⟩ ⟨#[]⟩) true := by
    intro t ht
    cases t with
    | true => exact skip1 _ _ _ _ _ _ _ _ _ _
    | false =>
      obtain ⟨hk, ⟨h0, h8⟩, hz⟩ := ht rfl
      refine Ev.succ'' ?_
      simp only [laws_FnSemverTermFewer.j1]
      refine Ev.congr (fun k => if_neg (by decide)) ?_
      have hw : wrap64 (a1 - 1) = a1 - 1 := IntWalk.wrap64_in _ ⟨by omega, by omega⟩
      rw [hw]
      refine Ev.bind (ev_stHolds a2 a1 x0.f0 x0.f1 x0.f2 x3.f0 x3.f1 x3.f2 h0 h8 (by omega) (by omega)) ?_
      refine Ev.bind (ev_stHolds a2 (a1 - 1) x0.f0 x0.f1 x0.f2 x3.f0 x3.f1 x3.f2 h0 h8 (by omega) (by omega)) ?_
      have m1 := ev_stHolds 5 a1 x0.f0 x0.f1 x0.f2 x0.f0 x0.f1 x0.f2 (by omega) (by omega) (by omega) (by omega)
      have m2 := ev_stHolds 5 (a1 - 1) x0.f0 x0.f1 x0.f2 x0.f0 x0.f1 x0.f2 (by omega) (by omega) (by omega) (by omega)
      rw [most_self _ _ _ _ (by omega)] at m1 m2
      have tailE : Ev (fun k => (laws_stHolds.f k 5 x0.f0 x0.f1 x0.f2 ⟨#[]⟩ ⟨#[]⟩ a1 x0.f0 x0.f1 x0.f2 ⟨#[]⟩ ⟨#[]⟩).bind fun t397 => (if t397 = true then ((laws_stHolds.f k 5 x0.f0 x0.f1 x0.f2 ⟨#[]⟩ ⟨#[]⟩ (a1 - 1) x0.f0 x0.f1 x0.f2 ⟨#[]⟩ ⟨#[]⟩).bind fun t398 => (some t398)) else (some false))) true := by
        refine Ev.bind m1 ?_
        refine Ev.congr (fun k => if_pos rfl) ?_
        exact Ev.bind m2 (Ev.now _)
      have j2 : ∀ x : Bool, (x = true → relB a2 (a1 - 1) x0.f0 x0.f1 x0.f2 x3.f0 x3.f1 x3.f2 = true → relB a2 a1 x0.f0 x0.f1 x0.f2 x3.f0 x3.f1 x3.f2 = true) → (x = false → relB a2 a1 x0.f0 x0.f1 x0.f2 x3.f0 x3.f1 x3.f2 = true → relB a2 (a1 - 1) x0.f0 x0.f1 x0.f2 x3.f0 x3.f1 x3.f2 = true) →
          Ev (fun k => laws_FnSemverTermFewer.j2 k a1 (relB a2 a1 x0.f0 x0.f1 x0.f2 x3.f0 x3.f1 x3.f2) (relB a2 (a1 - 1) x0.f0 x0.f1 x0.f2 x3.f0 x3.f1 x3.f2) x x0.f0 x0.f1 x0.f2 ⟨#[]⟩ ⟨#[]⟩) true := by
        intro x hx1 hx2
        refine Ev.succ'' ?_
        simp only [laws_FnSemverTermFewer.j2]
        rw [hw]
        refine Ev.ite'' (fun h => ?_) (fun h => ?_)
        · refine Ev.ite'' (fun h3 => ?_) (fun _ => tailE)
          exact Ev.ite'' (fun _ => tailE) (fun h4 => absurd (hx1 h h3) h4)
        · have h' : x = false := by simpa using h
          refine Ev.ite'' (fun h3 => ?_) (fun _ => tailE)
          exact Ev.ite'' (fun _ => tailE) (fun h4 => absurd (hx2 h' h3) h4)
      have fm := fun h => fewer_more a2 a1 x0.f0 x0.f1 x0.f2 x3.f0 x3.f1 x3.f2 h hk p0 b0 c0 d0 e0 g0
      have mf := fun h => more_fewer a2 a1 x0.f0 x0.f1 x0.f2 x3.f0 x3.f1 x3.f2 h hk hz p0 b0 c0 d0 e0 g0
      refine Ev.ite'' (fun h => j2 _ (fun _ => fm (by omega)) (fun h1 => by rw [h] at h1; simp at h1)) (fun h => ?_)
      refine Ev.ite'' (fun h => j2 _ (fun _ => fm (by omega)) (fun h1 => by rw [h] at h1; simp at h1)) (fun h' => ?_)
      exact j2 _ (fun h1 => fm (by simp at h1; omega)) (fun h1 => mf (by simp at h1; omega))
  have h : Ev (fun k => laws_FnSemverTermFewer.f k x0.f0 x0.f1 x0.f2 x0.f3 x0.f4 a1 a2 x3.f0 x3.f1 x3.f2 x3.f3 x3.f4) true := by
    have skip0 : Ev (fun k => laws_FnSemverTermFewer.j0 k a1 a2 true x0.f0 x0.f1 x0.f2 x0.f3 x0.f4 x3.f0 x3.f1 x3.f2 x3.f3 x3.f4) true := by
      refine Ev.succ'' ?_
      simp only [laws_FnSemverTermFewer.j0]
      exact Ev.congr (fun k => if_pos (by first | rfl | trivial)) (Ev.now _)
    unfold laws_FnSemverTermFewer.f
    rw [fits_eq, fits_eq]
    simp only [Option.bind_some]
    refine Ev.ite'' (fun _ => ?_) (fun _ => skip0)
    cases (decide (x3.f3.size ≤ 2147483647 ∧ x3.f4.size ≤ 2147483647)) with
    | false => exact skip0
    | true =>
      refine Ev.succ'' ?_
      simp only [laws_FnSemverTermFewer.j0, laws_stBare.f, spec_Bare.f, laws_stZero.f, spec_CompareNumbers.f, Option.bind_some]
      refine Ev.congr (fun k => if_neg (by decide)) ?_
      by_cases hk1 : a1 ≥ 1
      · rw [if_pos hk1]
        simp only [Option.bind_some]
        refine Ev.ite'' (fun hk3 => ?_) (fun _ => skip1 _ _ _ _ _ _ _ _ _ _)
        have hk3' : a1 ≤ 3 := by simpa using hk3
        refine Ev.ite'' (fun _ => skip1 _ _ _ _ _ _ _ _ _ _) (fun h2 => ?_)
        refine Ev.ite'' (fun _ => skip1 _ _ _ _ _ _ _ _ _ _) (fun h3 => ?_)
        refine Ev.ite'' (fun _ => skip1 _ _ _ _ _ _ _ _ _ _) (fun h4 => ?_)
        refine Ev.ite'' (fun h5 => ?_) (fun h5 => ?_)
        · exact main _ (fun hf => ⟨by omega, by omega, fun _ hz => by rw [hz.1, hz.2.1, hz.2.2] at hf; simp [cnF, segF_self] at hf⟩)
        · exact main _ (fun _ => ⟨by omega, by omega, fun h6 => absurd h6 h5⟩)
      · rw [if_neg hk1]
        simp only [Option.bind_some]
        refine Ev.ite'' (fun hk3 => by cases hk3) (fun _ => skip1 _ _ _ _ _ _ _ _ _ _)
  exact h.rounds

end Go.Proofs.YtlooelfkkbgmhaaDoor.Pure
