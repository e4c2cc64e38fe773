import Derived.Test.YtlooelfkkbgmhaaDoorQSx8
import Derived.Test.YtlooelfkkbgmhaaDoorTxtEv
set_option linter.unusedVariables false
namespace Go.Proofs.YtlooelfkkbgmhaaDoor.fnSemverPart
open Go.RowKit Go.Proofs.YtlooelfkkbgmhaaDoorW.PrintWords Go.Proofs.YtlooelfkkbgmhaaDoor.QS

end Go.Proofs.YtlooelfkkbgmhaaDoor.fnSemverPart
namespace Go.Proofs.YtlooelfkkbgmhaaDoor.Pure
open Go.RowKit Go.Proofs.YtlooelfkkbgmhaaDoor.QS Go.Proofs.YtlooelfkkbgmhaaDoorW.PrintWords Go.Proofs.YtlooelfkkbgmhaaDoorW.PrintLast Go.Proofs.YtlooelfkkbgmhaaDoor.fnSemverPart

theorem FnSemverPart (a0 : ByteArray) (a1 : ByteArray) (w0 : a0.size ≤ maxLen) (w1 : a1.size ≤ maxLen) : ∃ k, laws_FnSemverPart.f k a0 a1 = some true := by
  have key : ∀ t : Bool, (t = false → a0.size ≤ 2147483647 ∧ a1.size ≤ 2147483647) → Ev (fun k => laws_FnSemverPart.j0 k a0 a1 t) true := by
    intro t ht
    cases t with
    | true =>
      refine Ev.step (f := fun _ => some true) (fun k => ?_) (Ev.now _)
      simp only [laws_FnSemverPart.j0]
      rw [if_pos trivial]
    | false =>
      obtain ⟨h0, h1⟩ := ht rfl
      refine Ev.step (f := fun k => ((laws_svIdent.f k a0).bind fun t135 => (if t135 = true then ((laws_svIdent.f k a1).bind fun t136 => (if t136 = true then ((impl_ComparePart.f a0 a1).bind fun t137 => ((spec_ComparePart.f k a0 a1).bind fun t138 => (some (t137 == t138)))) else (some true))) else (some true)))) (fun k => ?_) ?_
      · simp only [laws_FnSemverPart.j0]
        rw [if_neg (by decide)]
      refine Ev.bind (ev_svIdent a0 h0) ?_
      cases g0 : svIdB a0 with
      | false => exact Ev.now _
      | true =>
        refine Ev.bind (ev_svIdent a1 h1) ?_
        cases g1 : svIdB a1 with
        | false => exact Ev.now _
        | true =>
          refine Ev.congr (f := fun k => (spec_ComparePart.f k a0 a1).bind fun t138 => some (Txt.partS a0.toList a1.toList == t138)) (fun k => ?_) ?_
          · rw [implPart_eq a0 a1 (by omega) (by omega) (sv_good g0).2 (sv_good g1).2, Option.bind_some]
            rfl
          · refine Ev.bind (ev_specPart a0 a1 (by omega) (by omega)) ?_
            rw [beq_self_eq_true]
            exact Ev.now _
  have h : Ev (fun k => laws_FnSemverPart.f k a0 a1) true := by
    by_cases h0 : (a0.size : Int) > 2147483647
    · refine Ev.congr (fun k => ?_) (key true (fun h => by cases h))
      unfold laws_FnSemverPart.f
      rw [if_pos h0]
    · refine Ev.congr (fun k => ?_) (key (decide ((a1.size : Int) > 2147483647)) (fun h => ⟨by omega, by have := of_decide_eq_false h; omega⟩))
      unfold laws_FnSemverPart.f
      rw [if_neg h0]
  exact h.rounds

end Go.Proofs.YtlooelfkkbgmhaaDoor.Pure
