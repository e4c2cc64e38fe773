import Derived.Test.YtlooelfkkbgmhaaDoorQlawsFnSemverMostHolds
import Derived.Test.YtlooelfkkbgmhaaDoorTermSpec
set_option linter.unusedVariables false
set_option linter.unusedSimpArgs false
namespace Go.Proofs.YtlooelfkkbgmhaaDoor.fnSemverMostHolds
open Go.RowKit Go.Proofs.YtlooelfkkbgmhaaDoorW.PrintWords Go.Proofs.YtlooelfkkbgmhaaDoor.QS
def wf36 (x : S36) : Prop := ((Lit.int .i64 x.f0).wf = true) ∧ ((Lit.int .i64 x.f1).wf = true) ∧ ((Lit.int .u64 x.f2).wf = true) ∧ ((Lit.int .u64 x.f3).wf = true) ∧ ((Lit.int .u64 x.f4).wf = true) ∧ (x.f5.size ≤ maxLen)
def wf24 (x : S24) : Prop := ((Lit.int .u64 x.f0).wf = true) ∧ ((Lit.int .u64 x.f1).wf = true) ∧ ((Lit.int .u64 x.f2).wf = true) ∧ (x.f3.size ≤ maxLen) ∧ (x.f4.size ≤ maxLen)
end Go.Proofs.YtlooelfkkbgmhaaDoor.fnSemverMostHolds
namespace Go.Proofs.YtlooelfkkbgmhaaDoor.Pure
open Go Txt Go.RowKit Go.Proofs.YtlooelfkkbgmhaaDoor.QS Go.Proofs.YtlooelfkkbgmhaaDoorW.PrintWords Go.Proofs.YtlooelfkkbgmhaaDoorW.PrintLast Go.Proofs.YtlooelfkkbgmhaaDoor.fnSemverMostHolds

/-- what <= ahead of a term's numbers says, by the reference -/
theorem ev_most (gv a' b' c' : Int) (s' : ByteArray) (a b c : Int) (s m : ByteArray) (hs : s.size ≤ 2147483647) (hs' : s'.size ≤ 2147483647) :
    Ev (fun k => spec_Compares.f k 5 gv a' b' c' s' a b c s m) (decide ((if gv = 3 then specC a b c a' b' c' s s' else cnF a b c a' b' c' gv) ≤ 0)) := by
  have hj : ∀ x y1 y2 y3 y4 y5, Ev (fun k => spec_Compares.j0 k x 5 gv a' b' c' s' a b c s m y1 y2 y3 y4 y5) (decide (x ≤ 0)) := by
    intro x y1 y2 y3 y4 y5
    refine Ev.succ' ?_
    simp only [spec_Compares.j0]
    exact Ev.congr (fun k => by rw [if_neg (by decide), if_neg (by decide), if_neg (by decide), if_neg (by decide), if_neg (by decide), if_pos (by first | rfl | trivial)]) (Ev.now _)
  unfold spec_Compares.f spec_Least.f spec_CompareNumbers.f
  simp only [Option.bind_some]
  refine Ev.ite' (fun h => ?_) (fun h => ?_)
  · rw [if_pos h]
    exact Ev.bind (ev_specC a b c a' b' c' s m s' (⟨#[]⟩ : ByteArray) hs hs') (hj _ _ _ _ _ _)
  · rw [if_neg h]
    exact hj _ _ _ _ _ _

theorem ev_spoken (op gv a' b' c' : Int) (s' : ByteArray) (a b c : Int) (s m : ByteArray) : ∃ r, Ev (fun k => spec_Spoken.f k op gv a' b' c' s' a b c s m) r := by
  have hj : ∀ y1 y2 y3 y4 y5, ∃ r, Ev (fun k => spec_Spoken.j0 k op gv a' b' c' s' a b c s m y1 y2 y3 y4 y5) r := by
    intro y1 y2 y3 y4 y5
    by_cases h1 : gv = 3
    · exact ⟨true, Ev.succ' (by simp only [spec_Spoken.j0]; exact Ev.congr (fun k => if_pos h1) (Ev.now _))⟩
    · by_cases h2 : op = 5
      · exact ⟨_, Ev.succ' (by simp only [spec_Spoken.j0, spec_CompareNumbers.f, Option.bind_some]; exact Ev.congr (fun k => by rw [if_neg h1, if_pos h2]) (Ev.now _))⟩
      · by_cases h3 : op = 1
        · exact ⟨_, Ev.succ' (by simp only [spec_Spoken.j0]; exact Ev.congr (fun k => by rw [if_neg h1, if_neg h2, if_pos h3]) (Ev.now _))⟩
        · exact ⟨_, Ev.succ' (by simp only [spec_Spoken.j0]; exact Ev.congr (fun k => by rw [if_neg h1, if_neg h2, if_neg h3]) (Ev.now _))⟩
  unfold spec_Spoken.f
  by_cases h : gv = 2
  · obtain ⟨r, hr⟩ := hj a' (IntKind.u64.wrap (b' + 1)) 0 ⟨#[]⟩ ⟨#[]⟩
    exact ⟨r, Ev.congr (fun k => if_pos h) hr⟩
  · obtain ⟨r, hr⟩ := hj (IntKind.u64.wrap (a' + 1)) 0 0 ⟨#[]⟩ ⟨#[]⟩
    exact ⟨r, Ev.congr (fun k => if_neg h) hr⟩

theorem most_eq (gv a' b' c' : Int) (s' : ByteArray) (a b c : Int) (s : ByteArray) (hg : GoodT 5 gv a' b' c' s'.toList) (hs : preOk s.toList = true) :
    leB (implC a b c a' b' c' s s') a b a' b' (gv == 1) (decide (gv < 3)) = decide ((if gv = 3 then specC a b c a' b' c' s s' else cnF a b c a' b' c' gv) ≤ 0) := by
  obtain ⟨h1, ⟨_, _, h0, h3⟩, _, hp⟩ := hg
  have hgv : gv = 1 ∨ gv = 2 ∨ gv = 3 := by omega
  rcases hgv with rfl | rfl | rfl
  · simp only [leB, cnF, segF]; grind
  · simp only [leB, cnF, segF]; grind
  · rw [implC_eq a b c a' b' c' s s' hs hp]; simp [leB]

theorem FnSemverMostHolds (x0 : S36) (x1 : S24) (a2 : Bool) (w0 : wf36 x0) (w1 : wf24 x1) : ∃ k, laws_FnSemverMostHolds.f k x0.f0 x0.f1 x0.f2 x0.f3 x0.f4 x0.f5 x1.f0 x1.f1 x1.f2 x1.f3 x1.f4 a2 = some true := by
  have skip : Ev (fun k => laws_FnSemverMostHolds.j0 k a2 true x0.f0 x0.f1 x0.f2 x0.f3 x0.f4 x0.f5 x1.f0 x1.f1 x1.f2 x1.f3 x1.f4) true := by
    refine Ev.succ' ?_
    simp only [laws_FnSemverMostHolds.j0]
    exact Ev.congr (fun k => if_pos (by first | rfl | trivial)) (Ev.now _)
  have h : Ev (fun k => laws_FnSemverMostHolds.f k x0.f0 x0.f1 x0.f2 x0.f3 x0.f4 x0.f5 x1.f0 x1.f1 x1.f2 x1.f3 x1.f4 a2) true := by
    unfold laws_FnSemverMostHolds.f laws_zzFits13.f
    by_cases hf : (x0.f5.size : Int) > 2147483647
    · exact Ev.congr (fun k => by rw [if_pos hf]; rfl) skip
    · rw [if_neg hf, fits_eq]
      simp only [Option.bind_some]
      refine Ev.congr (fun k => if_pos (by first | rfl | trivial)) ?_
      by_cases h1 : x1.f3.size ≤ 2147483647 ∧ x1.f4.size ≤ 2147483647
      · rw [decide_eq_true h1]
        have hs' : x0.f5.size ≤ 2147483647 := by omega
        refine Ev.succ' ?_
        simp only [laws_FnSemverMostHolds.j0]
        refine Ev.congr (fun k => if_neg (by decide)) ?_
        obtain ⟨rg, hrg, hgi⟩ := ev_goodTerm 5 x0.f1 x0.f2 x0.f3 x0.f4 x0.f5 hs'
        obtain ⟨rs, hrs⟩ := ev_spoken 5 x0.f1 x0.f2 x0.f3 x0.f4 x0.f5 x1.f0 x1.f1 x1.f2 x1.f3 x1.f4
        have hask : Ev (fun k => laws_snAsked.f k x0.f0 x0.f1 x0.f2 x0.f3 x0.f4 x0.f5 5 x1.f0 x1.f1 x1.f2 x1.f3 x1.f4) (rg && (goodB x1 && rs)) := by
          unfold laws_snAsked.f laws_snAs.f
          simp only [Option.bind_some]
          refine Ev.bind hrg ?_
          refine Ev.ite' (fun h => ?_) (fun h => ?_)
          · rw [h]
            refine Ev.bind (ev_good1 x1 h1) ?_
            refine Ev.ite' (fun h => ?_) (fun h => ?_)
            · rw [h]; exact Ev.val (Ev.some' hrs) (by simp)
            · exact Ev.val (Ev.now _) (by simp [h])
          · exact Ev.val (Ev.now _) (by simp [h])
        refine Ev.bind hask ?_
        refine Ev.ite' (fun h => ?_) (fun _ => Ev.now _)
        simp only [Bool.and_eq_true] at h
        have hT := hgi.1 h.1
        have hpre : preOk x1.f3.toList = true := by
          have := h.2.1
          unfold goodB at this
          simp only [Bool.and_eq_true] at this
          exact this.2.1
        have hmost := ev_most x0.f1 x0.f2 x0.f3 x0.f4 x0.f5 x1.f0 x1.f1 x1.f2 x1.f3 x1.f4 h1.1 hs'
        have himpl : Ev (fun k => impl_MostHolds.f k x0.f0 x0.f1 x0.f2 x0.f3 x0.f4 x0.f5 x1.f0 x1.f1 x1.f2 x1.f3 x1.f4 a2) (!gate x1.f3 a2 && decide ((if x0.f1 = 3 then specC x1.f0 x1.f1 x1.f2 x0.f2 x0.f3 x0.f4 x1.f3 x0.f5 else cnF x1.f0 x1.f1 x1.f2 x0.f2 x0.f3 x0.f4 x0.f1) ≤ 0)) := by
          unfold impl_MostHolds.f
          refine Ev.congr (fun k => if_pos ⟨hT.2.1.2.2.1, hT.2.1.2.2.2⟩) ?_
          rw [← most_eq x0.f1 x0.f2 x0.f3 x0.f4 x0.f5 x1.f0 x1.f1 x1.f2 x1.f3 hT hpre]
          exact Ev.bind (ev_cmpPre x1.f3 x0.f5 h1.1 hs') (Ev.now _)
        have hwant : Ev (fun k => laws_snWant.f k x0.f0 x0.f1 x0.f2 x0.f3 x0.f4 x0.f5 5 x1.f0 x1.f1 x1.f2 x1.f3 x1.f4 a2) (!gate x1.f3 a2 && decide ((if x0.f1 = 3 then specC x1.f0 x1.f1 x1.f2 x0.f2 x0.f3 x0.f4 x1.f3 x0.f5 else cnF x1.f0 x1.f1 x1.f2 x0.f2 x0.f3 x0.f4 x0.f1) ≤ 0)) := by
          unfold laws_snWant.f laws_snAs.f gate
          simp only [Option.bind_some]
          rw [empty_eq]
          refine Ev.ite' (fun h => ?_) (fun h => ?_)
          · exact Ev.val (Ev.some' hmost) (by rw [h]; simp)
          · have ha : a2 = false := by simpa using h
            refine Ev.ite' (fun h => ?_) (fun h => ?_)
            · exact Ev.val (Ev.some' hmost) (by simp [h])
            · exact Ev.val (Ev.now _) (by simp [h, ha])
        refine Ev.bind himpl (Ev.bind hwant ?_)
        exact Ev.val (Ev.now _) (by simp)
      · rw [decide_eq_false h1]
        exact skip
  exact h.rounds

end Go.Proofs.YtlooelfkkbgmhaaDoor.Pure
