/-
  laws.FnSemverTermsOpposite returns true: what its calls answer, and that a list and the lists of its opposites part every release.
-/
import Derived.Test.YtlooelfkkbgmhaaDoorQSO
import Derived.Test.YtlooelfkkbgmhaaDoorOpp
import Derived.Test.YtlooelfkkbgmhaaDoorEvs
set_option linter.unusedVariables false
set_option linter.unusedSimpArgs false
namespace Go.Proofs.YtlooelfkkbgmhaaDoor.fnSemverTermsOpposite
open Go.RowKit Go.Proofs.YtlooelfkkbgmhaaDoorW.PrintWords Go.Proofs.YtlooelfkkbgmhaaDoor.QS
def wf36 (x : S36) : Prop := ((Lit.int .i64 x.f0).wf = true) ∧ ((Lit.int .i64 x.f1).wf = true) ∧ ((Lit.int .u64 x.f2).wf = true) ∧ ((Lit.int .u64 x.f3).wf = true) ∧ ((Lit.int .u64 x.f4).wf = true) ∧ (x.f5.size ≤ maxLen)
def wf24 (x : S24) : Prop := ((Lit.int .u64 x.f0).wf = true) ∧ ((Lit.int .u64 x.f1).wf = true) ∧ ((Lit.int .u64 x.f2).wf = true) ∧ (x.f3.size ≤ maxLen) ∧ (x.f4.size ≤ maxLen)
end Go.Proofs.YtlooelfkkbgmhaaDoor.fnSemverTermsOpposite
namespace Go.Proofs.YtlooelfkkbgmhaaDoor.Pure
open Go Txt Go.RowKit Go.Proofs.YtlooelfkkbgmhaaDoor.QS Go.Proofs.YtlooelfkkbgmhaaDoorW.PrintWords Go.Proofs.YtlooelfkkbgmhaaDoorW.PrintLast Go.Proofs.YtlooelfkkbgmhaaDoor.fnSemverTermsOpposite

theorem sj_eq (op : Int) : laws_sjOpposite.f op = some (oppI op) := by
  unfold laws_sjOpposite.f oppI
  repeat' split
  all_goals first | rfl | omega

theorem any_opp (a b c : Int) (na : 0 ≤ a) (nb : 0 ≤ b) (nc : 0 ≤ c) : ∀ L : List S36, (∀ t ∈ L, GT t) → (∀ t ∈ L, hasOpp t) → (L.map fun t => [oppT t]).any (fun ts => ts.all (tv a b c)) = !(L.all (tv a b c))
  | [], _, _ => rfl
  | t :: L, h, ho => by
    rw [List.map_cons, List.any_cons, any_opp a b c na nb nc L (fun t ht => h t (by simp [ht])) (fun t ht => ho t (by simp [ht]))]
    simp only [List.all_cons, List.all_nil, Bool.and_true, Bool.not_and, tv_opp a b c t (h t (by simp)) (ho t (by simp)) na nb nc]

theorem to_loop (L : List S36) (hn : L.length ≤ 2147483647) (hL : ∀ t ∈ L, GT t ∧ t.f5.size ≤ 2147483647) (a b c : Int) (m : ByteArray) (na : 0 ≤ a) (nb : 0 ≤ b) (nc : 0 ≤ c) (d : Nat) : ∀ j : Nat, j + d = L.length → (∀ t ∈ L.take j, hasOpp t) →
    Ev (fun k => laws_FnSemverTermsOpposite.l0 k L ((L.take j).map fun t => [oppT t]) L (L.length : Int) (j : Int) a b c ⟨#[]⟩ m) true := by
  induction d with
  | zero =>
    intro j hj ho
    have hj' : j = L.length := by omega
    subst hj'
    rw [List.take_length] at ho ⊢
    refine Ev.succ' ?_
    simp only [laws_FnSemverTermsOpposite.l0]
    refine Ev.congr (fun k => if_neg (by omega)) ?_
    have e1 := ev_cons a b c m false [L] (by simp) (by intro ts hts; rw [List.mem_singleton.1 hts]; exact ⟨hn, fun t ht => ⟨gt_ok (hL t ht).1, (hL t ht).2⟩⟩)
    have e2 := ev_cons a b c m false (L.map fun t => [oppT t]) (by simpa using hn) (by
      intro ts hts
      obtain ⟨t, ht, rfl⟩ := List.mem_map.1 hts
      exact ⟨by simp, fun u hu => by rw [List.mem_singleton.1 hu]; exact ⟨opp_ok (gt_ok (hL t ht).1), (hL t ht).2⟩⟩)
    refine Ev.bind e1 (Ev.bind e2 ?_)
    refine Ev.val (Ev.now _) ?_
    have h := any_opp a b c na nb nc L (fun t ht => (hL t ht).1) ho
    rw [h]
    simp
  | succ d ih =>
    intro j hj ho
    have hlt : j < L.length := by omega
    have hw : wrap64 ((j : Int) + 1) = ((j + 1 : Nat) : Int) := wr_succ j L.length hlt (by omega)
    have hs : (L.take (j + 1)) = L.take j ++ [L[j]] := List.take_succ_eq_append_getElem hlt
    by_cases h1 : L[j].f1 = 0
    · refine Ev.step (f := fun k => some true) (fun k => ?_) (Ev.now _)
      simp only [laws_FnSemverTermsOpposite.l0]
      rw [if_pos (by omega), if_pos (by omega), if_pos (by omega), rd36 L j hlt, if_pos h1]
    · by_cases h2 : L[j].f0 = 6
      · refine Ev.step (f := fun k => some true) (fun k => ?_) (Ev.now _)
        simp only [laws_FnSemverTermsOpposite.l0]
        rw [if_pos (by omega), if_pos (by omega), if_pos (by omega), rd36 L j hlt, if_neg h1, if_pos h2]
      · by_cases h3 : L[j].f0 = 7
        · refine Ev.step (f := fun k => some true) (fun k => ?_) (Ev.now _)
          simp only [laws_FnSemverTermsOpposite.l0]
          rw [if_pos (by omega), if_pos (by omega), if_pos (by omega), rd36 L j hlt, if_neg h1, if_neg h2, if_pos h3]
        · have hnext := ih (j + 1) (by omega) (by rw [hs]; intro t ht; rcases List.mem_append.1 ht with ht | ht; exact ho t ht; rw [List.mem_singleton.1 ht]; exact ⟨h1, h2, h3⟩)
          rw [hs, List.map_append] at hnext
          refine Ev.step (k := hnext) (fun k => ?_)
          simp only [laws_FnSemverTermsOpposite.l0]
          rw [if_pos (by omega), if_pos (by omega), if_pos (by omega), rd36 L j hlt, if_neg h1, if_neg h2, if_neg h3, sj_eq, hw]
          simp only [Option.bind_some]
          rw [if_pos (by rw [List.length_map, List.length_take]; omega)]
          rfl

theorem FnSemverTermsOpposite (l0 : List (S36)) (x1 : S24) (w0 : l0.length ≤ maxLen ∧ ∀ y0 ∈ l0, wf36 y0) (w1 : wf24 x1) : ∃ k, laws_FnSemverTermsOpposite.f k l0 x1.f0 x1.f1 x1.f2 x1.f3 x1.f4 = some true := by
  refine Ev.rounds ?_
  unfold laws_FnSemverTermsOpposite.f
  have na := (wf_u64 w1.1).1
  have nb := (wf_u64 w1.2.1).1
  have nc := (wf_u64 w1.2.2.1).1
  have j0t : ∀ (s : ByteArray), Ev (fun k => laws_FnSemverTermsOpposite.j0 k l0 true x1.f0 x1.f1 x1.f2 s x1.f4) true := fun s => by
    refine Ev.succ' ?_
    simp only [laws_FnSemverTermsOpposite.j0]
    exact Ev.congr (fun k => if_pos trivial) (Ev.now _)
  have j1t : ∀ (s : ByteArray), Ev (fun k => laws_FnSemverTermsOpposite.j1 k l0 true x1.f0 x1.f1 x1.f2 s x1.f4) true := fun s => by
    refine Ev.succ' ?_
    simp only [laws_FnSemverTermsOpposite.j1]
    exact Ev.congr (fun k => if_pos trivial) (Ev.now _)
  refine Ev.bind (ev_fits12 l0) ?_
  refine Ev.ite' (fun h => ?_) (fun _ => j0t _)
  simp only [Bool.and_eq_true, decide_eq_true_eq, List.all_eq_true, fitsT] at h
  refine Ev.bind (Ev.congr (fun k => fits_eq _ _ _ _ _) (Ev.now _)) ?_
  by_cases hf : x1.f3.size ≤ 2147483647 ∧ x1.f4.size ≤ 2147483647
  · rw [decide_eq_true hf]
    refine Ev.succ' ?_
    simp only [laws_FnSemverTermsOpposite.j0]
    refine Ev.congr (fun k => if_neg (by simp)) ?_
    obtain ⟨g, hg, hp⟩ := ev_scList l0 h.1 h.2
    refine Ev.bind hg ?_
    refine Ev.ite' (fun hgt => ?_) (fun _ => j1t _)
    refine Ev.bind (ev_good1 ⟨x1.f0, x1.f1, x1.f2, ⟨#[]⟩, x1.f4⟩ ⟨by show (⟨#[]⟩ : ByteArray).size ≤ _; decide, hf.2⟩) ?_
    cases goodB ⟨x1.f0, x1.f1, x1.f2, ⟨#[]⟩, x1.f4⟩ with
    | false => exact j1t _
    | true =>
      refine Ev.succ' ?_
      simp only [laws_FnSemverTermsOpposite.j1]
      refine Ev.congr (fun k => if_neg (by simp)) ?_
      exact to_loop l0 h.1 (fun t ht => ⟨(hp hgt).2 t ht, h.2 t ht⟩) x1.f0 x1.f1 x1.f2 x1.f4 na nb nc l0.length 0 (by omega) (by simp)
  · rw [decide_eq_false hf]
    exact j0t _
end Go.Proofs.YtlooelfkkbgmhaaDoor.Pure
