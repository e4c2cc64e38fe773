/-
  laws.FnSemverTermCompares: what its calls answer, and that it returns true.
-/
import Derived.Test.YtlooelfkkbgmhaaDoorTcW
import Derived.Test.YtlooelfkkbgmhaaDoorVer
set_option linter.unusedVariables false
set_option linter.unusedSimpArgs false
namespace Go.Proofs.YtlooelfkkbgmhaaDoor.fnSemverTermCompares
open Go.RowKit Go.Proofs.YtlooelfkkbgmhaaDoorW.PrintWords Go.Proofs.YtlooelfkkbgmhaaDoor.QS
def wf24 (x : S24) : Prop := ((Lit.int .u64 x.f0).wf = true) ∧ ((Lit.int .u64 x.f1).wf = true) ∧ ((Lit.int .u64 x.f2).wf = true) ∧ (x.f3.size ≤ maxLen) ∧ (x.f4.size ≤ maxLen)
end Go.Proofs.YtlooelfkkbgmhaaDoor.fnSemverTermCompares
namespace Go.Proofs.YtlooelfkkbgmhaaDoor.Pure
open Go Txt Go.RowKit Go.Proofs.YtlooelfkkbgmhaaDoor.QS Go.Proofs.YtlooelfkkbgmhaaDoorW.PrintWords Go.Proofs.YtlooelfkkbgmhaaDoorW.PrintLast Go.Proofs.YtlooelfkkbgmhaaDoor.fnSemverTermCompares

theorem partF_three (a b : List UInt8) : partF a b = -1 ∨ partF a b = 0 ∨ partF a b = 1 := by
  unfold partF
  repeat' split
  all_goals simp
theorem preS_three : ∀ L M : List (List UInt8), preS L M = -1 ∨ preS L M = 0 ∨ preS L M = 1
  | [], [] => by unfold preS; exact Or.inr (Or.inl rfl)
  | [], b :: y => by
    unfold preS
    have h1 := partF_three [] b
    have h2 := preS_three [] y
    split <;> assumption
  | a :: x, [] => by
    unfold preS
    have h1 := partF_three a []
    have h2 := preS_three x []
    split <;> assumption
  | a :: x, b :: y => by
    unfold preS
    have h1 := partF_three a b
    have h2 := preS_three x y
    split <;> assumption
theorem cmp_three (a b c a' b' c' : Int) (s s' : ByteArray) (r : Int) (h : r = -1 ∨ r = 0 ∨ r = 1) : cmpF a b c a' b' c' s s' r = -1 ∨ cmpF a b c a' b' c' s s' r = 0 ∨ cmpF a b c a' b' c' s s' r = 1 := by
  unfold cmpF segF
  repeat' split
  all_goals first | omega | simp_all
theorem st_says (n : Nat) (op : Int) (h0 : 0 ≤ op) (h8 : op < 8) (a b c a' b' c' : Int) (s m s' m' : ByteArray) (r : Int) (hn : semver_comparePrerelease.f n s s' = some r) :
    laws_stHolds.f n op a' b' c' s' m' 3 a b c s m = some (opB op (cmpF a b c a' b' c' s s' r) a b c a' b' c' r s s' false false false) := by
  unfold laws_stHolds.f laws_stTerm.f impl_TermHolds.f
  simp only [Option.bind_some]
  rw [if_pos ⟨by omega, by omega, h0, h8⟩]
  simp [hn, gate]

theorem FnSemverTermCompares (x0 : S24) (x1 : S24) (w0 : wf24 x0) (w1 : wf24 x1) (w : World) (hG : GlobE w) :
    Calls Tryd.prog 13 #[.agg #[.int .u64 x0.f0, .int .u64 x0.f1, .int .u64 x0.f2, .string x0.f3, .string x0.f4], .agg #[.int .u64 x1.f0, .int .u64 x1.f1, .int .u64 x1.f2, .string x1.f3, .string x1.f4]] w fun e w' => e = .returned (.bool true) ∧ Below w.heap.size w w' := by
  obtain ⟨a, b, c, s, m⟩ := x0
  obtain ⟨a', b', c', s', m'⟩ := x1
  have f1 := fits_eq a b c s m
  have f2 := fits_eq a' b' c' s' m'
  by_cases g1 : s.size ≤ 2147483647 ∧ m.size ≤ 2147483647
  case neg => rw [decide_eq_false g1] at f1; exact tc_1 0 a b c a' b' c' s m s' m' w hG f1
  rw [decide_eq_true g1] at f1
  by_cases g2 : s'.size ≤ 2147483647 ∧ m'.size ≤ 2147483647
  case neg => rw [decide_eq_false g2] at f2; exact tc_2 0 a b c a' b' c' s m s' m' w hG f1 f2
  rw [decide_eq_true g2] at f2
  obtain ⟨K1, e1⟩ := ev_svGood [(⟨a, b, c, s, m⟩ : S24), (⟨a', b', c', s', m'⟩ : S24)] (by intro x hx; rcases List.mem_cons.1 hx with rfl | hx; exact g1; rcases List.mem_cons.1 hx with rfl | hx; exact g2; cases hx) (by simp)
  obtain ⟨K2, e2⟩ := ev_cmpPre s s' g1.1 g2.1
  have h3 := e1 (max K1 K2) (by omega)
  have hn := e2 (max K1 K2) (by omega)
  generalize max K1 K2 = n at h3 hn
  cases hb : ([(⟨a, b, c, s, m⟩ : S24), (⟨a', b', c', s', m'⟩ : S24)].all goodB) with
  | false => rw [hb] at h3; exact tc_3 n a b c a' b' c' s m s' m' w hG f1 f2 _ rfl h3
  | true =>
  rw [hb] at h3
  have q := fun op h0 h8 => st_says n op h0 h8 a b c a' b' c' s m s' m' _ hn
  have q0 := q 0 (by omega) (by omega)
  have q1 := q 1 (by omega) (by omega)
  have q2 := q 2 (by omega) (by omega)
  have q3 := q 3 (by omega) (by omega)
  have q4 := q 4 (by omega) (by omega)
  have q5 := q 5 (by omega) (by omega)
  have v0 : impl_VersionEqual.f n a b c s m a' b' c' s' m' = some (cmpF a b c a' b' c' s s' (preS (split s.toList) (split s'.toList)) == 0) := by unfold impl_VersionEqual.f; rw [show semver_comparePrerelease.f n s s' = some _ from hn, Option.bind_some]
  have v1 : impl_VersionGreater.f n a b c s m a' b' c' s' m' = some (decide (cmpF a b c a' b' c' s s' (preS (split s.toList) (split s'.toList)) > 0)) := by unfold impl_VersionGreater.f; rw [show semver_comparePrerelease.f n s s' = some _ from hn, Option.bind_some]
  have v2 : impl_VersionLess.f n a b c s m a' b' c' s' m' = some (decide (cmpF a b c a' b' c' s s' (preS (split s.toList) (split s'.toList)) < 0)) := by unfold impl_VersionLess.f; rw [show semver_comparePrerelease.f n s s' = some _ from hn, Option.bind_some]
  have v3 : impl_VersionGreaterEqual.f n a b c s m a' b' c' s' m' = some (decide (cmpF a b c a' b' c' s s' (preS (split s.toList) (split s'.toList)) ≥ 0)) := by unfold impl_VersionGreaterEqual.f; rw [show semver_comparePrerelease.f n s s' = some _ from hn, Option.bind_some]
  have v4 : impl_VersionLessEqual.f n a b c s m a' b' c' s' m' = some (decide (cmpF a b c a' b' c' s s' (preS (split s.toList) (split s'.toList)) ≤ 0)) := by unfold impl_VersionLessEqual.f; rw [show semver_comparePrerelease.f n s s' = some _ from hn, Option.bind_some]
  have h := cmp_three a b c a' b' c' s s' _ (preS_three (split s.toList) (split s'.toList))
  generalize cmpF a b c a' b' c' s s' (preS (split s.toList) (split s'.toList)) = cm at q0 q1 q2 q3 q4 q5 v0 v1 v2 v3 v4 h
  simp [opB, teB, neB, gtB, ltB, geB, leB] at q0 q1 q2 q3 q4 q5 v0 v1 v2 v3 v4
  rcases h with rfl | rfl | rfl
  · simp at q0 q1 q2 q3 q4 q5 v0 v1 v2 v3 v4
    exact tc_4 n a b c a' b' c' s m s' m' w hG f1 f2 _ rfl h3 q0 v0 q1 v0 q2 v1 q3 v2 q4 v3 q5 v4
  · simp at q0 q1 q2 q3 q4 q5 v0 v1 v2 v3 v4
    exact tc_5 n a b c a' b' c' s m s' m' w hG f1 f2 _ rfl h3 q0 v0 q1 v0 q2 v1 q3 v2 q4 v3 q5 v4
  · simp at q0 q1 q2 q3 q4 q5 v0 v1 v2 v3 v4
    exact tc_6 n a b c a' b' c' s m s' m' w hG f1 f2 _ rfl h3 q0 v0 q1 v0 q2 v1 q3 v2 q4 v3 q5 v4
end Go.Proofs.YtlooelfkkbgmhaaDoor.Pure
