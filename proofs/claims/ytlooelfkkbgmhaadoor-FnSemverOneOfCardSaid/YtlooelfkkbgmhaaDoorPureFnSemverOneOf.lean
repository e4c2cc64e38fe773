/-
  laws.FnSemverOneOf: what its calls answer, and that it returns true.
-/
import Derived.Test.YtlooelfkkbgmhaaDoorOneW
import Derived.Test.YtlooelfkkbgmhaaDoorRel
set_option linter.unusedVariables false
set_option linter.unusedSimpArgs false
namespace Go.Proofs.YtlooelfkkbgmhaaDoor.fnSemverOneOf
open Go.RowKit Go.Proofs.YtlooelfkkbgmhaaDoorW.PrintWords Go.Proofs.YtlooelfkkbgmhaaDoor.QS
def wf24 (x : S24) : Prop := ((Lit.int .u64 x.f0).wf = true) ∧ ((Lit.int .u64 x.f1).wf = true) ∧ ((Lit.int .u64 x.f2).wf = true) ∧ (x.f3.size ≤ maxLen) ∧ (x.f4.size ≤ maxLen)
end Go.Proofs.YtlooelfkkbgmhaaDoor.fnSemverOneOf
namespace Go.Proofs.YtlooelfkkbgmhaaDoor.Pure
open Go Txt Go.RowKit Go.Proofs.YtlooelfkkbgmhaaDoor.QS Go.Proofs.YtlooelfkkbgmhaaDoorW.PrintWords Go.Proofs.YtlooelfkkbgmhaaDoorW.PrintLast Go.Proofs.YtlooelfkkbgmhaaDoor.fnSemverOneOf

theorem one_a (k a' b' c' a b c : Int) (hk : k = 1 ∨ k = 2 ∨ k = 3) (ha' : 0 ≤ a') (hb' : 0 ≤ b') (hc' : 0 ≤ c') (ha : 0 ≤ a) (hb : 0 ≤ b) (hc : 0 ≤ c) : relB 1 k a' b' c' a b c = !relB 0 k a' b' c' a b c := by
  rw [rel_1, rel_0]
  rcases hk with rfl | rfl | rfl <;> simp [teB, tiB, neB, gtB, ltB, geB, leB, c3, empty_list] <;> grind
theorem one_b (k a' b' c' a b c : Int) (hk : k = 1 ∨ k = 2 ∨ k = 3) (ha' : 0 ≤ a') (hb' : 0 ≤ b') (hc' : 0 ≤ c') (ha : 0 ≤ a) (hb : 0 ≤ b) (hc : 0 ≤ c) : relB 4 k a' b' c' a b c = !relB 3 k a' b' c' a b c := by
  rw [rel_4, rel_3]
  rcases hk with rfl | rfl | rfl <;> simp [teB, tiB, neB, gtB, ltB, geB, leB, c3, empty_list] <;> grind
theorem one_c (k a' b' c' a b c : Int) (hk : k = 1 ∨ k = 2 ∨ k = 3) (ha' : 0 ≤ a') (hb' : 0 ≤ b') (hc' : 0 ≤ c') (ha : 0 ≤ a) (hb : 0 ≤ b) (hc : 0 ≤ c) : relB 5 k a' b' c' a b c = !relB 2 k a' b' c' a b c := by
  rw [rel_5, rel_2]
  rcases hk with rfl | rfl | rfl <;> simp [teB, tiB, neB, gtB, ltB, geB, leB, c3, empty_list] <;> grind
theorem one_d (k a' b' c' a b c : Int) (hk : k = 1 ∨ k = 2 ∨ k = 3) (ha' : 0 ≤ a') (hb' : 0 ≤ b') (hc' : 0 ≤ c') (ha : 0 ≤ a) (hb : 0 ≤ b) (hc : 0 ≤ c) : relB 3 k a' b' c' a b c = true → relB 0 k a' b' c' a b c = false := by
  rw [rel_3, rel_0]
  rcases hk with rfl | rfl | rfl <;> simp [teB, tiB, neB, gtB, ltB, geB, leB, c3, empty_list] <;> grind
theorem one_e (k a' b' c' a b c : Int) (hk : k = 1 ∨ k = 2 ∨ k = 3) (ha' : 0 ≤ a') (hb' : 0 ≤ b') (hc' : 0 ≤ c') (ha : 0 ≤ a) (hb : 0 ≤ b) (hc : 0 ≤ c) : relB 3 k a' b' c' a b c = true → relB 2 k a' b' c' a b c = false := by
  rw [rel_3, rel_2]
  rcases hk with rfl | rfl | rfl <;> simp [teB, tiB, neB, gtB, ltB, geB, leB, c3, empty_list] <;> grind
theorem one_f (k a' b' c' a b c : Int) (hk : k = 1 ∨ k = 2 ∨ k = 3) (ha' : 0 ≤ a') (hb' : 0 ≤ b') (hc' : 0 ≤ c') (ha : 0 ≤ a) (hb : 0 ≤ b) (hc : 0 ≤ c) : relB 0 k a' b' c' a b c = true → relB 2 k a' b' c' a b c = false := by
  rw [rel_0, rel_2]
  rcases hk with rfl | rfl | rfl <;> simp [teB, tiB, neB, gtB, ltB, geB, leB, c3, empty_list] <;> grind
theorem one_g (k a' b' c' a b c : Int) (hk : k = 1 ∨ k = 2 ∨ k = 3) (ha' : 0 ≤ a') (hb' : 0 ≤ b') (hc' : 0 ≤ c') (ha : 0 ≤ a) (hb : 0 ≤ b) (hc : 0 ≤ c) : relB 3 k a' b' c' a b c = false → relB 0 k a' b' c' a b c = false → relB 2 k a' b' c' a b c = true := by
  rw [rel_3, rel_0, rel_2]
  rcases hk with rfl | rfl | rfl <;> simp [teB, tiB, neB, gtB, ltB, geB, leB, c3, empty_list] <;> grind
theorem one_three (k a' b' c' a b c : Int) (hk : k = 1 ∨ k = 2 ∨ k = 3) (ha' : 0 ≤ a') (hb' : 0 ≤ b') (hc' : 0 ≤ c') (ha : 0 ≤ a) (hb : 0 ≤ b) (hc : 0 ≤ c) :
    (relB 3 k a' b' c' a b c = true ∧ relB 0 k a' b' c' a b c = false ∧ relB 2 k a' b' c' a b c = false ∧ relB 1 k a' b' c' a b c = true ∧ relB 4 k a' b' c' a b c = false ∧ relB 5 k a' b' c' a b c = true) ∨
    (relB 3 k a' b' c' a b c = false ∧ relB 0 k a' b' c' a b c = true ∧ relB 2 k a' b' c' a b c = false ∧ relB 1 k a' b' c' a b c = false ∧ relB 4 k a' b' c' a b c = true ∧ relB 5 k a' b' c' a b c = true) ∨
    (relB 3 k a' b' c' a b c = false ∧ relB 0 k a' b' c' a b c = false ∧ relB 2 k a' b' c' a b c = true ∧ relB 1 k a' b' c' a b c = true ∧ relB 4 k a' b' c' a b c = true ∧ relB 5 k a' b' c' a b c = false) := by
  have A := one_a k a' b' c' a b c hk ha' hb' hc' ha hb hc
  have B := one_b k a' b' c' a b c hk ha' hb' hc' ha hb hc
  have C := one_c k a' b' c' a b c hk ha' hb' hc' ha hb hc
  have D := one_d k a' b' c' a b c hk ha' hb' hc' ha hb hc
  have E := one_e k a' b' c' a b c hk ha' hb' hc' ha hb hc
  have F := one_f k a' b' c' a b c hk ha' hb' hc' ha hb hc
  have G := one_g k a' b' c' a b c hk ha' hb' hc' ha hb hc
  revert A B C D E F G
  cases relB 3 k a' b' c' a b c <;> cases relB 0 k a' b' c' a b c <;> cases relB 2 k a' b' c' a b c <;> simp_all

theorem FnSemverOneOf (x0 : S24) (a1 : Int) (x2 : S24) (w0 : wf24 x0) (w1 : (Lit.int .i64 a1).wf = true) (w2 : wf24 x2) (w : World) (hG : GlobE w) :
    Calls Tryd.prog 10 #[.agg #[.int .u64 x0.f0, .int .u64 x0.f1, .int .u64 x0.f2, .string x0.f3, .string x0.f4], .int .i64 a1, .agg #[.int .u64 x2.f0, .int .u64 x2.f1, .int .u64 x2.f2, .string x2.f3, .string x2.f4]] w fun e w' => e = .returned (.bool true) ∧ Below w.heap.size w w' := by
  have f1 := fits_eq x0.f0 x0.f1 x0.f2 x0.f3 x0.f4
  have f2 := fits_eq x2.f0 x2.f1 x2.f2 x2.f3 x2.f4
  cases g1 : (decide (x0.f3.size ≤ 2147483647 ∧ x0.f4.size ≤ 2147483647)) with
  | false => rw [g1] at f1; exact one_1 0 x0.f0 x0.f1 x0.f2 x2.f0 x2.f1 x2.f2 x0.f3 x0.f4 x2.f3 x2.f4 a1 0 0 0 0 0 0 ⟨#[]⟩ ⟨#[]⟩ ⟨#[]⟩ ⟨#[]⟩ 0 0 0 0 ⟨#[]⟩ w hG f1
  | true =>
  rw [g1] at f1
  cases g2 : (decide (x2.f3.size ≤ 2147483647 ∧ x2.f4.size ≤ 2147483647)) with
  | false => rw [g2] at f2; exact one_2 0 x0.f0 x0.f1 x0.f2 x2.f0 x2.f1 x2.f2 x0.f3 x0.f4 x2.f3 x2.f4 a1 0 0 0 0 0 0 ⟨#[]⟩ ⟨#[]⟩ ⟨#[]⟩ ⟨#[]⟩ 0 0 0 0 ⟨#[]⟩ w hG f1 f2
  | true =>
  rw [g2] at f2
  by_cases hk : 1 ≤ a1 ∧ a1 ≤ 3
  · have f3 : laws_stBare.f x0.f0 x0.f1 x0.f2 x0.f3 x0.f4 x2.f0 x2.f1 x2.f2 x2.f3 x2.f4 a1 = some (x0.f0, x0.f1, x0.f2, ⟨#[]⟩, ⟨#[]⟩, x2.f0, x2.f1, x2.f2, ⟨#[]⟩, ⟨#[]⟩, true) := by
      simp only [laws_stBare.f, spec_Bare.f, Option.bind_some]
      rw [if_pos (show a1 ≥ 1 from hk.1), decide_eq_true hk.2]
    have f4 : laws_stTerm.f 0 x0.f0 x0.f1 x0.f2 ⟨#[]⟩ ⟨#[]⟩ a1 = some (0, a1, x0.f0, if 1 < a1 then x0.f1 else 0, if 2 < a1 then x0.f2 else 0, ⟨#[]⟩) := by
      simp only [laws_stTerm.f, ite_self]
    obtain ⟨n, hn⟩ := (ev_cmpPre ⟨#[]⟩ ⟨#[]⟩ (by decide) (by decide)).rounds
    have hkk : 0 ≤ a1 ∧ a1 ≤ 3 := ⟨by omega, hk.2⟩
    have q1 : impl_BelowHolds.f n 0 a1 x0.f0 (if 1 < a1 then x0.f1 else 0) (if 2 < a1 then x0.f2 else 0) ⟨#[]⟩ x2.f0 x2.f1 x2.f2 ⟨#[]⟩ ⟨#[]⟩ false = some (relB 3 a1 x0.f0 x0.f1 x0.f2 x2.f0 x2.f1 x2.f2) := by
      unfold impl_BelowHolds.f; rw [if_pos hkk, hn, Option.bind_some, gate_rel, cmpF_rel]; rfl
    have q2 : impl_EqualHolds.f n 0 a1 x0.f0 (if 1 < a1 then x0.f1 else 0) (if 2 < a1 then x0.f2 else 0) ⟨#[]⟩ x2.f0 x2.f1 x2.f2 ⟨#[]⟩ ⟨#[]⟩ false = some (relB 0 a1 x0.f0 x0.f1 x0.f2 x2.f0 x2.f1 x2.f2) := by
      unfold impl_EqualHolds.f; rw [if_pos hkk, hn, Option.bind_some, gate_rel, cmpF_rel]; rfl
    have q3 : impl_AboveHolds.f n 0 a1 x0.f0 (if 1 < a1 then x0.f1 else 0) (if 2 < a1 then x0.f2 else 0) ⟨#[]⟩ x2.f0 x2.f1 x2.f2 ⟨#[]⟩ ⟨#[]⟩ false = some (relB 2 a1 x0.f0 x0.f1 x0.f2 x2.f0 x2.f1 x2.f2) := by
      unfold impl_AboveHolds.f; rw [if_pos hkk, hn, Option.bind_some, gate_rel, cmpF_rel]; rfl
    have q4 : impl_NotEqualHolds.f n 0 a1 x0.f0 (if 1 < a1 then x0.f1 else 0) (if 2 < a1 then x0.f2 else 0) ⟨#[]⟩ x2.f0 x2.f1 x2.f2 ⟨#[]⟩ ⟨#[]⟩ false = some (relB 1 a1 x0.f0 x0.f1 x0.f2 x2.f0 x2.f1 x2.f2) := by
      unfold impl_NotEqualHolds.f; rw [if_pos hkk, hn, Option.bind_some, gate_rel, cmpF_rel]
      unfold relB; rw [← opB_rel 1 _ _ _ _ _ _ _ (preS (split (⟨#[]⟩ : ByteArray).toList) (split (⟨#[]⟩ : ByteArray).toList))]; rfl
    have q5 : impl_LeastHolds.f n 0 a1 x0.f0 (if 1 < a1 then x0.f1 else 0) (if 2 < a1 then x0.f2 else 0) ⟨#[]⟩ x2.f0 x2.f1 x2.f2 ⟨#[]⟩ ⟨#[]⟩ false = some (relB 4 a1 x0.f0 x0.f1 x0.f2 x2.f0 x2.f1 x2.f2) := by
      unfold impl_LeastHolds.f; rw [if_pos hkk, hn, Option.bind_some, gate_rel, cmpF_rel]; rfl
    have q6 : impl_MostHolds.f n 0 a1 x0.f0 (if 1 < a1 then x0.f1 else 0) (if 2 < a1 then x0.f2 else 0) ⟨#[]⟩ x2.f0 x2.f1 x2.f2 ⟨#[]⟩ ⟨#[]⟩ false = some (relB 5 a1 x0.f0 x0.f1 x0.f2 x2.f0 x2.f1 x2.f2) := by
      unfold impl_MostHolds.f; rw [if_pos hkk, hn, Option.bind_some, gate_rel, cmpF_rel]; rfl
    rcases one_three a1 x0.f0 x0.f1 x0.f2 x2.f0 x2.f1 x2.f2 (by omega) (wf_u64 w0.1).1 (wf_u64 w0.2.1).1 (wf_u64 w0.2.2.1).1 (wf_u64 w2.1).1 (wf_u64 w2.2.1).1 (wf_u64 w2.2.2.1).1 with ⟨r3, r0, r2, r1, r4, r5⟩ | ⟨r3, r0, r2, r1, r4, r5⟩ | ⟨r3, r0, r2, r1, r4, r5⟩
    · exact one_4 n x0.f0 x0.f1 x0.f2 x2.f0 x2.f1 x2.f2 x0.f3 x0.f4 x2.f3 x2.f4 a1 _ _ _ _ _ _ _ _ _ _ _ _ _ _ _ w hG f1 f2 f3 f4 (r3 ▸ q1) (r0 ▸ q2) (r2 ▸ q3) (r1 ▸ q4) (r4 ▸ q5) (r5 ▸ q6)
    · exact one_5 n x0.f0 x0.f1 x0.f2 x2.f0 x2.f1 x2.f2 x0.f3 x0.f4 x2.f3 x2.f4 a1 _ _ _ _ _ _ _ _ _ _ _ _ _ _ _ w hG f1 f2 f3 f4 (r3 ▸ q1) (r0 ▸ q2) (r2 ▸ q3) (r1 ▸ q4) (r4 ▸ q5) (r5 ▸ q6)
    · exact one_6 n x0.f0 x0.f1 x0.f2 x2.f0 x2.f1 x2.f2 x0.f3 x0.f4 x2.f3 x2.f4 a1 _ _ _ _ _ _ _ _ _ _ _ _ _ _ _ w hG f1 f2 f3 f4 (r3 ▸ q1) (r0 ▸ q2) (r2 ▸ q3) (r1 ▸ q4) (r4 ▸ q5) (r5 ▸ q6)
  · have f3 : laws_stBare.f x0.f0 x0.f1 x0.f2 x0.f3 x0.f4 x2.f0 x2.f1 x2.f2 x2.f3 x2.f4 a1 = some (x0.f0, x0.f1, x0.f2, ⟨#[]⟩, ⟨#[]⟩, x2.f0, x2.f1, x2.f2, ⟨#[]⟩, ⟨#[]⟩, false) := by
      simp only [laws_stBare.f, spec_Bare.f, Option.bind_some]
      by_cases h1 : a1 ≥ 1
      · rw [if_pos h1, decide_eq_false (by omega)]
      · rw [if_neg h1]
    exact one_3 0 x0.f0 x0.f1 x0.f2 x2.f0 x2.f1 x2.f2 x0.f3 x0.f4 x2.f3 x2.f4 a1 _ _ _ _ _ _ _ _ _ _ 0 0 0 0 ⟨#[]⟩ w hG f1 f2 f3
end Go.Proofs.YtlooelfkkbgmhaaDoor.Pure
