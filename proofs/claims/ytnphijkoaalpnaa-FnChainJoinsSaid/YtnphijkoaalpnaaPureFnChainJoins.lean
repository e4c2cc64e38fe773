/-
  What a chain of wrappers leaves, in two parts: the plain law.
-/
import Derived.Test.YtnphijkoaalpnaaQWx2
set_option linter.unusedVariables false
set_option linter.unusedSimpArgs false
namespace Go.Proofs.Ytnphijkoaalpnaa.Pure
open Go.RowKit Go.Proofs.Ytnphijkoaalpnaa.QW Go.Proofs.YtnphijkoaalpnaaW.PrintWords Go.Proofs.YtnphijkoaalpnaaW.PrintLast

theorem outL_take : ∀ l : List Int, (outL l).take l.length = l
  | [] => rfl
  | a :: l => by simp [outL, List.take_append_of_le_length (show l.length ≤ (outL l).length by rw [outL_length]; omega), outL_take l]
theorem outL_join : ∀ o i : List Int, outL (o ++ i) = o ++ outL i ++ (outL o).drop (o.length + 1)
  | [], i => by simp [outL]
  | a :: o, i => by
    have h := outL_join o i
    simp only [List.cons_append, outL, h, List.length_cons, List.drop_succ_cons]
    rw [List.drop_append_of_le_length (by rw [outL_length]; omega)]
    simp
theorem wrap_next {y n : Int} (h0 : 0 ≤ y) (h1 : y < n) (hn : n ≤ 2147483647) : wrap64 (y + 1) = y + 1 := by unfold wrap64; omega
theorem same_loop (xs : List Int) (hn : xs.length ≤ 2147483647) : ∀ (k : Nat) (y : Int), 0 ≤ y → y ≤ xs.length → (xs.length : Int) < y + k → laws_entriesSame.l0 k xs xs xs.length y = some true
  | 0, y, h0, h1, h2 => by omega
  | k + 1, y, h0, h1, h2 => by
    unfold laws_entriesSame.l0
    by_cases h : y < (xs.length : Int)
    · rw [if_pos h, if_pos h0, if_pos h, if_pos h, if_pos rfl, wrap_next h0 h (by omega)]
      exact same_loop xs hn k (y + 1) (by omega) (by omega) (by omega)
    · rw [if_neg h]
theorem same_ok (xs : List Int) (hn : xs.length ≤ 2147483647) (k : Nat) (hk : xs.length < k) : laws_entriesSame.f k xs xs = some true := by
  unfold laws_entriesSame.f
  rw [if_pos rfl]
  exact same_loop xs hn k 0 (by omega) (by omega) (by omega)
theorem trace_f (l : List Int) (h : l.length ≤ 1000) : impl_ChainTrace.f l = some (outL l) := by
  unfold impl_ChainTrace.f
  rw [if_pos h]
theorem j1_true (k : Nat) (x0 x1 : List Int) : laws_FnChainJoins.j1 (k + 1) x0 x1 true = some true := by
  rw [laws_FnChainJoins.j1, if_pos rfl]
theorem j1_false (k : Nat) (hk : 500 ≤ k) (x0 x1 : List Int) (h0 : x0.length ≤ 100) (h1 : x1.length ≤ 100) : laws_FnChainJoins.j1 (k + 1) x0 x1 false = some true := by
  rw [laws_FnChainJoins.j1]
  have e2 : (outL x1).length = 2 * x1.length + 1 := outL_length x1
  have e1 : (outL x0).length = 2 * x0.length + 1 := outL_length x0
  have w0 : wrap64 ((wrap64 (2 * (x0.length : Int))) + 1) = ((outL x0).length : Int) := by rw [e1]; unfold wrap64; omega
  have w1 : wrap64 ((wrap64 (2 * (x1.length : Int))) + 1) = ((outL x1).length : Int) := by rw [e2]; unfold wrap64; omega
  have w2 : wrap64 ((x0.length : Int) + 1) = (x0.length : Int) + 1 := by unfold wrap64; omega
  have n2 : ((x0.length : Int) + 1).toNat = x0.length + 1 := by omega
  have n1 : ((x0.length : Int)).toNat = x0.length := by omega
  have t1 : impl_ChainTrace.f ([] ++ x0 ++ x1) = some (outL (x0 ++ x1)) := by
    rw [List.nil_append]; exact trace_f _ (by rw [List.length_append]; omega)
  have hs := same_ok (outL (x0 ++ x1)) (by rw [outL_length, List.length_append]; omega) k (by rw [outL_length, List.length_append]; omega)
  have hd : ((outL x0).drop (x0.length + 1)).length ≤ 1000 := by rw [List.length_drop]; omega
  have ht : ((outL x0).take x0.length).length ≤ 1000 := by rw [List.length_take]; omega
  simp only [Bool.false_eq_true, if_false, Option.bind_some, t1, trace_f x0 (by omega), trace_f x1 (by omega), w0, w1, w2, n1, n2]
  rw [if_pos (by simp only [List.length_nil]; omega), if_pos (by simp only [List.length_append, List.length_nil]; omega), if_pos True.intro, if_pos True.intro, if_pos (by omega), if_pos (by omega), if_pos (by simp only [List.length_nil]; omega), if_pos (by simp only [List.length_append, List.length_nil]; omega), if_pos (by omega), if_pos (by omega), if_pos (by simp only [List.length_append, List.length_nil]; omega), outL_take, List.nil_append, ← outL_join, hs]
  rfl
/-- the law -/
theorem FnChainJoins : laws_FnChainJoins.Pure := by
  intro l0 l1 _ _ _ _ _ _
  refine ⟨1002, ?_⟩
  unfold laws_FnChainJoins.f
  have hj : ∀ b, laws_FnChainJoins.j0 1002 l0 l1 b = some true := by
    intro b
    show laws_FnChainJoins.j0 (1000 + 1 + 1) l0 l1 b = some true
    rw [laws_FnChainJoins.j0]
    by_cases hb : b = true
    · rw [if_pos hb]
    · rw [if_neg hb]
      by_cases h0 : (l0.length : Int) > 100
      · rw [if_pos h0]; exact j1_true _ _ _
      · rw [if_neg h0]
        by_cases h1 : (l1.length : Int) > 100
        · rw [decide_eq_true h1]; exact j1_true _ _ _
        · rw [decide_eq_false h1]; exact j1_false 1000 (by decide) l0 l1 (by omega) (by omega)
  by_cases h : (l0.length : Int) > 2147483647
  · rw [if_pos h]; exact hj _
  · rw [if_neg h]; exact hj _

end Go.Proofs.Ytnphijkoaalpnaa.Pure
