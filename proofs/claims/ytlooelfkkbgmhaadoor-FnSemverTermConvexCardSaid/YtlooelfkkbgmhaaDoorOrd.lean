/-
  The order of identifiers, of prereleases and of versions: total and transitive. Plain.
-/
import Derived.Test.YtlooelfkkbgmhaaDoorVerSpec
set_option linter.unusedVariables false
set_option linter.unusedSimpArgs false
namespace Go.Proofs.YtlooelfkkbgmhaaDoor
open Go Txt Go.RowKit QS Go.Proofs.YtlooelfkkbgmhaaDoorW.PrintWords Go.Proofs.YtlooelfkkbgmhaaDoorW.PrintLast

theorem bytesLess_trans : ∀ a b c : List UInt8, Op.bytesLess a b = true → Op.bytesLess b c = true → Op.bytesLess a c = true
  | [], [], _, h, _ => by rw [less_nil] at h; cases h
  | [], _ :: _, [], _, h => by unfold Op.bytesLess at h; cases h
  | [], _ :: _, _ :: _, _, _ => by unfold Op.bytesLess; rfl
  | _ :: _, [], _, h, _ => by unfold Op.bytesLess at h; cases h
  | _ :: _, _ :: _, [], _, h => by unfold Op.bytesLess at h; cases h
  | x :: a, y :: b, z :: c, h1, h2 => by
    rw [less_cons] at h1 h2 ⊢
    have ih := bytesLess_trans a b c
    simp only [Bool.or_eq_true, Bool.and_eq_true, decide_eq_true_eq, beq_iff_eq] at h1 h2 ⊢
    rcases h1 with h1 | ⟨rfl, h1⟩
    · rcases h2 with h2 | ⟨rfl, h2⟩
      · exact Or.inl (UInt8.lt_trans h1 h2)
      · exact Or.inl h1
    · rcases h2 with h2 | ⟨rfl, h2⟩
      · exact Or.inl h2
      · exact Or.inr ⟨rfl, ih h1 h2⟩
theorem partS_three (a b : List UInt8) : partS a b = -1 ∨ partS a b = 0 ∨ partS a b = 1 := by
  unfold partS
  repeat' split
  all_goals simp
theorem partS_zero {a b : List UInt8} (h : partS a b = 0) : a = b := by
  unfold partS at h
  by_cases e : a = b
  · exact e
  · rw [if_neg e] at h
    exfalso
    revert h
    repeat' split
    all_goals simp
theorem partS_swap (a b : List UInt8) : partS b a = - partS a b := by
  by_cases e : a = b
  · rw [e, partS_self]; rfl
  · have e' : ¬ b = a := fun h => e h.symm
    have asy := bytesLess_asymm a b
    have tt := bytesLess_total a b e
    unfold partS
    rw [if_neg e, if_neg e']
    generalize Op.bytesLess a b = p at asy tt ⊢
    generalize Op.bytesLess b a = q at asy tt ⊢
    generalize digitsB a = x
    generalize digitsB b = y
    generalize a.length = m
    generalize b.length = n
    cases x <;> cases y <;> cases p <;> cases q <;> simp_all <;> grind
theorem partS_trans (a b c : List UInt8) (h1 : partS a b ≤ 0) (h2 : partS b c ≤ 0) : partS a c ≤ 0 := by
  by_cases e1 : a = b
  · rw [e1]; exact h2
  by_cases e2 : b = c
  · rw [← e2]; exact h1
  by_cases e3 : a = c
  · rw [e3, partS_self]; exact Int.le_refl _
  have tr := bytesLess_trans a b c
  unfold partS at *
  rw [if_neg e1] at h1
  rw [if_neg e2] at h2
  rw [if_neg e3]
  generalize Op.bytesLess a b = p at *
  generalize Op.bytesLess b c = q at *
  generalize Op.bytesLess a c = r at *
  generalize digitsB a = x at *
  generalize digitsB b = y at *
  generalize digitsB c = z at *
  generalize a.length = m at *
  generalize b.length = n at *
  generalize c.length = o at *
  clear e1 e2 e3
  cases x <;> cases y <;> cases z <;> simp at h1 h2 ⊢ <;> grind
theorem specL_three : ∀ x y : List (List UInt8), specL x y = -1 ∨ specL x y = 0 ∨ specL x y = 1
  | [], [] => by rw [specL_nil]; simp
  | [], _ :: _ => by rw [specL_less]; simp
  | _ :: _, [] => by rw [specL_more]; simp
  | a :: x, b :: y => by
    rw [specL_cons]
    have h := specL_three x y
    have h' := partS_three a b
    split <;> assumption
theorem specL_swap : ∀ x y : List (List UInt8), specL y x = - specL x y
  | [], [] => by rw [specL_nil]; rfl
  | [], _ :: _ => by rw [specL_less, specL_more]; rfl
  | _ :: _, [] => by rw [specL_less, specL_more]
  | a :: x, b :: y => by
    rw [specL_cons, specL_cons, partS_swap a b, specL_swap x y]
    by_cases h : partS a b = 0
    · rw [if_pos h, if_pos (by omega)]
    · rw [if_neg h, if_neg (by omega)]
theorem specL_trans : ∀ x y z : List (List UInt8), specL x y ≤ 0 → specL y z ≤ 0 → specL x z ≤ 0
  | [], _, [], _, _ => by rw [specL_nil]; exact Int.le_refl _
  | [], _, _ :: _, _, _ => by rw [specL_less]; decide
  | _ :: _, [], _, h, _ => by rw [specL_more] at h; omega
  | _ :: _, _ :: _, [], _, h => by rw [specL_more] at h; omega
  | a :: x, b :: y, c :: z, h1, h2 => by
    rw [specL_cons] at h1 h2 ⊢
    have ih := specL_trans x y z
    have t1 := partS_trans a b c
    have t2 := partS_trans c a b
    have t3 := partS_trans b c a
    have s1 := partS_swap a b
    have s2 := partS_swap b c
    have s3 := partS_swap a c
    by_cases g1 : partS a b = 0
    · rw [if_pos g1] at h1
      obtain rfl := partS_zero g1
      by_cases g2 : partS a c = 0
      · rw [if_pos g2] at h2 ⊢; exact ih h1 h2
      · rw [if_neg g2] at h2 ⊢; exact h2
    · rw [if_neg g1] at h1
      by_cases g2 : partS b c = 0
      · obtain rfl := partS_zero g2
        rw [if_neg g1]; exact h1
      · rw [if_neg g2] at h2
        have h3 := t1 h1 h2
        by_cases g3 : partS a c = 0
        · obtain rfl := partS_zero g3
          omega
        · rw [if_neg g3]; exact h3
theorem preC_swap (s t : List UInt8) : preC t s = - preC s t := by
  unfold preC
  by_cases e : s = t
  · rw [if_pos e, if_pos e.symm]; rfl
  · rw [if_neg e, if_neg (fun h => e h.symm)]
    by_cases h1 : s = []
    · have h2 : ¬ t = [] := fun h => e (h1.trans h.symm)
      rw [if_pos h1, if_neg h2, if_pos h1]
    · rw [if_neg h1, if_neg h1, specL_swap]
      by_cases h2 : t = []
      · rw [if_pos h2, if_pos h2]; rfl
      · rw [if_neg h2, if_neg h2]
theorem preC_three (s t : List UInt8) : preC s t = -1 ∨ preC s t = 0 ∨ preC s t = 1 := by
  unfold preC
  have := specL_three (split s) (split t)
  repeat' split
  all_goals first | assumption | simp
theorem preC_trans (s t u : List UInt8) (h1 : preC s t ≤ 0) (h2 : preC t u ≤ 0) : preC s u ≤ 0 := by
  unfold preC at *
  by_cases e1 : s = t
  · rw [e1]; exact h2
  by_cases e2 : t = u
  · rw [← e2]; exact h1
  rw [if_neg e1] at h1
  rw [if_neg e2] at h2
  by_cases e3 : s = u
  · rw [if_pos e3]; exact Int.le_refl _
  rw [if_neg e3]
  by_cases g1 : s = []
  · rw [if_pos g1] at h1; omega
  rw [if_neg g1] at h1 ⊢
  by_cases g2 : u = []
  · rw [if_pos g2]; decide
  rw [if_neg g2] at h2 ⊢
  by_cases g3 : t = []
  · rw [if_pos g3] at h2; omega
  rw [if_neg g3] at h1 h2
  exact specL_trans _ _ _ h1 h2
theorem cn3 (a b c a' b' c' : Int) : cnF a b c a' b' c' 3 = if segF a a' ≠ 0 then segF a a' else if segF b b' ≠ 0 then segF b b' else segF c c' := by
  unfold cnF
  rw [if_neg (by omega), if_neg (show ¬ (3 : Int) ≤ 1 by omega), if_neg (show ¬ (3 : Int) ≤ 2 by omega)]
theorem segF_cases (a b : Int) : (a < b ∧ segF a b = -1) ∨ (a = b ∧ segF a b = 0) ∨ (b < a ∧ segF a b = 1) := by
  unfold segF
  by_cases h : a < b
  · rw [if_pos h]; exact Or.inl ⟨h, rfl⟩
  · rw [if_neg h]
    by_cases h' : b < a
    · rw [if_pos h']; exact Or.inr (Or.inr ⟨h', rfl⟩)
    · rw [if_neg h']; exact Or.inr (Or.inl ⟨by omega, rfl⟩)
/-- the order of versions, as numbers and a prerelease -/
theorem specC_le (a b c a' b' c' : Int) (s s' : ByteArray) : specC a b c a' b' c' s s' ≤ 0 ↔ a < a' ∨ (a = a' ∧ (b < b' ∨ (b = b' ∧ (c < c' ∨ (c = c' ∧ preC s.toList s'.toList ≤ 0))))) := by
  unfold specC
  rw [cn3]
  rcases segF_cases a a' with ⟨h, e⟩ | ⟨h, e⟩ | ⟨h, e⟩ <;> rw [e] <;> rcases segF_cases b b' with ⟨h', e'⟩ | ⟨h', e'⟩ | ⟨h', e'⟩ <;> rw [e'] <;> rcases segF_cases c c' with ⟨h'', e''⟩ | ⟨h'', e''⟩ | ⟨h'', e''⟩ <;> rw [e''] <;> simp <;> omega
theorem specC_swap (a b c a' b' c' : Int) (s s' : ByteArray) : specC a' b' c' a b c s' s = - specC a b c a' b' c' s s' := by
  unfold specC
  rw [cn3, cn3, preC_swap s.toList s'.toList]
  rcases segF_cases a a' with ⟨h, e⟩ | ⟨h, e⟩ | ⟨h, e⟩ <;> rcases segF_cases a' a with ⟨g, d⟩ | ⟨g, d⟩ | ⟨g, d⟩ <;> first | omega | skip
  all_goals rcases segF_cases b b' with ⟨h', e'⟩ | ⟨h', e'⟩ | ⟨h', e'⟩ <;> rcases segF_cases b' b with ⟨g', d'⟩ | ⟨g', d'⟩ | ⟨g', d'⟩ <;> first | omega | skip
  all_goals rcases segF_cases c c' with ⟨h'', e''⟩ | ⟨h'', e''⟩ | ⟨h'', e''⟩ <;> rcases segF_cases c' c with ⟨g'', d''⟩ | ⟨g'', d''⟩ | ⟨g'', d''⟩ <;> first | omega | simp [e, d, e', d', e'', d'']
theorem specC_three (a b c a' b' c' : Int) (s s' : ByteArray) : specC a b c a' b' c' s s' = -1 ∨ specC a b c a' b' c' s s' = 0 ∨ specC a b c a' b' c' s s' = 1 := by
  have := preC_three s.toList s'.toList
  unfold specC
  rw [cn3]
  rcases segF_cases a a' with ⟨h, e⟩ | ⟨h, e⟩ | ⟨h, e⟩ <;> rcases segF_cases b b' with ⟨h', e'⟩ | ⟨h', e'⟩ | ⟨h', e'⟩ <;> rcases segF_cases c c' with ⟨h'', e''⟩ | ⟨h'', e''⟩ | ⟨h'', e''⟩ <;> simp [e, e', e''] <;> assumption
theorem specC_trans (a b c a' b' c' a'' b'' c'' : Int) (s s' s'' : ByteArray) (h1 : specC a b c a' b' c' s s' ≤ 0) (h2 : specC a' b' c' a'' b'' c'' s' s'' ≤ 0) : specC a b c a'' b'' c'' s s'' ≤ 0 := by
  rw [specC_le] at h1 h2 ⊢
  have h := preC_trans s.toList s'.toList s''.toList
  omega
/-- what stands between two versions compares with a third one between the two -/
theorem specC_mono (a b c a' b' c' x y z : Int) (s s' t : ByteArray) (h : specC a b c a' b' c' s s' ≤ 0) : specC a b c x y z s t ≤ specC a' b' c' x y z s' t := by
  have h1 := specC_three a b c x y z s t
  have h2 := specC_three a' b' c' x y z s' t
  have t1 := specC_trans a b c a' b' c' x y z s s' t h
  have t2 := specC_trans x y z a b c a' b' c' t s s'
  have t3 := specC_trans a' b' c' x y z a b c s' t s
  have s1 := specC_swap a b c x y z s t
  have s2 := specC_swap a' b' c' x y z s' t
  have s3 := specC_swap a b c a' b' c' s s'
  have t4 := specC_trans a b c x y z a' b' c' s t s'
  have t5 := specC_trans x y z a' b' c' a b c t s' s
  omega
end Go.Proofs.YtlooelfkkbgmhaaDoor
