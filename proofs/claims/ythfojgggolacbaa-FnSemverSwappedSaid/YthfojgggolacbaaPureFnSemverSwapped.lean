/-
  What the law of swapped positions computes is true.
-/
import Derived.Test.YthfojgggolacbaaQWx3
set_option linter.unusedVariables false
namespace Go.Proofs.Ythfojgggolacbaa.fnSemverSwapped
open Go.RowKit Go.Proofs.YthfojgggolacbaaW.PrintWords Go.Proofs.Ythfojgggolacbaa.QW
def wf28 (x : S28) : Prop := ((Lit.int .u64 x.f0).wf = true) ∧ ((Lit.int .u64 x.f1).wf = true) ∧ ((Lit.int .u64 x.f2).wf = true) ∧ (x.f3.size ≤ maxLen) ∧ (x.f4.size ≤ maxLen)
end Go.Proofs.Ythfojgggolacbaa.fnSemverSwapped
namespace Go.Proofs.Ythfojgggolacbaa.Pure
open Go Go.RowKit Go.Proofs.Ythfojgggolacbaa Go.Proofs.Ythfojgggolacbaa.QW Go.Proofs.YthfojgggolacbaaW.PrintWords Go.Proofs.YthfojgggolacbaaW.PrintLast Go.Proofs.Ythfojgggolacbaa.fnSemverSwapped

theorem fits_some (l : List S28) (hn : l.length ≤ 2147483647) : ∀ (d : Nat) (x : Int), 0 ≤ x → x ≤ l.length → (l.length : Int) - x = d → ∃ b, laws_zzFits15.l0 (d + 1) l (l.length : Int) x = some b := by
  intro d
  induction d with
  | zero =>
    intro x h0 h1 h2
    refine ⟨true, ?_⟩
    simp only [laws_zzFits15.l0]
    rw [if_neg (by omega)]
  | succ d ih =>
    intro x h0 h1 h2
    obtain ⟨b, hb⟩ := ih (x + 1) (by omega) (by omega) (by omega)
    have hw : wrap64 (x + 1) = x + 1 := by unfold wrap64; omega
    rw [laws_zzFits15.l0, if_pos (by omega), if_pos h0, if_pos (by omega), hw, hb]
    unfold laws_zzFits14.f
    split
    · exact ⟨false, rfl⟩
    · split
      · exact ⟨false, rfl⟩
      · exact ⟨b, rfl⟩
theorem rd_swp (l : List S28) (i j x : Int) (h0 : 0 ≤ x) (hx : x < l.length) (i0 : 0 ≤ i) (j0 : 0 ≤ j) : rd_T28 (swp z28 l i j) x = if x = i then rd_T28 l j else if x = j then rd_T28 l i else rd_T28 l x := by
  unfold rd_T28
  rw [swp_get _ _ _ _ _ (by omega)]
  by_cases h1 : x = i
  · subst h1
    rw [if_pos rfl]
    by_cases h2 : j.toNat = x.toNat
    · rw [if_pos h2, h2, if_pos rfl]
    · rw [if_neg h2, if_pos rfl]
  · rw [if_neg h1]
    by_cases h2 : x = j
    · subst h2
      rw [if_pos rfl, if_pos rfl]
    · rw [if_neg h2, if_neg (by omega), if_neg (by omega)]
theorem loop_true (l : List S28) (i j : Int) (hn : l.length ≤ 2147483647) (i0 : 0 ≤ i) (i1 : i < l.length) (j0 : 0 ≤ j) (j1 : j < l.length) : ∀ (d : Nat) (x : Int), 0 ≤ x → x ≤ l.length → (l.length : Int) - x = d → laws_FnSemverSwapped.l0 (d + 1) l i j (swp z28 l i j) l (l.length : Int) x = some true := by
  intro d
  induction d with
  | zero =>
    intro x h0 h1 h2
    simp only [laws_FnSemverSwapped.l0]
    rw [if_neg (by omega)]
  | succ d ih =>
    intro x h0 h1 h2
    have hb := ih (x + 1) (by omega) (by omega) (by omega)
    have hw : wrap64 (x + 1) = x + 1 := by unfold wrap64; omega
    have hx : x < (l.length : Int) := by omega
    have hm : x < ((swp z28 l i j).length : Int) := by rw [swp_length]; exact hx
    rw [laws_FnSemverSwapped.l0, rd_swp l i j x h0 hx i0 j0, hw, hb]
    by_cases c1 : x = i
    · subst c1
      simp [hx, h0, j0, j1, hm]
    · by_cases c2 : x = j
      · subst c2
        simp [hx, h0, i0, i1, hm, c1]
      · simp [hx, h0, hm, c1, c2]
theorem FnSemverSwapped (l0 : List (S28)) (a1 : Int) (a2 : Int) (w0 : l0.length ≤ maxLen ∧ ∀ y0 ∈ l0, wf28 y0) (w1 : (Lit.int .i64 a1).wf = true) (w2 : (Lit.int .i64 a2).wf = true) : ∃ k, laws_FnSemverSwapped.f k l0 a1 a2 = some true := by
  unfold laws_FnSemverSwapped.f laws_zzFits15.f
  by_cases hn : (l0.length : Int) > 2147483647
  · exact ⟨0, by rw [if_pos hn]; rfl⟩
  · have hn' : l0.length ≤ 2147483647 := by omega
    obtain ⟨b, hb⟩ := fits_some l0 hn' l0.length 0 (by omega) (by omega) (by omega)
    have hK : ∀ e, laws_zzFits15.l0 (l0.length + 1 + e) l0 (l0.length : Int) 0 = some b := by
      intro e
      induction e with
      | zero => exact hb
      | succ e ih => exact laws_zzFits15.mono_l _ _ _ _ _ ih
    refine ⟨l0.length + 1 + 2, ?_⟩
    rw [if_neg hn, hK 2]
    cases b
    · rfl
    · rw [Option.bind_some, if_pos rfl]
      have hj : ∀ k, laws_FnSemverSwapped.j0 (k + 1) l0 a1 a2 true = some true := fun k => by simp [laws_FnSemverSwapped.j0]
      by_cases c1 : (l0.length : Int) > 256
      · rw [if_pos c1]; exact hj _
      · rw [if_neg c1]
        by_cases c2 : a1 < 0
        · rw [if_pos c2]; exact hj _
        · rw [if_neg c2]
          by_cases c3 : a2 < 0
          · rw [if_pos c3]; exact hj _
          · rw [if_neg c3]
            by_cases c4 : a1 ≥ (l0.length : Int)
            · rw [if_pos c4]; exact hj _
            · rw [if_neg c4]
              by_cases c5 : a2 ≥ (l0.length : Int)
              · rw [decide_eq_true c5]; exact hj _
              · rw [decide_eq_false c5]
                have hf : impl_VersionsSwapped.f l0 a1 a2 = some (swp z28 l0 a1 a2) := if_pos ⟨hn', by omega, by omega, by omega, by omega⟩
                have hg : impl_VersionsLen.f l0 = some (l0.length : Int) := if_pos hn'
                have hl := loop_true l0 a1 a2 hn' (by omega) (by omega) (by omega) (by omega) l0.length 0 (by omega) (by omega) (by omega)
                simp [laws_FnSemverSwapped.j0, laws_FnSemverSwapped.j1, hf, hg, swp_length, hl]

end Go.Proofs.Ythfojgggolacbaa.Pure
