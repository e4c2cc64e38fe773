/-
  Ascending texts of one length: a code that the table gives means its text alone.
-/
import Derived.Test.YteonaghjhjnijaaCod0
set_option linter.unusedVariables false
namespace Go.Proofs.Yteonaghjhjnijaa
open Go Go.RowKit
theorem less_trans : ∀ (a b c : List UInt8), Op.bytesLess a b = true → Op.bytesLess b c = true → Op.bytesLess a c = true
  | a, b, [], _, h => by cases b <;> simp [Op.bytesLess] at h
  | a, [], c :: z, h, _ => by cases a <;> simp [Op.bytesLess] at h
  | [], b :: y, c :: z, _, _ => by simp [Op.bytesLess]
  | a :: x, b :: y, c :: z, h1, h2 => by
    have ih := less_trans x y z
    simp only [Op.bytesLess, Bool.or_eq_true, Bool.and_eq_true, decide_eq_true_eq, beq_iff_eq] at h1 h2 ⊢
    rcases h1 with h1 | ⟨rfl, h1⟩ <;> rcases h2 with h2 | ⟨rfl, h2⟩
    · exact Or.inl (UInt8.lt_trans h1 h2)
    · exact Or.inl h1
    · exact Or.inl h2
    · exact Or.inr ⟨rfl, ih h1 h2⟩
theorem less_between : ∀ (p : Nat) (a b c : List UInt8), Op.bytesLess a b = true → Op.bytesLess b c = true → a.take p = c.take p → a.take p = b.take p
  | 0, a, b, c, _, _, _ => by simp
  | p + 1, a, b, [], _, h, _ => by cases b <;> simp [Op.bytesLess] at h
  | p + 1, a, [], c :: z, h, _, _ => by cases a <;> simp [Op.bytesLess] at h
  | p + 1, [], b :: y, c :: z, _, _, h => by simp at h
  | p + 1, a :: x, b :: y, c :: z, h1, h2, h => by
    have ih := less_between p x y z
    simp only [Op.bytesLess, Bool.or_eq_true, Bool.and_eq_true, decide_eq_true_eq, beq_iff_eq] at h1 h2
    simp only [List.take_succ_cons, List.cons.injEq] at h ⊢
    obtain ⟨rfl, h⟩ := h
    rcases h1 with h1 | ⟨rfl, h1⟩ <;> rcases h2 with h2 | ⟨h2', h2⟩
    · exact absurd (UInt8.lt_trans h1 h2) (UInt8.lt_irrefl _)
    · subst h2'
      exact absurd h1 (UInt8.lt_irrefl _)
    · exact absurd h2 (UInt8.lt_irrefl _)
    · exact ⟨rfl, ih h1 h2 h⟩
section
variable (x : Nat → List UInt8) (len : Nat)
def Same (p i j : Nat) : Prop := (x i).take p = (x j).take p
variable {x len}
theorem same_symm {p i j : Nat} (h : Same x p i j) : Same x p j i := Eq.symm h
theorem same_trans {p i j k : Nat} (h : Same x p i j) (h' : Same x p j k) : Same x p i k := Eq.trans h h'
theorem same_le {p q i j : Nat} (h : Same x q i j) (hp : p ≤ q) : Same x p i j := by
  unfold Same at h ⊢
  have h1 := congrArg (List.take p) h
  rw [List.take_take, List.take_take, Nat.min_eq_left hp] at h1
  exact h1
theorem same_mid (hs : ∀ i j, i < j → j < len → Op.bytesLess (x i) (x j) = true) {p i j k : Nat} (hij : i ≤ j) (hjk : j ≤ k) (hk : k < len) (h : Same x p i k) : Same x p i j := by
  rcases Nat.lt_or_ge i j with h1 | h1
  · rcases Nat.lt_or_ge j k with h2 | h2
    · exact less_between p _ _ _ (hs i j h1 (by omega)) (hs j k h2 hk) h
    · obtain rfl : j = k := by omega
      exact h
  · obtain rfl : i = j := by omega
    rfl
/-- what the table's walk from one text to the next keeps -/
def Kept0 (x : Nat → List UInt8) (len n0 i q r : Nat) : Prop :=
  n0 ≤ q ∧ (i < len → ∀ k, k < i → ¬ Same x q k i) ∧ (q = n0 ∨ (1 ≤ i ∧ i ≤ r ∧ r < len ∧ Same x n0 (i - 1) r ∧ ∀ j, i ≤ j → j < len → Same x n0 (i - 1) j → j ≤ r)) ∧ (q = n0 → r ≤ i)
/-- what one text's round does -/
def Round0 (x : Nat → List UInt8) (len i q r q1 r1 : Nat) : Prop :=
  q ≤ q1 ∧ (q1 = q → r1 = r) ∧ (q < q1 → ∀ j, i < j → j < len → Same x q i j → j ≤ r1) ∧ (r1 = r ∨ (i < r1 ∧ r1 < len ∧ Same x q i r1)) ∧ r ≤ r1 ∧ (i + 1 < len → ¬ Same x q1 i (i + 1))
theorem kept_next (hs : ∀ i j, i < j → j < len → Op.bytesLess (x i) (x j) = true) {n0 i q r q1 r1 : Nat} (hi : i < len) (h : Kept0 x len n0 i q r) (hr : Round0 x len i q r q1 r1) : Kept0 x len n0 (i + 1) (if r1 ≤ i then n0 else q1) r1 := by
  obtain ⟨h0, h1, h2, h4⟩ := h
  obtain ⟨g0, g1, g2, g3, g4, g5⟩ := hr
  by_cases hre : r1 ≤ i
  · rw [if_pos hre]
    refine ⟨Nat.le_refl _, fun hl k hk hsm => ?_, Or.inl rfl, fun _ => by omega⟩
    have hii : Same x n0 i (i + 1) := same_trans (same_symm (same_mid hs (by omega) (by omega) hl hsm)) hsm
    rcases h2 with h2 | ⟨a1, a2, a3, a4, a5⟩
    · subst h2
      rcases Nat.lt_or_ge q q1 with hq | hq
      · have := g2 hq (i + 1) (by omega) hl hii
        omega
      · obtain rfl : q1 = q := by omega
        exact g5 hl hii
    · obtain rfl : r = i := by omega
      have := a5 (r + 1) (by omega) hl (same_trans a4 hii)
      omega
  · rw [if_neg hre]
    refine ⟨by omega, fun hl k hk hsm => ?_, ?_, fun hq => ?_⟩
    · exact g5 hl (same_trans (same_symm (same_mid hs (by omega) (by omega) hl hsm)) hsm)
    · refine Or.inr ⟨by omega, by omega, ?_⟩
      rw [Nat.add_sub_cancel]
      rcases h2 with h2 | ⟨a1, a2, a3, a4, a5⟩
      · subst h2
        have hri := h4 rfl
        rcases g3 with g3 | ⟨b1, b2, b3⟩
        · omega
        · refine ⟨b2, b3, fun j hj hjl hsm => g2 ?_ j (by omega) hjl hsm⟩
          rcases Nat.lt_or_ge q q1 with hq | hq
          · exact hq
          · have := g1 (by omega)
            omega
      · have hii : Same x n0 (i - 1) i := same_mid hs (by omega) a2 a3 a4
        have hrr : r1 = r := by
          rcases g3 with g3 | ⟨b1, b2, b3⟩
          · exact g3
          · have := a5 r1 (by omega) b2 (same_trans hii (same_le b3 h0))
            omega
        rw [hrr]
        exact ⟨a3, same_trans (same_symm hii) a4, fun j hj hjl hsm => a5 j (by omega) hjl (same_trans hii hsm)⟩
    · have hq0 : q = n0 := by omega
      have := h4 hq0
      have := g1 (by omega)
      omega
/-- the code of length q1 means its text alone -/
theorem kept_alone (hs : ∀ i j, i < j → j < len → Op.bytesLess (x i) (x j) = true) {n0 i q r q1 r1 : Nat} (hi : i < len) (h : Kept0 x len n0 i q r) (hr : Round0 x len i q r q1 r1) : n0 ≤ q1 ∧ ∀ k, k < len → Same x q1 k i → k = i := by
  obtain ⟨h0, h1, h2, h4⟩ := h
  obtain ⟨g0, g1, g2, g3, g4, g5⟩ := hr
  refine ⟨by omega, fun k hk hsm => ?_⟩
  rcases Nat.lt_trichotomy k i with hlt | heq | hgt
  · exact absurd (same_le hsm g0) (h1 hi k hlt)
  · exact heq
  · exact absurd (same_mid hs (by omega) (by omega : i + 1 ≤ k) hk (same_symm hsm)) (g5 (by omega))
end
end Go.Proofs.Yteonaghjhjnijaa
