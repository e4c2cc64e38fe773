/-
  Terms other than != hold of what stands between two versions that they hold of.
-/
import Derived.Test.YtlooelfkkbgmhaaDoorOrd
import Derived.Test.YtlooelfkkbgmhaaDoorConTerm
import Derived.Test.YtlooelfkkbgmhaaDoorTermSpec
set_option linter.unusedVariables false
set_option linter.unusedSimpArgs false
namespace Go.Proofs.YtlooelfkkbgmhaaDoor
open Go Txt Go.RowKit QS Go.Proofs.YtlooelfkkbgmhaaDoorW.PrintWords Go.Proofs.YtlooelfkkbgmhaaDoorW.PrintLast

/-- what the order says of the numbers -/
theorem specC_nums (a b c a' b' c' : Int) (s s' : ByteArray) (h : specC a b c a' b' c' s s' ≤ 0) : a < a' ∨ (a = a' ∧ (b < b' ∨ (b = b' ∧ c ≤ c'))) := by
  rw [specC_le] at h
  omega
theorem lt_convex (x y z : Int) (h : x ≤ y) (h' : y ≤ z) (hz : ltB z = true) : ltB y = true := by
  unfold ltB at *; simp at *; omega
theorem ge_convex (x y z : Int) (h : x ≤ y) (h' : y ≤ z) (hx : geB x = true) : geB y = true := by
  unfold geB at *; simp at *; omega
theorem gt_convex (x y z a b c a1 b1 c1 a2 b2 c2 t0 t1 : Int) (md dd pd : Bool) (h : x ≤ y) (h' : y ≤ z) (q : a < a1 ∨ (a = a1 ∧ (b < b1 ∨ (b = b1 ∧ c ≤ c1)))) (q' : a1 < a2 ∨ (a1 = a2 ∧ (b1 < b2 ∨ (b1 = b2 ∧ c1 ≤ c2)))) (x3 : x = -1 ∨ x = 0 ∨ x = 1) (y3 : y = -1 ∨ y = 0 ∨ y = 1) (z3 : z = -1 ∨ z = 0 ∨ z = 1) (hx : gtB x a b t0 t1 md dd pd = true) : gtB y a1 b1 t0 t1 md dd pd = true := by
  unfold gtB at *
  cases md <;> cases dd <;> cases pd <;> simp at * <;> omega
theorem le_convex (x y z a b c a1 b1 c1 a2 b2 c2 t0 t1 : Int) (md dd : Bool) (h : x ≤ y) (h' : y ≤ z) (q : a < a1 ∨ (a = a1 ∧ (b < b1 ∨ (b = b1 ∧ c ≤ c1)))) (q' : a1 < a2 ∨ (a1 = a2 ∧ (b1 < b2 ∨ (b1 = b2 ∧ c1 ≤ c2)))) (x3 : x = -1 ∨ x = 0 ∨ x = 1) (y3 : y = -1 ∨ y = 0 ∨ y = 1) (z3 : z = -1 ∨ z = 0 ∨ z = 1) (hz : leB z a2 b2 t0 t1 md dd = true) : leB y a1 b1 t0 t1 md dd = true := by
  unfold leB at *
  cases md <;> cases dd <;> simp at * <;> omega
theorem ti_convex (x y z a b c a1 b1 c1 a2 b2 c2 t0 t1 t2 : Int) (md pd : Bool) (h : x ≤ y) (h' : y ≤ z) (q : a < a1 ∨ (a = a1 ∧ (b < b1 ∨ (b = b1 ∧ c ≤ c1)))) (q' : a1 < a2 ∨ (a1 = a2 ∧ (b1 < b2 ∨ (b1 = b2 ∧ c1 ≤ c2)))) (x3 : x = -1 ∨ x = 0 ∨ x = 1) (y3 : y = -1 ∨ y = 0 ∨ y = 1) (z3 : z = -1 ∨ z = 0 ∨ z = 1) (hx : tiB x a b t0 t1 t2 md pd = true) (hz : tiB z a2 b2 t0 t1 t2 md pd = true) : tiB y a1 b1 t0 t1 t2 md pd = true := by
  unfold tiB at *
  cases md <;> cases pd <;> simp at * <;> omega
theorem te_convex (x y z a b c a1 b1 c1 a2 b2 c2 t0 t1 t2 : Int) (md dd pd : Bool) (h : x ≤ y) (h' : y ≤ z) (q : a < a1 ∨ (a = a1 ∧ (b < b1 ∨ (b = b1 ∧ c ≤ c1)))) (q' : a1 < a2 ∨ (a1 = a2 ∧ (b1 < b2 ∨ (b1 = b2 ∧ c1 ≤ c2)))) (x3 : x = -1 ∨ x = 0 ∨ x = 1) (y3 : y = -1 ∨ y = 0 ∨ y = 1) (z3 : z = -1 ∨ z = 0 ∨ z = 1) (hx : teB x a b t0 t1 t2 md dd pd = true) (hz : teB z a2 b2 t0 t1 t2 md dd pd = true) : teB y a1 b1 t0 t1 t2 md dd pd = true := by
  cases dd with
  | true => exact ti_convex x y z a b c a1 b1 c1 a2 b2 c2 t0 t1 t2 md pd h h' q q' x3 y3 z3 hx hz
  | false => unfold teB at *; simp at *; omega
theorem ca_convex (x y z a b c a1 b1 c1 a2 b2 c2 t0 t1 t2 : Int) (md pd : Bool) (h : x ≤ y) (h' : y ≤ z) (q : a < a1 ∨ (a = a1 ∧ (b < b1 ∨ (b = b1 ∧ c ≤ c1)))) (q' : a1 < a2 ∨ (a1 = a2 ∧ (b1 < b2 ∨ (b1 = b2 ∧ c1 ≤ c2)))) (x3 : x = -1 ∨ x = 0 ∨ x = 1) (y3 : y = -1 ∨ y = 0 ∨ y = 1) (z3 : z = -1 ∨ z = 0 ∨ z = 1) (n0 : 0 ≤ a) (n1 : 0 ≤ b) (m0 : 0 ≤ t0) (m1 : 0 ≤ t1) (k0 : 0 ≤ a1) (k1 : 0 ≤ b1) (l0 : 0 ≤ a2) (l1 : 0 ≤ b2) (hx : caB x a b c t0 t1 t2 md pd = true) (hz : caB z a2 b2 c2 t0 t1 t2 md pd = true) : caB y a1 b1 c1 t0 t1 t2 md pd = true := by
  unfold caB at *
  by_cases h0 : 0 < t0
  · simp [h0] at hx hz ⊢; omega
  · have e0 : t0 = 0 := by omega
    subst e0
    by_cases h1 : 0 < t1
    · cases md <;> cases pd <;> simp [h1] at hx hz ⊢ <;> omega
    · have e1 : t1 = 0 := by omega
      subst e1
      cases md <;> cases pd <;> simp at hx hz ⊢ <;> omega
end Go.Proofs.YtlooelfkkbgmhaaDoor
