/-
  What terms say of releases, as arithmetic.
-/
import Derived.Test.YtlooelfkkbgmhaaDoorVer
import Derived.Test.YtlooelfkkbgmhaaDoorConTerm
import Derived.Test.YtlooelfkkbgmhaaDoorGivTerms
set_option linter.unusedVariables false
set_option linter.unusedSimpArgs false
namespace Go.Proofs.YtlooelfkkbgmhaaDoor
open Go Txt Go.RowKit QS Go.Proofs.YtlooelfkkbgmhaaDoorW.PrintWords Go.Proofs.YtlooelfkkbgmhaaDoorW.PrintLast

/-- three numbers compared -/
def c3 (a b c a' b' c' : Int) : Int := if a < a' then -1 else if a' < a then 1 else if b < b' then -1 else if b' < b then 1 else if c < c' then -1 else if c' < c then 1 else 0
theorem cmpF_rel (a b c a' b' c' r : Int) : cmpF a b c a' b' c' ⟨#[]⟩ ⟨#[]⟩ r = c3 a b c a' b' c' := by
  unfold cmpF c3 segF
  rw [if_pos empty_list, if_pos empty_list]
  grind
/-- what an operator ahead of k numbers says of a release -/
def relB (op k a' b' c' a b c : Int) : Bool := opB op (c3 a b c a' (if 1 < k then b' else 0) (if 2 < k then c' else 0)) a b c a' (if 1 < k then b' else 0) (if 2 < k then c' else 0) 0 ⟨#[]⟩ ⟨#[]⟩ (k == 1) (decide (k < 3)) (k == 2)
theorem opB_rel (op cm a b c a' b' c' r : Int) (md dd pd : Bool) : opB op cm a b c a' b' c' r ⟨#[]⟩ ⟨#[]⟩ md dd pd = opB op cm a b c a' b' c' 0 ⟨#[]⟩ ⟨#[]⟩ md dd pd := by
  unfold opB neB
  simp [empty_list]
theorem gate_rel (pre : Bool) : gate ⟨#[]⟩ pre = false := by unfold gate; rw [empty_list]; rfl

theorem ev_termRel (op k a' b' c' a b c : Int) (m : ByteArray) (pre : Bool) (h0 : 0 ≤ op) (h8 : op < 8) (hk0 : 0 ≤ k) (hk : k ≤ 3) :
    Ev (fun n => impl_TermHolds.f n op k a' (if 1 < k then b' else 0) (if 2 < k then c' else 0) ⟨#[]⟩ a b c ⟨#[]⟩ m pre) (relB op k a' b' c' a b c) := by
  unfold impl_TermHolds.f
  refine Ev.congr (fun n => if_pos ⟨hk0, hk, h0, h8⟩) ?_
  refine Ev.bind (ev_cmpPre ⟨#[]⟩ ⟨#[]⟩ (by decide) (by decide)) ?_
  refine Ev.congr (fun n => ?_) (Ev.now _)
  rw [gate_rel, cmpF_rel, opB_rel]
  simp [relB]

theorem rel_0 (k a' b' c' a b c : Int) : relB 0 k a' b' c' a b c = teB (c3 a b c a' (if 1 < k then b' else 0) (if 2 < k then c' else 0)) a b a' (if 1 < k then b' else 0) (if 2 < k then c' else 0) (k == 1) (decide (k < 3)) (k == 2) := rfl
theorem rel_1 (k a' b' c' a b c : Int) : relB 1 k a' b' c' a b c = neB (c3 a b c a' (if 1 < k then b' else 0) (if 2 < k then c' else 0)) a b c a' (if 1 < k then b' else 0) (if 2 < k then c' else 0) 0 ⟨#[]⟩ ⟨#[]⟩ (k == 1) (decide (k < 3)) (k == 2) := rfl
theorem rel_2 (k a' b' c' a b c : Int) : relB 2 k a' b' c' a b c = gtB (c3 a b c a' (if 1 < k then b' else 0) (if 2 < k then c' else 0)) a b a' (if 1 < k then b' else 0) (k == 1) (decide (k < 3)) (k == 2) := rfl
theorem rel_3 (k a' b' c' a b c : Int) : relB 3 k a' b' c' a b c = ltB (c3 a b c a' (if 1 < k then b' else 0) (if 2 < k then c' else 0)) := rfl
theorem rel_4 (k a' b' c' a b c : Int) : relB 4 k a' b' c' a b c = geB (c3 a b c a' (if 1 < k then b' else 0) (if 2 < k then c' else 0)) := rfl
theorem rel_5 (k a' b' c' a b c : Int) : relB 5 k a' b' c' a b c = leB (c3 a b c a' (if 1 < k then b' else 0) (if 2 < k then c' else 0)) a b a' (if 1 < k then b' else 0) (k == 1) (decide (k < 3)) := rfl
theorem rel_6 (k a' b' c' a b c : Int) : relB 6 k a' b' c' a b c = tiB (c3 a b c a' (if 1 < k then b' else 0) (if 2 < k then c' else 0)) a b a' (if 1 < k then b' else 0) (if 2 < k then c' else 0) (k == 1) (k == 2) := rfl
theorem rel_7 (k a' b' c' a b c : Int) : relB 7 k a' b' c' a b c = caB (c3 a b c a' (if 1 < k then b' else 0) (if 2 < k then c' else 0)) a b c a' (if 1 < k then b' else 0) (if 2 < k then c' else 0) (k == 1) (k == 2) := rfl

theorem more_fewer (op k a' b' c' a b c : Int) (h : op = 0 ∨ op = 4 ∨ op = 5 ∨ op = 6 ∨ op = 7) (hk : k = 2 ∨ k = 3) (hz : op = 6 → ¬ (a' = 0 ∧ b' = 0 ∧ c' = 0)) (ha' : 0 ≤ a') (hb' : 0 ≤ b') (hc' : 0 ≤ c') (ha : 0 ≤ a) (hb : 0 ≤ b) (hc : 0 ≤ c)
    (hm : relB op k a' b' c' a b c = true) : relB op (k - 1) a' b' c' a b c = true := by
  rcases h with rfl | rfl | rfl | rfl | rfl
  · rw [rel_0] at hm ⊢; rcases hk with rfl | rfl <;> simp [teB, tiB, c3] at hm ⊢ <;> grind
  · rw [rel_4] at hm ⊢; rcases hk with rfl | rfl <;> simp [geB, c3] at hm ⊢ <;> grind
  · rw [rel_5] at hm ⊢; rcases hk with rfl | rfl <;> simp [leB, c3] at hm ⊢ <;> grind
  · rw [rel_6] at hm ⊢; rcases hk with rfl | rfl <;> simp [tiB, c3] at hm ⊢ <;> grind
  · rw [rel_7] at hm ⊢; rcases hk with rfl | rfl <;> simp [caB, c3] at hm ⊢ <;> grind
theorem fewer_more (op k a' b' c' a b c : Int) (h : op = 1 ∨ op = 2 ∨ op = 3) (hk : k = 2 ∨ k = 3) (ha' : 0 ≤ a') (hb' : 0 ≤ b') (hc' : 0 ≤ c') (ha : 0 ≤ a) (hb : 0 ≤ b) (hc : 0 ≤ c)
    (hm : relB op (k - 1) a' b' c' a b c = true) : relB op k a' b' c' a b c = true := by
  rcases h with rfl | rfl | rfl
  · rw [rel_1] at hm ⊢; rcases hk with rfl | rfl <;> simp [neB, c3, empty_list] at hm ⊢ <;> grind
  · rw [rel_2] at hm ⊢; rcases hk with rfl | rfl <;> simp [gtB, c3] at hm ⊢ <;> grind
  · rw [rel_3] at hm ⊢; rcases hk with rfl | rfl <;> simp [ltB, c3] at hm ⊢ <;> grind
theorem most_self (k a b c : Int) (hk : k = 1 ∨ k = 2 ∨ k = 3) : relB 5 k a b c a b c = true := by
  rw [rel_5]; rcases hk with rfl | rfl | rfl <;> simp [leB, c3]
end Go.Proofs.YtlooelfkkbgmhaaDoor
