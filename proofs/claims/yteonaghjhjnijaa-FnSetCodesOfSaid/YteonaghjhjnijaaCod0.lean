/-
  A table of short codes, in plain words: what the loops of ShortCodeTable reckon.
-/
import Derived.Test.YteonaghjhjnijaaZst
set_option linter.unusedVariables false
set_option linter.unusedSimpArgs false
namespace Go.Proofs.Yteonaghjhjnijaa
open Go Go.RowKit Go.Proofs.YteonaghjhjnijaaW.PrintWords Go.Proofs.YteonaghjhjnijaaW.PrintLast Go.Proofs.Yteonaghjhjnijaa.QK
/-- the i-th text; a digest's text; v begins with s -/
def val (l : List ByteArray) (i : Nat) : ByteArray := l.getD i ByteArray.empty
def dig (a v : ByteArray) : ByteArray := a ++ ⟨#[58]⟩ ++ v
def bg (v s : ByteArray) : Bool := (L v).take s.size == L s
/-- the first position from j on whose text does not begin with s -/
def reachF (l : List ByteArray) (s : ByteArray) : Nat → Nat → Nat
  | 0, j => j
  | f + 1, j => if j < l.length ∧ bg (val l j) s = true then reachF l s f (j + 1) else j
/-- the code of the i-th text, the length and the mark behind it -/
def extF (a : ByteArray) (l : List ByteArray) (i : Nat) : Nat → Nat → Nat → ByteArray × Nat × Nat
  | 0, q, r => (ByteArray.empty, q, r)
  | f + 1, q, r =>
    if (val l i).size ≤ q then (dig a (val l i), q, r)
    else if reachF l ((val l i).extract 0 q) 40 (i + 1) = i + 1 then ((val l i).extract 0 q, q, r)
    else extF a l i f (q + 1) (max r (reachF l ((val l i).extract 0 q) 40 (i + 1) - 1))
/-- the length and the mark ahead of the i-th text -/
def stF (a : ByteArray) (l : List ByteArray) (n : Nat) : Nat → Nat × Nat
  | 0 => (n, 0)
  | i + 1 =>
    if (extF a l i 201 (stF a l n i).1 (stF a l n i).2).2.2 ≤ i then (n, (extF a l i 201 (stF a l n i).1 (stF a l n i).2).2.2)
    else ((extF a l i 201 (stF a l n i).1 (stF a l n i).2).2.1, (extF a l i 201 (stF a l n i).1 (stF a l n i).2).2.2)
def codeF (a : ByteArray) (l : List ByteArray) (n i : Nat) : ByteArray := (extF a l i 201 (stF a l n i).1 (stF a l n i).2).1
theorem pre_bg (v s : ByteArray) : strings_HasPrefix.f v s = some (bg v s) := by
  unfold strings_HasPrefix.f stringslite_HasPrefix.f bg
  by_cases hs : (v.size : Int) ≥ (s.size : Int)
  · rw [if_pos hs, if_pos (by omega), if_pos (by omega)]
    show some _ = some _
    congr 1
    rw [ext_mk, toList_L, L_mk, toList_L]
    rw [List.drop_zero, Int.toNat_natCast, Nat.sub_zero]
  · rw [if_neg hs]
    show some false = some _
    congr 1
    refine (beq_eq_false_iff_ne.2 (fun h => ?_)).symm
    have h1 := congrArg List.length h
    rw [List.length_take, L_len, L_len] at h1
    omega
theorem csm (a v s : ByteArray) : digestset_checkShortMatch.f a v ⟨#[]⟩ s = some (bg v s) := by
  unfold digestset_checkShortMatch.f
  have he : ¬ (((⟨#[]⟩ : ByteArray).size : Int) > 0) := by decide
  by_cases h : (v.size : Int) = (s.size : Int)
  · rw [if_pos h]
    have hb : bg v s = decide (v.toList = s.toList) := by
      unfold bg
      rw [List.take_of_length_le (by rw [L_len]; omega), toList_L, toList_L]
      by_cases h2 : L v = L s
      · rw [h2]; simp
      · rw [beq_eq_false_iff_ne.2 h2, decide_eq_false h2]
    rw [hb]
    by_cases h2 : v.toList = s.toList
    · rw [if_pos h2, if_neg he, decide_eq_true h2]
    · rw [if_neg h2, decide_eq_false h2]
  · rw [if_neg h, pre_bg]
    show (if bg v s = true then _ else _) = _
    cases bg v s
    · rfl
    · rw [if_pos rfl, if_neg he]
theorem reach_le (l : List ByteArray) (s : ByteArray) : ∀ f j, j ≤ l.length → reachF l s f j ≤ l.length ∧ j ≤ reachF l s f j
  | 0, j, h => ⟨h, Nat.le_refl _⟩
  | f + 1, j, h => by
    rw [reachF]
    split
    · rename_i h1
      have := reach_le l s f (j + 1) h1.1
      omega
    · exact ⟨h, Nat.le_refl _⟩
theorem ext_bounds (a : ByteArray) (l : List ByteArray) (i : Nat) (hi : i < l.length) (hs : (val l i).size ≤ 200) : ∀ f q r, q ≤ 200 → r ≤ l.length → (extF a l i f q r).2.1 ≤ 200 ∧ (extF a l i f q r).2.2 ≤ l.length
  | 0, q, r, hq, hr => ⟨hq, hr⟩
  | f + 1, q, r, hq, hr => by
    rw [extF]
    split
    · exact ⟨hq, hr⟩
    · split
      · exact ⟨hq, hr⟩
      · have h1 := (reach_le l ((val l i).extract 0 q) 40 (i + 1) hi).1
        exact ext_bounds a l i hi hs f (q + 1) _ (by omega) (by omega)
theorem st_bounds (a : ByteArray) (l : List ByteArray) (n : Nat) (hn : n ≤ 200) (hs : ∀ i, i < l.length → (val l i).size ≤ 200) : ∀ i, i ≤ l.length → (stF a l n i).1 ≤ 200 ∧ (stF a l n i).2 ≤ l.length
  | 0, _ => ⟨hn, Nat.zero_le _⟩
  | i + 1, h => by
    have ih := st_bounds a l n hn hs i (by omega)
    have h1 := ext_bounds a l i (by omega) (hs i (by omega)) 201 _ _ ih.1 ih.2
    rw [stF]
    split
    · exact ⟨hn, h1.2⟩
    · exact h1
theorem reach_stop (l : List ByteArray) (s : ByteArray) (f j : Nat) (h : ¬ (j < l.length ∧ bg (val l j) s = true)) : reachF l s f j = j := by
  cases f with
  | zero => rfl
  | succ f => rw [reachF, if_neg h]
theorem reach_step (l : List ByteArray) (s : ByteArray) (f j m : Nat) (h : j < l.length) (hb : bg (val l j) s = true) (hr : reachF l s f j = m) (hf : l.length ≤ f + j) : ∃ f', reachF l s f' (j + 1) = m ∧ l.length ≤ f' + (j + 1) := by
  cases f with
  | zero => omega
  | succ f =>
    rw [reachF, if_pos ⟨h, hb⟩] at hr
    exact ⟨f, hr, by omega⟩
theorem ext_whole (a : ByteArray) (l : List ByteArray) (i f q r : Nat) (hf : 1 ≤ f) (h : (val l i).size ≤ q) : extF a l i f q r = (dig a (val l i), q, r) := by
  cases f with
  | zero => omega
  | succ f => rw [extF, if_pos h]
theorem ext_found (a : ByteArray) (l : List ByteArray) (i f q r : Nat) (hf : 1 ≤ f) (h : ¬ (val l i).size ≤ q) (hm : reachF l ((val l i).extract 0 q) 40 (i + 1) = i + 1) : extF a l i f q r = ((val l i).extract 0 q, q, r) := by
  cases f with
  | zero => omega
  | succ f => rw [extF, if_neg h, if_pos hm]
theorem ext_on (a : ByteArray) (l : List ByteArray) (i f q r m : Nat) (hf : 1 ≤ f) (h : ¬ (val l i).size ≤ q) (hm : reachF l ((val l i).extract 0 q) 40 (i + 1) = m) (hn : m ≠ i + 1) : extF a l i f q r = extF a l i (f - 1) (q + 1) (max r (m - 1)) := by
  cases f with
  | zero => omega
  | succ f => rw [extF, if_neg h, hm, if_neg hn]; rfl
theorem ext_size (a : ByteArray) (l : List ByteArray) (i : Nat) : ∀ f q r, (extF a l i f q r).1.size ≤ a.size + 1 + (val l i).size
  | 0, q, r => Nat.zero_le _
  | f + 1, q, r => by
    rw [extF]
    split
    · unfold dig
      rw [ByteArray.size_append, ByteArray.size_append]
      exact Nat.le_refl _
    · split
      · show ((val l i).extract 0 q).size ≤ _
        rw [ByteArray.size_extract]
        omega
      · exact ext_size a l i f _ _
theorem st_next (a : ByteArray) (l : List ByteArray) (n i q r q1 r1 : Nat) (s : ByteArray) (h : stF a l n i = (q, r)) (hE : extF a l i 201 q r = (s, q1, r1)) : stF a l n (i + 1) = (if r1 ≤ i then n else q1, r1) ∧ codeF a l n i = s := by
  constructor
  · rw [stF, h]
    simp only [hE]
    split <;> rfl
  · unfold codeF
    rw [h]
    simp only [hE]
end Go.Proofs.Yteonaghjhjnijaa
