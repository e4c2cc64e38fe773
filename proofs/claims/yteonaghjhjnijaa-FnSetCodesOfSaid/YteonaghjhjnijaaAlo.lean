/-
  What the table's loops reckon, by the plain words of Uni.
-/
import Derived.Test.YteonaghjhjnijaaUni
set_option linter.unusedVariables false
namespace Go.Proofs.Yteonaghjhjnijaa
open Go Go.RowKit
abbrev xs (l : List ByteArray) (i : Nat) : List UInt8 := L (val l i)
theorem bg_same (l : List ByteArray) (i j q : Nat) (h : q < (val l i).size) : bg (val l j) ((val l i).extract 0 q) = true ↔ Same (xs l) q i j := by
  have hz : ((val l i).extract 0 q).size = q := by rw [ByteArray.size_extract]; omega
  have hL : L ((val l i).extract 0 q) = (xs l i).take q := by rw [ext_mk, L_mk, List.drop_zero, Nat.sub_zero]
  unfold bg Same
  rw [hz, hL, beq_iff_eq]
  exact eq_comm
theorem reach_spec (l : List ByteArray) (s : ByteArray) : ∀ f j, l.length ≤ f + j → j ≤ l.length → (∀ k, j ≤ k → k < reachF l s f j → bg (val l k) s = true) ∧ (reachF l s f j < l.length → bg (val l (reachF l s f j)) s = false)
  | 0, j, h, hj => by
    refine ⟨fun k h1 h2 => ?_, fun h1 => ?_⟩
    · rw [reachF] at h2; omega
    · rw [reachF] at h1; omega
  | f + 1, j, h, hj => by
    rw [reachF]
    by_cases hc : j < l.length ∧ bg (val l j) s = true
    · rw [if_pos hc]
      have ih := reach_spec l s f (j + 1) (by omega) hc.1
      refine ⟨fun k h1 h2 => ?_, ih.2⟩
      rcases Nat.lt_or_ge j k with hk | hk
      · exact ih.1 k hk h2
      · obtain rfl : k = j := by omega
        exact hc.2
    · rw [if_neg hc]
      refine ⟨fun k h1 h2 => by omega, fun h1 => ?_⟩
      cases hb : bg (val l j) s
      · rfl
      · exact absurd ⟨h1, hb⟩ hc
theorem ext_round (a : ByteArray) (l : List ByteArray) (i : Nat) (hl : l.length ≤ 40) (hi : i < l.length) (hs : ∀ i j, i < j → j < l.length → Op.bytesLess (xs l i) (xs l j) = true) (he : ∀ j, j < l.length → (val l j).size = (val l i).size) :
    ∀ f q r, 1 ≤ f → (val l i).size < f + q → Round0 (xs l) l.length i q r (extF a l i f q r).2.1 (extF a l i f q r).2.2 ∧ ((extF a l i f q r).1 = dig a (val l i) ∨ ((extF a l i f q r).1 = (val l i).extract 0 (extF a l i f q r).2.1 ∧ (extF a l i f q r).2.1 < (val l i).size))
  | 0, q, r, h, _ => by omega
  | f + 1, q, r, h, hf => by
    rw [extF]
    by_cases hz : (val l i).size ≤ q
    · rw [if_pos hz]
      refine ⟨⟨Nat.le_refl _, fun _ => rfl, fun h => absurd h (Nat.lt_irrefl _), Or.inl rfl, Nat.le_refl _, fun h1 h2 => ?_⟩, Or.inl rfl⟩
      have h3 := hs i (i + 1) (by omega) h1
      unfold Same at h2
      rw [List.take_of_length_le (by rw [L_len]; exact hz), List.take_of_length_le (by rw [L_len, he _ h1]; exact hz)] at h2
      rw [← h2] at h3
      have irr : ∀ t : List UInt8, Op.bytesLess t t = false := fun t => by
        induction t with
        | nil => rfl
        | cons b t ih => simp [Op.bytesLess, ih, UInt8.lt_irrefl]
      rw [irr] at h3
      exact absurd h3 (by decide)
    · rw [if_neg hz]
      have hq : q < (val l i).size := by omega
      have hb := fun j => bg_same l i j q hq
      obtain ⟨s, hsd⟩ : ∃ s, s = (val l i).extract 0 q := ⟨_, rfl⟩
      have hr1 := reach_le l s 40 (i + 1) hi
      have hr2 := reach_spec l s 40 (i + 1) (by omega) hi
      rw [← hsd] at hb ⊢
      obtain ⟨m, hm⟩ : ∃ m, m = reachF l s 40 (i + 1) := ⟨_, rfl⟩
      rw [← hm] at hr1 hr2 ⊢
      by_cases hmi : m = i + 1
      · rw [if_pos hmi]
        refine ⟨⟨Nat.le_refl _, fun _ => rfl, fun h => absurd h (Nat.lt_irrefl _), Or.inl rfl, Nat.le_refl _, fun h1 h2 => ?_⟩, Or.inr ⟨hsd, hq⟩⟩
        have h3 := hr2.2 (by omega)
        rw [hmi] at h3
        rw [(hb (i + 1)).2 h2] at h3
        cases h3
      · rw [if_neg hmi]
        have hm1 : i + 1 < m := by omega
        have ih := ext_round a l i hl hi hs he f (q + 1) (max r (m - 1)) (by omega) (by omega)
        obtain ⟨⟨g0, g1, g2, g3, g4, g5⟩, g6⟩ := ih
        refine ⟨⟨by omega, fun h => by omega, fun _ j hj hjl hsm => ?_, ?_, by omega, g5⟩, g6⟩
        · rcases Nat.lt_or_ge j m with h1 | h1
          · omega
          · have h2 : Same (xs l) q i m := same_mid hs (by omega) h1 hjl hsm
            have h3 := hr2.2 (by omega)
            rw [(hb m).2 h2] at h3
            cases h3
        · have hlast : Same (xs l) q i (m - 1) := (hb (m - 1)).1 (hr2.1 (m - 1) (by omega) (by omega))
          rcases g3 with g3 | ⟨b1, b2, b3⟩
          · rcases Nat.lt_or_ge r (m - 1) with h1 | h1
            · refine Or.inr ?_
              rw [g3, Nat.max_eq_right (by omega)]
              exact ⟨by omega, by omega, hlast⟩
            · exact Or.inl (by omega)
          · exact Or.inr ⟨b1, b2, same_le b3 (by omega)⟩
theorem st_kept (a : ByteArray) (l : List ByteArray) (n : Nat) (hl : l.length ≤ 40) (hs : ∀ i j, i < j → j < l.length → Op.bytesLess (xs l i) (xs l j) = true) (he : ∀ i j, i < l.length → j < l.length → (val l j).size = (val l i).size) (hz : ∀ i, i < l.length → (val l i).size ≤ 200) : ∀ i, i ≤ l.length → Kept0 (xs l) l.length n i (stF a l n i).1 (stF a l n i).2
  | 0, _ => ⟨Nat.le_refl _, fun _ k hk => absurd hk (Nat.not_lt_zero _), Or.inl rfl, fun _ => Nat.le_refl _⟩
  | i + 1, h => by
    have ih := st_kept a l n hl hs he hz i (by omega)
    have hr := (ext_round a l i hl h hs (fun j hj => he i j h hj) 201 (stF a l n i).1 (stF a l n i).2 (by decide) (by have := hz i h; omega)).1
    have hk := kept_next hs h ih hr
    rw [stF]
    split
    · rename_i hc
      rw [if_pos hc] at hk
      exact hk
    · rename_i hc
      rw [if_neg hc] at hk
      exact hk
/-- each code is the whole digest, or a beginning of the wished length at least that means its text alone -/
theorem code_alone (a : ByteArray) (l : List ByteArray) (n : Nat) (hl : l.length ≤ 40) (hs : ∀ i j, i < j → j < l.length → Op.bytesLess (xs l i) (xs l j) = true) (he : ∀ i j, i < l.length → j < l.length → (val l j).size = (val l i).size) (hz : ∀ i, i < l.length → (val l i).size ≤ 200) (i : Nat) (hi : i < l.length) :
    codeF a l n i = dig a (val l i) ∨ (n ≤ (codeF a l n i).size ∧ bg (val l i) (codeF a l n i) = true ∧ ∀ k, k < l.length → bg (val l k) (codeF a l n i) = true → k = i) := by
  have hk := st_kept a l n hl hs he hz i (by omega)
  have hr := ext_round a l i hl hi hs (fun j hj => he i j hi hj) 201 (stF a l n i).1 (stF a l n i).2 (by decide) (by have := hz i hi; omega)
  have ha := kept_alone hs hi hk hr.1
  unfold codeF
  rcases hr.2 with h | ⟨h, hq⟩
  · exact Or.inl h
  · refine Or.inr ?_
    have hb := fun k => bg_same l i k _ hq
    rw [h]
    refine ⟨?_, (hb i).2 rfl, fun k hk hkb => ha.2 k hk (same_symm ((hb k).1 hkb))⟩
    rw [ByteArray.size_extract]
    have := ha.1
    omega
end Go.Proofs.Yteonaghjhjnijaa
