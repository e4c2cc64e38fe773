/-
  The loops of the text functions, over lists.
-/
import Derived.Test.YtgbmhkmhpmkadaaQWx4
import Derived.Lib.Strings
set_option linter.unusedVariables false
set_option linter.unusedSimpArgs false
namespace Go.Proofs.Ytgbmhkmhpmkadaa.Pure
open Go Go.RowKit Go.Proofs.Ytgbmhkmhpmkadaa Go.Proofs.Ytgbmhkmhpmkadaa.QW Go.Proofs.YtgbmhkmhpmkadaaW.PrintWords Go.Proofs.YtgbmhkmhpmkadaaW.PrintLast

abbrev L (s : ByteArray) : List UInt8 := s.data.toList
theorem L_len (s : ByteArray) : (L s).length = s.size := (Lib.size_eq s).symm
theorem L_ext {s t : ByteArray} (h : L s = L t) : s = t := ByteArray.ext (Array.ext' h)
theorem toList_L (s : ByteArray) : s.toList = L s := Lib.toList_data s
theorem bt_get (s : ByteArray) (y : Int) (h : y.toNat < (L s).length) : bt s y = (((L s)[y.toNat]).toNat : Int) := by
  unfold bt
  rw [dif_pos (by rw [← L_len]; exact h)]
  rfl
theorem drop_at {α : Type} (l : List α) (y : Int) (h0 : 0 ≤ y) (h1 : y.toNat < l.length) : l.drop y.toNat = l[y.toNat] :: l.drop (y + 1).toNat := by
  rw [List.drop_eq_getElem_cons h1, show (y + 1).toNat = y.toNat + 1 by omega]
theorem wrap_next {y n : Int} (h0 : 0 ≤ y) (h1 : y < n) (hn : n ≤ 4294967296) : wrap64 (y + 1) = y + 1 := by unfold wrap64; omega
/-- the first place of a byte -/
def fst (c : UInt8) : List UInt8 → Int → Int
  | [], _ => -1
  | x :: l, i => if x = c then i else fst c l (i + 1)
theorem fst_at (c : UInt8) (b : List UInt8) : ∀ (a : List UInt8) (i : Int), a.any (· == c) = false → fst c (a ++ c :: b) i = i + a.length
  | [], i, _ => by simp [fst]
  | x :: a, i, h => by
    simp only [List.any_cons, Bool.or_eq_false_iff, beq_eq_false_iff_ne] at h
    simp only [List.cons_append, fst, if_neg h.1, fst_at c b a (i + 1) h.2, List.length_cons]
    omega
theorem fst_none (c : UInt8) : ∀ (a : List UInt8) (i : Int), a.any (· == c) = false → fst c a i = -1
  | [], i, _ => rfl
  | x :: a, i, h => by
    simp only [List.any_cons, Bool.or_eq_false_iff, beq_eq_false_iff_ne] at h
    simp only [fst, if_neg h.1, fst_none c a (i + 1) h.2]
theorem cut_at (c : UInt8) : ∀ l : List UInt8, l.any (· == c) = true → ∃ a b, l = a ++ c :: b ∧ a.any (· == c) = false
  | [], h => by simp at h
  | x :: l, h => by
    by_cases hx : x = c
    · subst hx; exact ⟨[], l, rfl, rfl⟩
    · simp only [List.any_cons, beq_eq_false_iff_ne.2 hx, Bool.false_or] at h
      obtain ⟨a, b, e, hn⟩ := cut_at c l h
      exact ⟨x :: a, b, by rw [e]; rfl, by simp only [List.any_cons, beq_eq_false_iff_ne.2 hx, Bool.false_or]; exact hn⟩
theorem fst_lt (c : UInt8) (l : List UInt8) : decide (fst c l 0 < 0) = !(l.any (· == c)) := by
  cases h : l.any (· == c)
  · rw [fst_none c l 0 h]; rfl
  · obtain ⟨a, b, e, hn⟩ := cut_at c l h
    rw [e, fst_at c b a 0 hn]
    simp
theorem first_loop (s : ByteArray) (c : UInt8) (hn : s.size ≤ 2147483647) : ∀ (k : Nat) (y : Int), 0 ≤ y → y ≤ s.size → (s.size : Int) < y + k → spec_RefFirst.l0 k s (c.toNat : Int) y = some (fst c ((L s).drop y.toNat) y)
  | 0, y, h0, h1, h2 => by omega
  | k + 1, y, h0, h1, h2 => by
    rw [spec_RefFirst.l0]
    by_cases h : y < (s.size : Int)
    · have hl : y.toNat < (L s).length := by rw [L_len]; omega
      rw [if_pos h, if_pos h0, bt_get s y hl, drop_at _ y h0 hl, fst]
      by_cases hc : (L s)[y.toNat] = c
      · rw [if_pos (by rw [hc]), if_pos hc]
      · rw [if_neg (fun h => hc (UInt8.toNat.inj (by exact_mod_cast h))), if_neg hc, wrap_next h0 h (by omega)]
        exact first_loop s c hn k (y + 1) (by omega) (by omega) (by omega)
    · rw [if_neg h, List.drop_eq_nil_of_le (by rw [L_len]; omega), fst]
theorem first_ok (s : ByteArray) (c : UInt8) (hn : s.size ≤ 2147483647) (k : Nat) (hk : s.size < k) : spec_RefFirst.f k s (c.toNat : Int) = some (fst c (L s) 0) := by
  unfold spec_RefFirst.f
  exact first_loop s c hn k 0 (by omega) (by omega) (by omega)
theorem plain_loop (s : ByteArray) (hn : s.size ≤ 2147483647) : ∀ (k : Nat) (y : Int), 0 ≤ y → y ≤ s.size → (s.size : Int) < y + k → laws_refPlain.l0 k s y = some (((L s).drop y.toNat).all fun b => decide (b.toNat < 128))
  | 0, y, h0, h1, h2 => by omega
  | k + 1, y, h0, h1, h2 => by
    rw [laws_refPlain.l0]
    by_cases h : y < (s.size : Int)
    · have hl : y.toNat < (L s).length := by rw [L_len]; omega
      rw [if_pos h, if_pos h0, bt_get s y hl, drop_at _ y h0 hl, List.all_cons]
      by_cases hc : (((L s)[y.toNat]).toNat : Int) ≥ 128
      · rw [if_pos hc, decide_eq_false (by omega), Bool.false_and]
      · rw [if_neg hc, decide_eq_true (by omega), Bool.true_and, wrap_next h0 h (by omega)]
        exact plain_loop s hn k (y + 1) (by omega) (by omega) (by omega)
    · rw [if_neg h, List.drop_eq_nil_of_le (by rw [L_len]; omega)]
      rfl
theorem plain_ok (s : ByteArray) (hn : s.size ≤ 2147483647) (k : Nat) (hk : s.size < k) : laws_refPlain.f k s = some (plainB s) := by
  unfold laws_refPlain.f
  exact plain_loop s hn k 0 (by omega) (by omega) (by omega)
theorem index_loop (s : ByteArray) (hn : s.size ≤ 2147483647) : ∀ (k : Nat) (y : Int), 0 ≤ y → y ≤ s.size → (s.size : Int) < y + k → reference_zzIndex.l0 k s ⟨#[47]⟩ y = some (fst 47 ((L s).drop y.toNat) y)
  | 0, y, h0, h1, h2 => by omega
  | k + 1, y, h0, h1, h2 => by
    have e1 : (((⟨#[47]⟩ : ByteArray).size : Nat) : Int) = 1 := rfl
    rw [reference_zzIndex.l0, e1, wrap_next (n := 2147483648) h0 (by omega) (by omega)]
    by_cases h : y + 1 ≤ (s.size : Int)
    · have hl : y.toNat < (L s).length := by rw [L_len]; omega
      rw [if_pos h, if_pos h0, if_pos (by omega), Lib.extract_toList, toList_L, show (y + 1).toNat - y.toNat = 1 by omega, drop_at _ y h0 hl, fst]
      by_cases hc : (L s)[y.toNat] = 47
      · rw [if_pos (by rw [hc]; rfl), if_pos hc]
      · rw [if_neg (fun h => hc (List.head_eq_of_cons_eq (show [(L s)[y.toNat]] = [47] from h))), if_neg hc]
        exact index_loop s hn k (y + 1) (by omega) (by omega) (by omega)
    · rw [if_neg h, List.drop_eq_nil_of_le (by rw [L_len]; omega), fst]
theorem index_ok (s : ByteArray) (hn : s.size ≤ 2147483647) (k : Nat) (hk : s.size < k) : reference_zzIndex.f k s ⟨#[47]⟩ = some (fst 47 (L s) 0) := by
  unfold reference_zzIndex.f
  exact index_loop s hn k 0 (by omega) (by omega) (by omega)
theorem set_take {α : Type} (l : List α) (n : Nat) (v : α) (h : n < l.length) : (l.set n v).take (n + 1) = l.take n ++ [v] := by
  rw [List.take_succ_eq_append_getElem (by rw [List.length_set]; exact h), List.getElem_set_self, List.take_set_of_le (Nat.le_refl n)]
theorem lowL_next (s : ByteArray) (n : Nat) (h : n < (L s).length) : lowL s (n + 1) = lowL s n ++ [lowI ((L s)[n]).toNat] := by
  unfold lowL
  rw [List.take_succ_eq_append_getElem h, List.map_append]
  rfl
theorem small_loop (s : ByteArray) (hn : s.size ≤ 2147483647) : ∀ (k : Nat) (y : Int) (x : List Int), 0 ≤ y → y ≤ s.size → (s.size : Int) < y + k → x.length = s.size → x.take y.toNat = lowL s y.toNat → spec_RefSmall.l0 k s x s.size y = some (strOfNums (lowL s s.size))
  | 0, y, x, h0, h1, h2, hx, hy => by omega
  | k + 1, y, x, h0, h1, h2, hx, hy => by
    rw [spec_RefSmall.l0]
    by_cases h : y < (s.size : Int)
    · have hl : y.toNat < (L s).length := by rw [L_len]; omega
      have hxl : y.toNat < x.length := by omega
      have hb : 0 ≤ bt s y ∧ bt s y ≤ 255 := bt_range s y
      have e1 : (y + 1).toNat = y.toNat + 1 := by omega
      rw [if_pos h, if_pos h0, if_pos h, if_pos (by omega), Option.bind_some, wrap_next h0 h (by omega)]
      have hrd : rd (x.set y.toNat (bt s y)) y = bt s y := by
        simp [rd, rdOf, List.getD_eq_getElem?_getD, hxl]
      have hlow : lowL s (y + 1).toNat = lowL s y.toNat ++ [lowI (bt s y)] := by rw [e1, lowL_next s _ hl, bt_get s y hl]
      by_cases h65 : 65 ≤ bt s y
      · rw [if_pos h65]
        by_cases h90 : bt s y ≤ 90
        · rw [if_pos h90]
          refine small_loop s hn k (y + 1) _ (by omega) (by omega) (by omega) (by simp [hx]) ?_
          rw [hlow, e1, List.set_set, set_take _ _ _ hxl, hy, hrd]
          congr 2
          unfold lowI
          rw [if_pos ⟨h65, h90⟩]
          omega
        · rw [if_neg h90]
          refine small_loop s hn k (y + 1) _ (by omega) (by omega) (by omega) (by simp [hx]) ?_
          rw [hlow, e1, set_take _ _ _ hxl, hy]
          congr 2
          unfold lowI
          rw [if_neg (fun h => h90 h.2)]
      · rw [if_neg h65]
        refine small_loop s hn k (y + 1) _ (by omega) (by omega) (by omega) (by simp [hx]) ?_
        rw [hlow, e1, set_take _ _ _ hxl, hy]
        congr 2
        unfold lowI
        rw [if_neg (fun h => h65 h.1)]
    · rw [if_neg h]
      have e1 : y.toNat = s.size := by omega
      rw [e1, List.take_of_length_le (by omega)] at hy
      rw [hy]
theorem small_ok (s : ByteArray) (hn : s.size ≤ 2147483647) (k : Nat) (hk : s.size < k) : spec_RefSmall.f k s = some (strOfNums (lowL s s.size)) := by
  unfold spec_RefSmall.f
  rw [if_pos (by omega), if_pos (by omega), Option.bind_some, List.length_replicate]
  exact small_loop s hn k 0 _ (by omega) (by omega) (by omega) (by simp) (by simp [lowL])
end Go.Proofs.Ytgbmhkmhpmkadaa.Pure
