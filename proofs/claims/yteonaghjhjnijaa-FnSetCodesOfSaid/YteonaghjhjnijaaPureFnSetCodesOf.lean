/-
  What the law of short codes computes is true.
-/
import Derived.Test.YteonaghjhjnijaaQWx3
import Derived.Test.YteonaghjhjnijaaAlo
set_option linter.unusedVariables false
namespace Go.Proofs.Yteonaghjhjnijaa.fnSetCodesOf
open Go.RowKit Go.Proofs.YteonaghjhjnijaaW.PrintWords Go.Proofs.Yteonaghjhjnijaa.QW

end Go.Proofs.Yteonaghjhjnijaa.fnSetCodesOf
namespace Go.Proofs.Yteonaghjhjnijaa.Pure
open Go Go.RowKit Go.Proofs.Yteonaghjhjnijaa Go.Proofs.Yteonaghjhjnijaa.QW Go.Proofs.YteonaghjhjnijaaW.PrintWords Go.Proofs.YteonaghjhjnijaaW.PrintLast Go.Proofs.Yteonaghjhjnijaa.fnSetCodesOf

theorem rd_val (l : List ByteArray) (i : Nat) : rdOf ByteArray.empty l (i : Int) = val l i := by
  unfold rdOf val
  rw [Int.toNat_natCast]
theorem next_i (i : Nat) (h : i < 2147483647) : wrap64 ((i : Int) + 1) = ((i + 1 : Nat) : Int) := by
  unfold wrap64
  omega
theorem fits_some (l : List ByteArray) (hn : l.length ≤ 2147483647) : ∀ (d k i : Nat), d < k → l.length - i = d → ∃ b, laws_zzFits2.l0 k l (l.length : Int) (i : Int) = some b := by
  intro d
  induction d with
  | zero =>
    intro k i hk hd
    obtain ⟨k, rfl⟩ : ∃ k', k = k' + 1 := ⟨k - 1, by omega⟩
    refine ⟨true, ?_⟩
    simp only [laws_zzFits2.l0]
    rw [if_neg (by omega)]
  | succ d ih =>
    intro k i hk hd
    obtain ⟨k, rfl⟩ : ∃ k', k = k' + 1 := ⟨k - 1, by omega⟩
    obtain ⟨b, hb⟩ := ih k (i + 1) (by omega) (by omega)
    rw [laws_zzFits2.l0, if_pos (by omega), if_pos (by omega), if_pos (by omega), next_i i (by omega), hb]
    split
    · exact ⟨false, rfl⟩
    · exact ⟨b, rfl⟩
theorem asc_some (l : List ByteArray) (hn : l.length ≤ 2147483647) : ∀ (d k i : Nat), d < k → l.length - i = d → ∃ b, laws_setAscends.l0 k l l (l.length : Int) (i : Int) = some b ∧ (b = true → l.length ≤ 40 ∧ ∀ j, i ≤ j → j < l.length → (val l j).size ≤ 200 ∧ (0 < j → Op.bytesLess (xs l (j - 1)) (xs l j) = true)) := by
  intro d
  induction d with
  | zero =>
    intro k i hk hd
    obtain ⟨k, rfl⟩ : ∃ k', k = k' + 1 := ⟨k - 1, by omega⟩
    refine ⟨decide ((l.length : Int) ≤ 40), ?_, fun h => ⟨by have := of_decide_eq_true h; omega, fun j h1 h2 => by omega⟩⟩
    simp only [laws_setAscends.l0]
    rw [if_neg (by omega)]
  | succ d ih =>
    intro k i hk hd
    obtain ⟨k, rfl⟩ : ∃ k', k = k' + 1 := ⟨k - 1, by omega⟩
    obtain ⟨b, hb, hbt⟩ := ih k (i + 1) (by omega) (by omega)
    rw [laws_setAscends.l0, if_pos (by omega), if_pos (by omega), if_pos (by omega), next_i i (by omega), hb, rd_val]
    by_cases h1 : (val l i).toList = ([] : List UInt8)
    · rw [if_pos h1]; exact ⟨false, rfl, fun h => absurd h (by decide)⟩
    rw [if_neg h1]
    by_cases h2 : ((val l i).size : Int) > 200
    · rw [if_pos h2]; exact ⟨false, rfl, fun h => absurd h (by decide)⟩
    rw [if_neg h2]
    by_cases h3 : (i : Int) > 0
    · have hw : wrap64 ((i : Int) - 1) = ((i - 1 : Nat) : Int) := by unfold wrap64; omega
      rw [if_pos h3, hw, if_pos (by omega), if_pos (by omega), rd_val, toList_L, toList_L]
      by_cases h4 : Op.bytesLess (L (val l (i - 1))) (L (val l i)) = true
      · rw [if_pos h4]
        refine ⟨b, rfl, fun h => ⟨(hbt h).1, fun j g1 g2 => ?_⟩⟩
        rcases Nat.lt_or_ge i j with g3 | g3
        · exact (hbt h).2 j g3 g2
        · obtain rfl : j = i := by omega
          exact ⟨by omega, fun _ => h4⟩
      · rw [if_neg h4]; exact ⟨false, rfl, fun h => absurd h (by decide)⟩
    · rw [if_neg h3]
      refine ⟨b, rfl, fun h => ⟨(hbt h).1, fun j g1 g2 => ?_⟩⟩
      rcases Nat.lt_or_ge i j with g3 | g3
      · exact (hbt h).2 j g3 g2
      · obtain rfl : j = i := by omega
        exact ⟨by omega, fun h => by omega⟩
theorem even_some (l : List ByteArray) (hn : l.length ≤ 2147483647) : ∀ (d k i : Nat), d < k → l.length - i = d → ∃ b, laws_setEven.l0 k l l (l.length : Int) (i : Int) = some b ∧ (b = true → ∀ j, i ≤ j → j < l.length → (val l j).size = (val l 0).size) := by
  intro d
  induction d with
  | zero =>
    intro k i hk hd
    obtain ⟨k, rfl⟩ : ∃ k', k = k' + 1 := ⟨k - 1, by omega⟩
    refine ⟨true, ?_, fun h j h1 h2 => by omega⟩
    simp only [laws_setEven.l0]
    rw [if_neg (by omega)]
  | succ d ih =>
    intro k i hk hd
    obtain ⟨k, rfl⟩ : ∃ k', k = k' + 1 := ⟨k - 1, by omega⟩
    obtain ⟨b, hb, hbt⟩ := ih k (i + 1) (by omega) (by omega)
    have h0 : rdOf ByteArray.empty l 0 = val l 0 := rd_val l 0
    rw [laws_setEven.l0, if_pos (by omega), if_pos (by omega), if_pos (by omega), if_pos (by omega), next_i i (by omega), hb, rd_val, h0]
    by_cases h1 : ((val l i).size : Int) = ((val l 0).size : Int)
    · rw [if_pos h1]
      refine ⟨b, rfl, fun h j g1 g2 => ?_⟩
      rcases Nat.lt_or_ge i j with g3 | g3
      · exact hbt h j g3 g2
      · obtain rfl : j = i := by omega
        omega
    · rw [if_neg h1]; exact ⟨false, rfl, fun h => absurd h (by decide)⟩
theorem begins_bg (v s : ByteArray) : spec_refBegins.f v s = some (bg v s) := by
  unfold spec_refBegins.f bg
  by_cases hs : (v.size : Int) ≥ (s.size : Int)
  · rw [if_pos hs, if_pos (by omega), if_pos (by omega)]
    congr 1
    rw [ext_mk, toList_L, L_mk, toList_L]
    rw [List.drop_zero, Int.toNat_natCast, Nat.sub_zero]
  · rw [if_neg hs]
    congr 1
    refine (beq_eq_false_iff_ne.2 (fun h => ?_)).symm
    have h1 := congrArg List.length h
    rw [List.length_take, L_len, L_len] at h1
    omega
theorem drop_val (l : List ByteArray) (i : Nat) (h : i < l.length) : l.drop i = val l i :: l.drop (i + 1) := by
  rw [List.drop_eq_getElem_cons h]
  unfold val
  rw [List.getD_eq_getElem?_getD, List.getElem?_eq_getElem h]
  rfl
theorem meant_some (l : List ByteArray) (c : ByteArray) (hn : l.length ≤ 40) : ∀ (d k i : Nat) (acc : List ByteArray), d < k → l.length - i = d → acc.length ≤ i → spec_SetMeantIn.l0 k c acc l (l.length : Int) (i : Int) = some (acc ++ (l.drop i).filter (fun e => bg e c)) := by
  intro d
  induction d with
  | zero =>
    intro k i acc hk hd ha
    obtain ⟨k, rfl⟩ : ∃ k', k = k' + 1 := ⟨k - 1, by omega⟩
    simp only [spec_SetMeantIn.l0]
    rw [if_neg (by omega), List.drop_eq_nil_of_le (by omega), List.filter_nil, List.append_nil]
  | succ d ih =>
    intro k i acc hk hd ha
    obtain ⟨k, rfl⟩ : ∃ k', k = k' + 1 := ⟨k - 1, by omega⟩
    rw [spec_SetMeantIn.l0, if_pos (by omega), if_pos (by omega), if_pos (by omega), next_i i (by omega), rd_val, begins_bg, Option.bind_some, drop_val l i (by omega)]
    by_cases hb : bg (val l i) c = true
    · rw [if_pos hb, if_pos (by omega), ih k (i + 1) _ (by omega) (by omega) (by rw [List.length_append, List.length_singleton]; omega), List.filter_cons, if_pos hb, List.append_assoc]
      rfl
    · rw [if_neg hb, ih k (i + 1) _ (by omega) (by omega) (by omega), List.filter_cons, if_neg hb]
theorem filter_one (l : List ByteArray) (p : ByteArray → Bool) : ∀ (d i j : Nat), l.length - j = d → j ≤ i → i < l.length → p (val l i) = true → (∀ k, k < l.length → p (val l k) = true → k = i) → (l.drop j).filter p = [val l i] := by
  intro d
  induction d with
  | zero => intro i j hd h1 h2; omega
  | succ d ih =>
    intro i j hd h1 h2 hp hu
    rw [drop_val l j (by omega)]
    by_cases hj : j = i
    · subst hj
      rw [List.filter_cons_of_pos hp]
      congr 1
      rw [List.filter_eq_nil_iff]
      intro v hv hpv
      obtain ⟨m, hm, rfl⟩ := List.getElem_of_mem hv
      rw [List.length_drop] at hm
      have hv2 : (l.drop (j + 1))[m]'(by rw [List.length_drop]; exact hm) = val l (j + 1 + m) := by
        rw [List.getElem_drop]
        unfold val
        rw [List.getD_eq_getElem?_getD, List.getElem?_eq_getElem (by omega)]
        rfl
      rw [hv2] at hpv
      have := hu (j + 1 + m) (by omega) hpv
      omega
    · have hn : ¬ p (val l j) = true := fun h => hj (hu j (by omega) h)
      rw [List.filter_cons_of_neg hn]
      exact ih i (j + 1) (by omega) (by omega) h2 hp hu
theorem rd_codes (a : ByteArray) (l : List ByteArray) (n i : Nat) (h : i < l.length) : rdOf ByteArray.empty (codesL a l n l.length) (i : Int) = codeF a l n i := by
  unfold rdOf codesL
  rw [Int.toNat_natCast, List.getD_eq_getElem?_getD, List.getElem?_map, List.getElem?_range h]
  rfl
theorem loop_true (a : ByteArray) (l : List ByteArray) (n : Nat) (ha : a.size ≤ 50) (hn : l.length ≤ 40) (hz : ∀ i, i < l.length → (val l i).size ≤ 200) (hs : ∀ i j, i < j → j < l.length → Op.bytesLess (xs l i) (xs l j) = true) (he : ∀ i j, i < l.length → j < l.length → (val l j).size = (val l i).size) :
    ∀ (d k i : Nat), d + 50 < k → l.length - i = d → laws_FnSetCodesOf.l0 k a l (n : Int) (codesL a l n l.length) ((codesL a l n l.length).length : Int) (i : Int) = some true := by
  intro d
  induction d with
  | zero =>
    intro k i hk hd
    obtain ⟨k, rfl⟩ : ∃ k', k = k' + 1 := ⟨k - 1, by omega⟩
    simp only [laws_FnSetCodesOf.l0]
    rw [codes_len, if_neg (by omega)]
  | succ d ih =>
    intro k i hk hd
    obtain ⟨k, rfl⟩ : ∃ k', k = k' + 1 := ⟨k - 1, by omega⟩
    have ihn := ih k (i + 1) (by omega) (by omega)
    have hi : i < l.length := by omega
    have hzi := hz i hi
    rw [laws_FnSetCodesOf.l0, codes_len, if_pos (by omega), if_pos (by omega), if_pos (by omega), if_pos (by omega), if_pos (by omega), rd_val, rd_codes a l n i hi, if_pos (by rw [ByteArray.size_append]; show a.size + 1 + _ ≤ _; omega), next_i i (by omega)]
    rw [codes_len] at ihn
    rw [ihn]
    rcases code_alone a l n hn hs he hz i hi with h | ⟨h1, h2, h3⟩
    · rw [if_pos (by rw [h]; rfl)]
    · by_cases hw : (codeF a l n i).toList = (a ++ ⟨#[58]⟩ ++ val l i).toList
      · rw [if_pos hw]
      · have hm : spec_SetMeantIn.f k l (codeF a l n i) = some [val l i] := by
          unfold spec_SetMeantIn.f
          have hm1 := meant_some l (codeF a l n i) hn l.length k 0 [] (by omega) (by omega) (Nat.le_refl _)
          rw [filter_one l (fun e => bg e (codeF a l n i)) l.length i 0 (by omega) (by omega) hi h2 h3] at hm1
          exact hm1
        rw [if_neg hw, hm, Option.bind_some, if_neg (by omega)]
        rw [if_pos (show (([val l i].length : Nat) : Int) = 1 from rfl), if_pos (show (0 : Int) < (([val l i].length : Nat) : Int) from Int.zero_lt_one), if_pos (show (rdOf ByteArray.empty [val l i] 0).toList = (val l i).toList from rfl)]
theorem sorted_all (l : List ByteArray) (h : ∀ j, j < l.length → 0 < j → Op.bytesLess (xs l (j - 1)) (xs l j) = true) : ∀ (d i j : Nat), j - i = d → i < j → j < l.length → Op.bytesLess (xs l i) (xs l j) = true := by
  intro d
  induction d with
  | zero => intro i j h1 h2; omega
  | succ d ih =>
    intro i j h1 h2 h3
    have h4 := h j h3 (by omega)
    by_cases he : i = j - 1
    · rw [he]; exact h4
    · exact less_trans _ _ _ (ih i (j - 1) (by omega) (by omega) (by omega)) h4
theorem j_true (k : Nat) (a : ByteArray) (l : List ByteArray) (x : Int) : laws_FnSetCodesOf.j0 (k + 1) a l x true = some true ∧ laws_FnSetCodesOf.j1 (k + 1) a l x true = some true := by
  constructor
  · simp [laws_FnSetCodesOf.j0]
  · simp [laws_FnSetCodesOf.j1]
theorem FnSetCodesOf (a0 : ByteArray) (l1 : List ByteArray) (a2 : Int) (w0 : a0.size ≤ maxLen) (w1 : l1.length ≤ maxLen ∧ ∀ y0 ∈ l1, y0.size ≤ maxLen) (w2 : (Lit.int .i64 a2).wf = true) : ∃ k, laws_FnSetCodesOf.f k a0 l1 a2 = some true := by
  obtain ⟨K, hK⟩ : ∃ K, K = l1.length + 200 := ⟨_, rfl⟩
  refine ⟨K + 2, ?_⟩
  have jt := fun k => (j_true k a0 l1 a2).1
  have jt1 := fun k => (j_true k a0 l1 a2).2
  unfold laws_FnSetCodesOf.f
  by_cases h0 : (a0.size : Int) > 2147483647
  · rw [if_pos h0]; exact jt _
  rw [if_neg h0]
  unfold laws_zzFits2.f
  by_cases h1 : (l1.length : Int) > 2147483647
  · rw [if_pos h1, Option.bind_some]; exact jt _
  rw [if_neg h1]
  have hn : l1.length ≤ 2147483647 := by omega
  obtain ⟨b, hb⟩ := fits_some l1 hn l1.length (K + 2) 0 (by omega) (by omega)
  rw [show ((0 : Nat) : Int) = 0 from rfl] at hb
  rw [hb, Option.bind_some]
  cases b
  · exact jt _
  show laws_FnSetCodesOf.j0 (K + 1 + 1) a0 l1 a2 false = _
  rw [laws_FnSetCodesOf.j0, if_neg (by decide)]
  by_cases h2 : (a0.size : Int) > 50
  · rw [if_pos h2]; exact jt1 _
  rw [if_neg h2]
  obtain ⟨b, hb, hbt⟩ := asc_some l1 hn l1.length (K + 1) 0 (by omega) (by omega)
  rw [show ((0 : Nat) : Int) = 0 from rfl] at hb
  unfold laws_setAscends.f
  rw [hb, Option.bind_some]
  cases b
  · rw [if_neg (by decide)]; exact jt1 _
  rw [if_pos rfl]
  obtain ⟨b, hb, hbe⟩ := even_some l1 hn l1.length (K + 1) 0 (by omega) (by omega)
  rw [show ((0 : Nat) : Int) = 0 from rfl] at hb
  unfold laws_setEven.f
  rw [hb, Option.bind_some]
  cases b
  · rw [if_neg (by decide)]; exact jt1 _
  rw [if_pos rfl]
  by_cases h3 : a2 < 0
  · rw [if_pos h3]; exact jt1 _
  rw [if_neg h3]
  by_cases h4 : a2 > 200
  · rw [decide_eq_true h4]; exact jt1 _
  rw [decide_eq_false h4, laws_FnSetCodesOf.j1, if_neg (by decide)]
  obtain ⟨n, rfl⟩ : ∃ n : Nat, a2 = n := ⟨a2.toNat, by omega⟩
  obtain ⟨h40, hall⟩ := hbt rfl
  have heven := hbe rfl
  have hz : ∀ i, i < l1.length → (val l1 i).size ≤ 200 := fun i hi => (hall i (Nat.zero_le _) hi).1
  have hs : ∀ i j, i < j → j < l1.length → Op.bytesLess (xs l1 i) (xs l1 j) = true := fun i j => sorted_all l1 (fun j hj => (hall j (Nat.zero_le _) hj).2) (j - i) i j rfl
  have he : ∀ i j, i < l1.length → j < l1.length → (val l1 j).size = (val l1 i).size := fun i j hi hj => (heven j (Nat.zero_le _) hj).trans (heven i (Nat.zero_le _) hi).symm
  have irr : ∀ t : List UInt8, Op.bytesLess t t = false := fun t => by
    induction t with
    | nil => rfl
    | cons b t ih => simp [Op.bytesLess, ih, UInt8.lt_irrefl]
  have hd : ∀ i, i < l1.length → ∀ j, j < l1.length → i ≠ j → val l1 i ≠ val l1 j := fun i hi j hj hne h => by
    rcases Nat.lt_or_gt_of_ne hne with hlt | hlt
    · have h5 := hs i j hlt hj
      unfold xs at h5
      rw [h, irr] at h5
      cases h5
    · have h5 := hs j i hlt hi
      unfold xs at h5
      rw [h, irr] at h5
      cases h5
  rw [impl_SetCodes.f_pos ⟨h40, by omega, hz, ⟨by omega, by omega⟩, hd⟩, Option.bind_some, Int.toNat_natCast, codes_len, if_pos rfl]
  have hl := loop_true a0 l1 n (by omega) h40 hz hs he l1.length K 0 (by omega) (by omega)
  rw [codes_len] at hl
  exact hl
end Go.Proofs.Yteonaghjhjnijaa.Pure
