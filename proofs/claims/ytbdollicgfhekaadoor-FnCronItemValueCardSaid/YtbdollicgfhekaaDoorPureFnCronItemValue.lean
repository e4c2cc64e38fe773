/-
  A number as an item of a field, within bounds: the plain law.
-/
import Derived.Test.YtbdollicgfhekaaDoorQWx1
import Derived.Lib.AtoiAllCases
import Derived.Lib.ItoaLen
import Derived.Lib.ItoaMem
import Derived.OpenShut
set_option linter.unusedVariables false
set_option linter.unusedSimpArgs false
namespace Go.Proofs.YtbdollicgfhekaaDoor.Pure
open Go Go.RowKit Go.Proofs.YtbdollicgfhekaaDoor Go.Proofs.YtbdollicgfhekaaDoor.QW Go.Proofs.YtbdollicgfhekaaDoorW.PrintWords Go.Proofs.YtbdollicgfhekaaDoorW.PrintLast

theorem digit_val (d : Nat) (h : d < 10) : (UInt8.ofNat (48 + d)).toNat = 48 + d := by
  rw [UInt8.toNat_ofNat']; omega
theorem dec_small {u : Nat} (h : u < 10) : Lib.decDigits u = [UInt8.ofNat (48 + u)] := by rw [Lib.decDigits, dif_pos h]
theorem dec_big {u : Nat} (h : ¬ u < 10) : Lib.decDigits u = Lib.decDigits (u / 10) ++ [UInt8.ofNat (48 + u % 10)] := by rw [Lib.decDigits, dif_neg h]
/-- one digit more -/
theorem parse_snoc (d : Nat) (hd : d < 10) : ∀ (l : List UInt8) (acc u : Nat), Lib.parseUint10 acc l = .ok u → u * 10 + d < 18446744073709551616 → u < 1844674407370955162 → Lib.parseUint10 acc (l ++ [UInt8.ofNat (48 + d)]) = .ok (u * 10 + d)
  | [], acc, u, h, h1, h2 => by
    rw [Lib.parseUint10] at h
    obtain rfl := Lib.NumEnd.ok.inj h
    rw [List.nil_append, Lib.parseUint10, digit_val d hd, if_pos (by omega), if_neg (by omega), if_neg (by omega), Lib.parseUint10]
    congr 1
    omega
  | c :: l, acc, u, h, h1, h2 => by
    rw [List.cons_append, Lib.parseUint10]
    rw [Lib.parseUint10] at h
    by_cases hc : 48 ≤ c.toNat ∧ c.toNat ≤ 57
    · rw [if_pos hc] at h ⊢
      by_cases ha : 1844674407370955162 ≤ acc
      · rw [if_pos ha] at h; cases h
      · rw [if_neg ha] at h ⊢
        by_cases hb : 18446744073709551616 ≤ acc * 10 + (c.toNat - 48)
        · rw [if_pos hb] at h; cases h
        · rw [if_neg hb] at h ⊢
          exact parse_snoc d hd l _ u h h1 h2
    · rw [if_neg hc] at h; cases h
theorem parse_dec : ∀ (n u : Nat), u ≤ n → u ≤ 9223372036854775807 → Lib.parseUint10 0 (Lib.decDigits u) = .ok u
  | 0, u, h, hu => by
    rw [dec_small (by omega), Lib.parseUint10, digit_val u (by omega), if_pos (by omega), if_neg (by omega), if_neg (by omega), Lib.parseUint10]
    congr 1
    omega
  | n + 1, u, h, hu => by
    by_cases h10 : u < 10
    · rw [dec_small h10, Lib.parseUint10, digit_val u h10, if_pos (by omega), if_neg (by omega), if_neg (by omega), Lib.parseUint10]
      congr 1
      omega
    · rw [dec_big h10, parse_snoc (u % 10) (by omega) _ 0 (u / 10) (parse_dec n (u / 10) (by omega) (by omega)) (by omega) (by omega)]
      congr 1
      omega
theorem dec_digits : ∀ (n u : Nat), u ≤ n → ((Lib.decDigits u).all fun b => decide (48 ≤ b.toNat) && decide (b.toNat ≤ 57)) = true
  | 0, u, h => by
    rw [dec_small (by omega), List.all_cons, digit_val u (by omega), decide_eq_true (by omega), decide_eq_true (by omega)]
    rfl
  | n + 1, u, h => by
    by_cases h10 : u < 10
    · rw [dec_small h10, List.all_cons, digit_val u h10, decide_eq_true (by omega), decide_eq_true (by omega)]
      rfl
    · rw [dec_big h10, List.all_append, dec_digits n (u / 10) (by omega), Bool.true_and, List.all_cons, digit_val (u % 10) (by omega), decide_eq_true (by omega), decide_eq_true (by omega)]
      rfl
theorem dec_ne (u : Nat) : Lib.decDigits u ≠ [] := by
  by_cases h10 : u < 10
  · rw [dec_small h10]; simp
  · rw [dec_big h10]; simp
theorem spelt_itoa (v : Int) (h0 : 0 ≤ v) (h1 : v ≤ 9223372036854775807) : Lib.atoiAll (Lib.itoa v) = .ok v := by
  obtain ⟨u, rfl⟩ := Int.eq_ofNat_of_zero_le h0
  rw [Lib.itoa_nonneg]
  have hd := dec_digits u u (Nat.le_refl _)
  have hp := parse_dec u u (Nat.le_refl _) (by omega)
  cases he : Lib.decDigits u with
  | nil => exact absurd he (dec_ne u)
  | cons c r =>
    rw [he] at hd hp
    rw [List.all_cons, Bool.and_eq_true, Bool.and_eq_true] at hd
    have h2 := of_decide_eq_true hd.1.1
    rw [Lib.atoiAll_plain c r (by have := of_decide_eq_true hd.1.1; have := of_decide_eq_true hd.1.2; omega) (by have := of_decide_eq_true hd.1.1; omega)]
    unfold Lib.parseMag
    rw [if_neg (by simp), hp]
    unfold Lib.signless
    simp only []
    rw [if_neg (by omega)]
theorem shl_one : ∀ v : Fin 63, shl .u64 1 (v.val : Int) = 2 ^ v.val := by decide +kernel
theorem item_f (low high v : Int) (h0 : 0 ≤ v) (h1 : v ≤ 9223372036854775807) (hh : high ≤ 62) : impl_CronItemIn.f low high ⟨(Lib.itoa v).toArray⟩ = some ((itemV low high v).1, (itemV low high v).2) := by
  have hs : spelt ⟨(Lib.itoa v).toArray⟩ = v := by
    unfold spelt
    rw [show (⟨(Lib.itoa v).toArray⟩ : ByteArray).data.toList = Lib.itoa v from rfl, spelt_itoa v h0 h1]
  have hl := Lib.itoa_length_le v (by omega) h1
  have hz : (⟨(Lib.itoa v).toArray⟩ : ByteArray).size = (Lib.itoa v).length := rfl
  have hd : digits ⟨(Lib.itoa v).toArray⟩ = true := by
    obtain ⟨u, rfl⟩ := Int.eq_ofNat_of_zero_le h0
    show ((Lib.itoa (u : Int)).all fun b => decide (48 ≤ b.toNat) && decide (b.toNat ≤ 57)) = true
    rw [Lib.itoa_nonneg]
    exact dec_digits u u (Nat.le_refl _)
  unfold impl_CronItemIn.f
  rw [hs, if_pos ⟨by omega, h0, h1, hd, hh⟩]
/-- the law -/
theorem FnCronItemValue (low : Int) (high : Int) (v : Int) (wl : (Lit.int .u64 low).wf = true) (wh : (Lit.int .u64 high).wf = true) (wv : (Lit.int .i64 v).wf = true) : ∃ k, laws_FnCronItemValue.f k low high v = some true := by
  have bl := Go.bounds_u64 wl
  have bh := Go.bounds_u64 wh
  have bv := Go.bounds_i64 wv
  refine ⟨1, ?_⟩
  unfold laws_FnCronItemValue.f laws_cronBoundsIn.f
  by_cases hlh : low ≤ high
  · rw [if_pos hlh, Option.bind_some]
    by_cases hh : high ≤ 62
    · rw [decide_eq_true hh, if_pos rfl, laws_FnCronItemValue.j0]
      by_cases hv : v < 0
      · rw [decide_eq_true hv, if_pos rfl]
      · rw [decide_eq_false hv, if_neg Bool.false_ne_true]
        unfold strconv_Itoa.f
        rw [if_pos ⟨by omega, by omega⟩, Option.bind_some, item_f low high v (by omega) (by omega) hh, Option.bind_some, show wrap64 low = low by unfold wrap64; omega, show wrap64 high = high by unfold wrap64; omega]
        unfold itemV
        by_cases h1 : v < low
        · rw [if_pos h1, if_pos (Or.inl h1)]; rfl
        · rw [if_neg h1]
          by_cases h2 : v > high
          · rw [if_pos h2, if_pos (Or.inr h2)]; rfl
          · rw [if_neg h2, if_neg (show ¬ (v < low ∨ high < v) from fun h => h.elim h1 h2)]
            obtain ⟨u, rfl⟩ := Int.eq_ofNat_of_zero_le (show 0 ≤ v by omega)
            have hs := shl_one ⟨u, by omega⟩
            rw [if_pos rfl, if_pos (by omega), show shl .u64 1 (u : Int) = 2 ^ u from hs]
            simp
    · rw [decide_eq_false hh, if_neg Bool.false_ne_true, laws_FnCronItemValue.j0, if_pos rfl]
  · rw [if_neg hlh, Option.bind_some, if_neg Bool.false_ne_true, laws_FnCronItemValue.j0, if_pos rfl]

end Go.Proofs.YtbdollicgfhekaaDoor.Pure
