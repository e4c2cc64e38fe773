/-
  The specification's calendar: what its functions answer.
-/
import Derived.Test.YtdgglkihiibmhaaSeek
set_option linter.unusedVariables false
set_option linter.unusedSimpArgs false
namespace Go.Proofs.Ytdgglkihiibmhaa
open Go Go.RowKit Cal

theorem wi {x : Int} (h0 : -9223372036854775808 ≤ x) (h1 : x < 9223372036854775808) : wrap64 x = x := by unfold wrap64; omega
theorem tdiv_floor (a b : Int) (b0 : 0 < b) : (a.tmod b < 0 → a.tdiv b - 1 = a / b) ∧ (0 ≤ a.tmod b → a.tdiv b = a / b) := by
  have h1 := Int.mul_tdiv_add_tmod a b
  have h4 := Int.tmod_lt_of_pos a b0
  have h5 : -b < a.tmod b := by
    by_cases ha : 0 ≤ a
    · have := Int.tmod_nonneg b ha
      omega
    · have h := Int.tmod_lt_of_pos (-a) b0
      rw [Int.neg_tmod] at h
      omega
  generalize a.tdiv b = q at *
  generalize a.tmod b = r at *
  constructor
  · intro h
    refine Eq.symm ((Int.ediv_eq_iff_of_pos b0).2 ?_)
    rw [Int.sub_mul, Int.one_mul, Int.mul_comm q b]
    omega
  · intro h
    refine Eq.symm ((Int.ediv_eq_iff_of_pos b0).2 ?_)
    rw [Int.mul_comm q b]
    omega
theorem fdiv_any (a b : Int) (w : World) (b0 : 0 < b) (b1 : b ≤ 1000000) (a0 : -4611686018427387904 ≤ a) (a1 : a ≤ 4611686018427387904) : Calls Try.prog 34 #[.int .i64 a, .int .i64 b] w fun e w' => e = .returned (.int .i64 (a / b)) ∧ w' = w := by
  have H1 := Lib.hid (tdiv_floor a b b0)
  have H2 : Hid (-4611686018427387904 ≤ a / b ∧ a / b ≤ 4611686018427387904) := Lib.hid ⟨by
    have := Int.le_ediv_of_mul_le (a := -4611686018427387904) b0 (b := a) (by
      have : (-4611686018427387904) * b ≤ (-4611686018427387904) * 1 := Int.mul_le_mul_of_nonpos_left (by decide) (by omega)
      omega)
    exact this, by
    by_cases h : a < 0
    · have := Int.ediv_neg_of_neg_of_pos h b0; omega
    · exact Int.le_trans (Int.ediv_le_self b (by omega)) a1⟩
  go_enter Try.func34, Try.ntmps34
  go_wp2
  all_goals
    rename_i h
    have hq := H1.out
    have hb := H2.out
  · have e := hq.1 h
    have e2 : wrap64 (a.tdiv b - 1) = a / b := by rw [e]; exact wi (by omega) (by omega)
    rw [e2]
    go_ret
    exact ⟨rfl, rfl⟩
  · have e := hq.2 h
    rw [e]
    go_ret
    exact ⟨rfl, rfl⟩
theorem leap_any (y : Int) (w : World) (a0 : 0 < y) (a1 : y ≤ 4611686018427387904) : Calls Try.prog 66 #[.int .i64 y] w fun e w' => e = .returned (.bool (decide (lp y = 1))) ∧ w' = w := by
  go_enter Try.func66, Try.ntmps66
  go_wp2
  all_goals go_ret
  all_goals refine ⟨?_, rfl⟩
  all_goals congr 2
  · rename_i h1 h2
    unfold lp
    by_cases c : y % 400 = 0
    · simp [h1, h2, c]
    · simp [h1, h2, c]
  · rename_i h1 h2
    unfold lp
    simp [h1, h2]
  · rename_i h1
    unfold lp
    simp [h1]
theorem md_any (y m : Int) (w : World) (a0 : 0 < y) (a1 : y ≤ 4611686018427387904) (m0 : 1 ≤ m) (m1 : m ≤ 12) : Calls Try.prog 55 #[.int .i64 y, .int .i64 m] w fun e w' => e = .returned (.int .i64 (MD y m)) ∧ w' = w := by
  have hl := lp_01 y
  have HL := Lib.hid hl
  clear hl
  have hm : m = 1 ∨ m = 2 ∨ m = 3 ∨ m = 4 ∨ m = 5 ∨ m = 6 ∨ m = 7 ∨ m = 8 ∨ m = 9 ∨ m = 10 ∨ m = 11 ∨ m = 12 := by omega
  clear m0 m1
  by_cases h2 : m = 2
  · subst h2
    clear hm
    by_cases c : lp y = 1
    · have hc := Lib.hid c
      clear c
      go_enter Try.func55, Try.ntmps55
      go_wp2_with (go_at_call 66; refine (leap_any y _ a0 a1).mono ?_; rintro e w1 ⟨he, rfl⟩; rw [decide_eq_true hc.out] at he; subst he)
      go_ret
      refine ⟨?_, rfl⟩
      rw [show MD y 2 = 29 from by unfold MD; rw [if_pos rfl, hc.out]; rfl]
      rfl
    · have hc := Lib.hid c
      clear c
      go_enter Try.func55, Try.ntmps55
      go_wp2_with (go_at_call 66; refine (leap_any y _ a0 a1).mono ?_; rintro e w1 ⟨he, rfl⟩; rw [decide_eq_false hc.out] at he; subst he)
      go_ret
      refine ⟨?_, rfl⟩
      rw [show MD y 2 = 28 from by unfold MD; rw [if_pos rfl]; have := HL.out; have := hc.out; omega]
      rfl
  · rcases hm with rfl | rfl | rfl | rfl | rfl | rfl | rfl | rfl | rfl | rfl | rfl | rfl <;> first | exact absurd rfl h2 | (
      clear h2
      go_enter Try.func55, Try.ntmps55
      go_wp2
      go_ret
      exact ⟨rfl, rfl⟩)
theorem yst_any (y : Int) (w : World) (a0 : -1000000000 ≤ y) (a1 : y ≤ 1000000000) : Calls Try.prog 54 #[.int .i64 y] w fun e w' => e = .returned (.int .i64 (YS y)) ∧ w' = w := by
  have hw : wrap64 (y - 1) = y - 1 := wi (by omega) (by omega)
  go_enter Try.func54, Try.ntmps54
  go_wp2_with (first
    | (go_at_call 34; with_reducible refine (fdiv_any (y - 1) 4 _ (by decide) (by decide) (by omega) (by omega)).mono ?_; rintro e w1 ⟨rfl, rfl⟩)
    | (go_at_call 34; with_reducible refine (fdiv_any (y - 1) 100 _ (by decide) (by decide) (by omega) (by omega)).mono ?_; rintro e w1 ⟨rfl, rfl⟩)
    | (go_at_call 34; with_reducible refine (fdiv_any (y - 1) 400 _ (by decide) (by decide) (by omega) (by omega)).mono ?_; rintro e w1 ⟨rfl, rfl⟩))
  go_ret
  refine ⟨?_, rfl⟩
  congr 2
theorem fmod_any (a b : Int) (w : World) (b0 : 0 < b) (b1 : b ≤ 1000000) (a0 : -4611686018427387904 ≤ a) (a1 : a ≤ 4611686018427387904) : Calls Try.prog 56 #[.int .i64 a, .int .i64 b] w fun e w' => e = .returned (.int .i64 (a % b)) ∧ w' = w := by
  have H1 := Lib.hid (Int.emod_add_mul_ediv a b)
  have H2 := Lib.hid (Int.emod_nonneg a (show b ≠ 0 by omega))
  have H3 := Lib.hid (Int.emod_lt_of_pos a b0)
  go_enter Try.func56, Try.ntmps56
  go_wp2_with (go_at_call 34; with_reducible refine (fdiv_any a b _ b0 b1 a0 a1).mono ?_; rintro e w1 ⟨rfl, rfl⟩)
  go_ret
  refine ⟨?_, rfl⟩
  congr 2
  have h1 := H1.out
  have h2 := H2.out
  have h3 := H3.out
  generalize b * (a / b) = c at *
  rw [wi (x := c) (by omega) (by omega), wi (x := a - c) (by omega) (by omega), show a % b = a - c by omega]
  rfl
theorem wday_any (n : Int) (w : World) (a0 : -1000000000 ≤ n) (a1 : n ≤ 1000000000) : Calls Try.prog 38 #[.int .i64 n] w fun e w' => e = .returned (.int .i64 ((n + 4) % 7)) ∧ w' = w := by
  have hw : wrap64 (n + 4) = n + 4 := wi (by omega) (by omega)
  go_enter Try.func38, Try.ntmps38
  go_wp2_with (go_at_call 56; with_reducible refine (fmod_any (n + 4) 7 _ (by decide) (by decide) (by omega) (by omega)).mono ?_; rintro e w1 ⟨rfl, rfl⟩)
  go_ret
  exact ⟨rfl, rfl⟩
end Go.Proofs.Ytdgglkihiibmhaa
