import Derived.Test.YtapdpmjbfplmfaaSeen
namespace Go.Proofs.Ytapdpmjbfplmfaa
open Go.ChangeShapes Go.WideShapes Go.ChangeAt Go.RowKit

theorem one_not_zero (a b k : Nat) (c : Int) (h : (a : Int) + k ≤ b) (hb : (b : Int) ≤ 63) : (un (gb ((a : Int) + k) b c) == 0) = false := by
  rw [zero_un, un_beq, beq_eq_false_iff_ne]
  intro e
  have : (gb ((a : Int) + k) b c).getLsbD (a + k) = true := by
    rw [gb_get, decide_eq_true_eq]
    refine ⟨by omega, by omega, by omega, ?_⟩
    rw [show (((a + k : Nat) : Int) - ((a : Int) + k)) = 0 from by omega]; exact Int.zero_emod c
  rw [e] at this
  simp at this

theorem and_zero (a b k : Nat) (c : Int) (h : (k : Int) < c) : (bits BinOp.and IntKind.u64 (un (gb ((a : Int) + k) b c)) (un (seen a b c k)) != 0) = false := by
  rw [and_un, seen_apart _ _ _ _ h]; rfl

theorem or_next (a b k : Nat) (c : Int) (h : (k : Int) < c) : bits BinOp.or IntKind.u64 (un (seen a b c k)) (un (gb ((a : Int) + k) b c)) = un (seen a b c (k + 1)) := by
  rw [or_un, seen_succ _ _ _ _ h]

theorem low_one (a b : Nat) (h : (a : Int) ≤ b) (hb : (b : Int) ≤ 63) : (bits BinOp.and IntKind.u64 (un (gb a b 1) / 2 ^ a) 1 == 1) = true := by
  rw [shr_un]
  have e := and_un (gb a b 1 >>> a) 1#64
  rw [gb_low a b (by omega) (by omega)] at e
  rw [show bits BinOp.and IntKind.u64 (un (gb a b 1 >>> a)) 1 = un 1#64 from e]; rfl

theorem high_one (a b : Nat) (h : (a : Int) ≤ b) (hb : (b : Int) ≤ 63) : (un (gb a b 1) / 2 ^ b == 1) = true := by
  rw [shr_un, gb_high a b (by omega) (by omega)]; rfl

set_option maxHeartbeats 1000000 in
theorem apart_in (a b c : Int) (h0 : 0 ≤ a) (h1 : a ≤ b) (h2 : b ≤ 63) (h3 : 1 ≤ c) (h4 : c ≤ 64) (w : World) :
    Calls Try.prog 3 #[.int .u64 a, .int .u64 b, .int .u64 c] w fun e w' => e = .returned (.bool true) ∧ w = w' := by
  obtain ⟨a, rfl⟩ := Int.eq_ofNat_of_zero_le h0
  obtain ⟨b, rfl⟩ := Int.eq_ofNat_of_zero_le (show 0 ≤ b by omega)
  have d1 : decide (b < a) = false := decide_eq_false (by omega)
  have d2 : decide (63 < (b : Int)) = false := decide_eq_false (by omega)
  have d3 : decide (c < 1) = false := decide_eq_false (by omega)
  have d4 : decide (64 < c) = false := decide_eq_false (by omega)
  go_enter Try.func3, Try.ntmps3
  go_wp2
  go_loop [7, 26] (fun x i => ∃ (k : Nat), x = .int .u64 (un (seen a b c k)) ∧ i = .int .u64 (k : Int) ∧ (k : Int) ≤ c) (fun _ i => (c - intOf i).toNat)
  case atStart => exact ⟨0, by rw [seen_zero _ _ _ h3]; rfl, rfl, by omega⟩
  case round =>
    obtain ⟨k, rfl, rfl, hk⟩ := hrel
    by_cases hlt : (k : Int) < c
    · by_cases hin : (a : Int) + k ≤ b
      · have g1 := one_not_zero a b k c hin h2
        have g2 := and_zero a b k c hlt
        have G3 := Lib.hid (or_next a b k c hlt)
        go_wp2_with (go_at_call 9; refine (CronBits_any _ _ _ (by omega) (by omega) (by omega) (by omega) h3 (by omega) _).mono ?_; rintro e w' ⟨rfl, rfl⟩)
        go_round
        case rel => exact ⟨k + 1, by rw [G3.out], by go_num, by omega⟩
        case measure => simp [intOf]; omega
      · have G := Lib.hid (seen_all a b c k h3 (.inr (by omega)))
        have g1 := low_one a b h1 h2
        have g2 := high_one a b h1 h2
        rw [G.out]
        go_wp2_with (go_at_call 9; refine (CronBits_any _ _ _ (by omega) (by omega) (by omega) (by omega) (by omega) (by omega) _).mono ?_; rintro e w' ⟨rfl, rfl⟩)
        go_ret
        exact ⟨rfl, rfl⟩
    · have G := Lib.hid (seen_all a b c k h3 (.inl (by omega)))
      have g1 := low_one a b h1 h2
      have g2 := high_one a b h1 h2
      rw [G.out]
      go_wp2_with (go_at_call 9; refine (CronBits_any _ _ _ (by omega) (by omega) (by omega) (by omega) (by omega) (by omega) _).mono ?_; rintro e w' ⟨rfl, rfl⟩)
      go_ret
      exact ⟨rfl, rfl⟩
end Go.Proofs.Ytapdpmjbfplmfaa
