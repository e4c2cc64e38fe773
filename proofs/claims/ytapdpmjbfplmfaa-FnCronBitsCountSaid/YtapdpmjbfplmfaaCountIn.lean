import Derived.Test.YtapdpmjbfplmfaaGetBits
namespace Go.Proofs.Ytapdpmjbfplmfaa
open Go.ChangeShapes Go.WideShapes Go.ChangeAt Go.RowKit

theorem above_none (a b : Nat) (c : Int) : (un (gb a b c) / 2 ^ (b + 1) != 0) = false := by
  rw [shr_un]
  have : gb a b c >>> (b + 1) = 0#64 := by
    apply set_ext
    intro v hv
    rw [BitVec.getLsbD_ushiftRight, gb_get]
    simp
    omega
  rw [this]; rfl

theorem below_none (a b : Nat) (c : Int) (ha : (a : Int) ≤ 63) : (bits BinOp.and IntKind.u64 (un (gb a b c)) (IntKind.u64.wrap (IntKind.u64.wrap (2 ^ a) - 1)) != 0) = false := by
  have e : IntKind.u64.wrap (IntKind.u64.wrap (2 ^ a) - 1) = un (BitVec.ofNat 64 (2 ^ a - 1)) := by
    unfold un
    have h1 : (2 : Nat) ^ a ≤ 2 ^ 63 := Nat.pow_le_pow_right (by decide) (by omega)
    have h2 : 1 ≤ (2 : Nat) ^ a := Nat.one_le_two_pow
    have h3 : (2 : Int) ^ a = ((2 ^ a : Nat) : Int) := by simp
    rw [h3, u64_wrap_nat, Nat.mod_eq_of_lt (by omega), show (((2 ^ a : Nat) : Int) - 1) = ((2 ^ a - 1 : Nat) : Int) from by omega, u64_wrap_nat, Nat.mod_eq_of_lt (by omega), BitVec.toNat_ofNat, Nat.mod_eq_of_lt (by omega)]
  rw [e, and_un]
  have : gb a b c &&& BitVec.ofNat 64 (2 ^ a - 1) = 0#64 := by
    apply set_ext
    intro v hv
    rw [BitVec.getLsbD_and, gb_get, BitVec.getLsbD_ofNat, Nat.testBit_two_pow_sub_one]
    simp
    omega
  rw [this]; rfl

theorem has_bit (a b v : Nat) (c : Int) (h1 : a ≤ v) (h2 : v ≤ b) (hb : (b : Int) ≤ 63) :
    (bits BinOp.and IntKind.u64 (un (gb a b c) / 2 ^ v) 1 == 1) = decide (((v : Int) - a) % c = 0) := by
  rw [shr_un]
  have e := and_un (gb a b c >>> v) 1#64
  rw [show bits BinOp.and IntKind.u64 (un (gb a b c >>> v)) 1 = un (gb a b c >>> v &&& 1#64) from e]
  rw [show (1 : Int) = un 1#64 from rfl, un_beq]
  have g := gb_get a b c v
  by_cases hd : ((v : Int) - a) % c = 0
  · rw [decide_eq_true hd, beq_iff_eq]
    apply set_ext
    intro i hi
    rw [BitVec.getLsbD_and, BitVec.getLsbD_ushiftRight, BitVec.getLsbD_one]
    by_cases h0 : i = 0
    · subst h0
      rw [Nat.add_zero, g]
      simp [hd]; omega
    · simp [h0]
  · rw [decide_eq_false hd, beq_eq_false_iff_ne]
    intro he
    have : (gb a b c >>> v &&& 1#64).getLsbD 0 = true := by rw [he]; rfl
    rw [BitVec.getLsbD_and, BitVec.getLsbD_ushiftRight, Nat.add_zero, g] at this
    simp [hd] at this

/-- how many of the values below low + d are in the set -/
def Cnt (n d st : Int) : Prop := n = (d + st - 1) / st

theorem cnt_start (st : Int) (h : 1 ≤ st) : Cnt 0 0 st := by
  unfold Cnt
  rw [Int.zero_add, Int.ediv_eq_zero_of_lt (by omega) (by omega)]

theorem cnt_in {n d st : Int} (hs : 1 ≤ st) (hd : 0 ≤ d) (h : Cnt n d st) (hm : d % st = 0) : n * st = d ∧ Cnt (n + 1) (d + 1) st ∧ 0 ≤ n ∧ n ≤ d := by
  unfold Cnt at *
  obtain ⟨q, rfl⟩ := Int.dvd_of_emod_eq_zero hm
  have e : n = q := by
    rw [h, show st * q + st - 1 = (st - 1) + st * q from by omega, Int.add_mul_ediv_left _ _ (by omega), Int.ediv_eq_zero_of_lt (by omega) (by omega)]
    omega
  subst e
  have hq : 0 ≤ n := by
    apply Int.not_lt.1
    intro hn
    have := Int.mul_neg_of_pos_of_neg (show 0 < st by omega) hn
    omega
  have hq2 : n ≤ st * n := by
    have := Int.mul_le_mul_of_nonneg_right hs hq
    omega
  refine ⟨Int.mul_comm _ _, ?_, hq, hq2⟩
  rw [show st * n + 1 + st - 1 = st * (n + 1) from by rw [Int.mul_add]; omega, Int.mul_ediv_cancel_left _ (by omega)]

theorem cnt_out {n d st : Int} (hs : 1 ≤ st) (h : Cnt n d st) (hm : ¬ d % st = 0) : Cnt n (d + 1) st := by
  unfold Cnt at *
  have h1 := Int.mul_ediv_add_emod d st
  have h2 := Int.emod_nonneg d (show st ≠ 0 by omega)
  have h3 := Int.emod_lt_of_pos d (show 0 < st by omega)
  have e1 : d + 1 + st - 1 = (d % st) + st * (d / st + 1) := by rw [Int.mul_add]; omega
  have e2 : d + st - 1 = (d % st - 1) + st * (d / st + 1) := by rw [Int.mul_add]; omega
  rw [e1, Int.add_mul_ediv_left _ _ (by omega), Int.ediv_eq_zero_of_lt (by omega) (by omega)]
  rw [h, e2, Int.add_mul_ediv_left _ _ (by omega), Int.ediv_eq_zero_of_lt (by omega) (by omega)]

theorem cnt_end {n d st : Int} (hs : 1 ≤ st) (h : Cnt n (d + 1) st) : n = d / st + 1 := by
  unfold Cnt at h
  rw [h, show d + 1 + st - 1 = d + st * 1 from by omega, Int.add_mul_ediv_left _ _ (by omega)]

theorem cnt_nonneg {n d st : Int} (hs : 1 ≤ st) (hd : 0 ≤ d) (h : Cnt n d st) : 0 ≤ n ∧ n ≤ d := by
  unfold Cnt at h
  refine ⟨by rw [h]; exact Int.ediv_nonneg (by omega) (by omega), ?_⟩
  by_cases h0 : d = 0
  · rw [h, h0, Int.zero_add, Int.ediv_eq_zero_of_lt (by omega) (by omega)]; omega
  · have : d + st - 1 ≤ d * st := by
      have h5 := Int.mul_le_mul_of_nonneg_left (show 1 ≤ st by omega) (show 0 ≤ d - 1 by omega)
      have h6 : (d - 1) * st = d * st - st := by rw [Int.sub_mul, Int.one_mul]
      omega
    rw [h]
    exact Int.ediv_le_of_le_mul (by omega) this

set_option maxHeartbeats 1000000 in
theorem count_in (a b c : Int) (h0 : 0 ≤ a) (h1 : a ≤ b) (h2 : b ≤ 63) (h3 : 1 ≤ c) (h4 : c ≤ 4294967296) (w : World) :
    Calls Try.prog 4 #[.int .u64 a, .int .u64 b, .int .u64 c] w fun e w' => e = .returned (.bool true) ∧ w = w' := by
  obtain ⟨a, rfl⟩ := Int.eq_ofNat_of_zero_le h0
  obtain ⟨b, rfl⟩ := Int.eq_ofNat_of_zero_le (show 0 ≤ b by omega)
  have d1 : decide (b < a) = false := decide_eq_false (by omega)
  have d2 : decide (63 < (b : Int)) = false := decide_eq_false (by omega)
  have d3 : decide (c < 1) = false := decide_eq_false (by omega)
  have d4 : decide (4294967296 < c) = false := decide_eq_false (by omega)
  have g1 := above_none a b c
  have g2 := below_none a b c (by omega)
  by_cases h63 : b < 63
  · have d5 : decide (b < 63) = true := decide_eq_true h63
    go_enter Try.func4, Try.ntmps4
    go_wp2_with (go_at_call 9; refine (CronBits_any _ _ _ (by omega) (by omega) (by omega) (by omega) h3 (by omega) _).mono ?_; rintro e w' ⟨rfl, rfl⟩)
    go_loop [8, 9] (fun x i => ∃ (n : Int) (m : Nat), x = .int .u64 n ∧ i = .int .u64 (m : Int) ∧ a ≤ m ∧ m ≤ b + 1 ∧ Cnt n ((m : Int) - a) c) (fun _ i => (64 - intOf i).toNat)
    case atStart => exact ⟨0, a, rfl, rfl, by omega, by omega, by rw [Int.sub_self]; exact cnt_start c h3⟩
    case round =>
      obtain ⟨n, m, rfl, rfl, m1, m2, hc⟩ := hrel
      obtain ⟨n1, n2⟩ := cnt_nonneg h3 (by omega) hc
      by_cases hlt : m ≤ b
      · have g3 := has_bit a b m c m1 hlt h2
        by_cases hd : ((m : Int) - a) % c = 0
        · rw [decide_eq_true hd] at g3
          obtain ⟨p1, p2, p3, p4⟩ := cnt_in h3 (by omega) hc hd
          have q1 : 0 ≤ n * c := by omega
          have q2 : n * c ≤ 63 := by omega
          have q3 : ((m : Int) != (a : Int) + n * c) = false := by rw [p1, show (a : Int) + ((m : Int) - a) = m from by omega]; simp
          have HC := Lib.hid p2
          clear p1 p2 hc hd
          go_wp2
          go_round
          case rel => exact ⟨n + 1, m + 1, rfl, by go_num, by omega, by omega, by rw [show ((m + 1 : Nat) : Int) - a = (m : Int) - a + 1 from by omega]; exact HC.out⟩
          case measure => simp [intOf]; omega
        · rw [decide_eq_false hd] at g3
          have HC := Lib.hid (cnt_out h3 hc hd)
          clear hc hd
          go_wp2
          go_round
          case rel => exact ⟨n, m + 1, rfl, by go_num, by omega, by omega, by rw [show ((m + 1 : Nat) : Int) - a = (m : Int) - a + 1 from by omega]; exact HC.out⟩
          case measure => simp [intOf]; omega
      · have e : (m : Int) - a = ((b : Int) - a) + 1 := by omega
        rw [e] at hc
        have hE := cnt_end h3 hc
        have q4 : 0 ≤ ((b : Int) - a) / c := Int.ediv_nonneg (by omega) (by omega)
        have q5 : ((b : Int) - a) / c ≤ 63 := by
          have := Int.ediv_le_self c (show 0 ≤ (b : Int) - a by omega)
          omega
        have q6 : (n == ((b : Int) - a) / c + 1) = true := by rw [hE]; simp
        clear hE hc e
        go_wp2
        go_ret
        exact ⟨rfl, rfl⟩
  · have d5 : decide (b < 63) = false := decide_eq_false h63
    go_enter Try.func4, Try.ntmps4
    go_wp2_with (go_at_call 9; refine (CronBits_any _ _ _ (by omega) (by omega) (by omega) (by omega) h3 (by omega) _).mono ?_; rintro e w' ⟨rfl, rfl⟩)
    go_loop [8, 9] (fun x i => ∃ (n : Int) (m : Nat), x = .int .u64 n ∧ i = .int .u64 (m : Int) ∧ a ≤ m ∧ m ≤ b + 1 ∧ Cnt n ((m : Int) - a) c) (fun _ i => (64 - intOf i).toNat)
    case atStart => exact ⟨0, a, rfl, rfl, by omega, by omega, by rw [Int.sub_self]; exact cnt_start c h3⟩
    case round =>
      obtain ⟨n, m, rfl, rfl, m1, m2, hc⟩ := hrel
      obtain ⟨n1, n2⟩ := cnt_nonneg h3 (by omega) hc
      by_cases hlt : m ≤ b
      · have g3 := has_bit a b m c m1 hlt h2
        by_cases hd : ((m : Int) - a) % c = 0
        · rw [decide_eq_true hd] at g3
          obtain ⟨p1, p2, p3, p4⟩ := cnt_in h3 (by omega) hc hd
          have q1 : 0 ≤ n * c := by omega
          have q2 : n * c ≤ 63 := by omega
          have q3 : ((m : Int) != (a : Int) + n * c) = false := by rw [p1, show (a : Int) + ((m : Int) - a) = m from by omega]; simp
          have HC := Lib.hid p2
          clear p1 p2 hc hd
          go_wp2
          go_round
          case rel => exact ⟨n + 1, m + 1, rfl, by go_num, by omega, by omega, by rw [show ((m + 1 : Nat) : Int) - a = (m : Int) - a + 1 from by omega]; exact HC.out⟩
          case measure => simp [intOf]; omega
        · rw [decide_eq_false hd] at g3
          have HC := Lib.hid (cnt_out h3 hc hd)
          clear hc hd
          go_wp2
          go_round
          case rel => exact ⟨n, m + 1, rfl, by go_num, by omega, by omega, by rw [show ((m + 1 : Nat) : Int) - a = (m : Int) - a + 1 from by omega]; exact HC.out⟩
          case measure => simp [intOf]; omega
      · have e : (m : Int) - a = ((b : Int) - a) + 1 := by omega
        rw [e] at hc
        have hE := cnt_end h3 hc
        have q4 : 0 ≤ ((b : Int) - a) / c := Int.ediv_nonneg (by omega) (by omega)
        have q5 : ((b : Int) - a) / c ≤ 63 := by
          have := Int.ediv_le_self c (show 0 ≤ (b : Int) - a by omega)
          omega
        have q6 : (n == ((b : Int) - a) / c + 1) = true := by rw [hE]; simp
        clear hE hc e
        go_wp2
        go_ret
        exact ⟨rfl, rfl⟩
end Go.Proofs.Ytapdpmjbfplmfaa
