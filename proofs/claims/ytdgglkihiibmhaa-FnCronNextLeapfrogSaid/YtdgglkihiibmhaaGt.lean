/-
  The package time's calendar: what its functions reckon.
-/
import Derived.Test.YtdgglkihiibmhaaTime6
import Derived.Test.YtdgglkihiibmhaaCalc
set_option linter.unusedVariables false
set_option linter.unusedSimpArgs false
namespace Go.Proofs.Ytdgglkihiibmhaa
open Go Go.RowKit Cal

theorem bits_or_nat (m n : Nat) (hm : m < 2 ^ 32) (hn : n < 2 ^ 32) : bits .or .u32 (m : Int) (n : Int) = ((m ||| n : Nat) : Int) := by
  have h : bits .or .u32 (m : Int) (n : Int) = IntKind.u32.wrap (((BitVec.ofInt 32 (m : Int) ||| BitVec.ofInt 32 (n : Int)).toNat : Nat) : Int) := rfl
  rw [h, BitVec.ofInt_natCast, BitVec.ofInt_natCast, BitVec.toNat_or, BitVec.toNat_ofNat, BitVec.toNat_ofNat, Nat.mod_eq_of_lt hm, Nat.mod_eq_of_lt hn]
  have hl : m ||| n < 2 ^ 32 := Nat.or_lt_two_pow hm hn
  simp only [IntKind.wrap, IntKind.bits, IntKind.signed]
  simp
  omega
theorem bits_and32_nat (m n : Nat) (hm : m < 2 ^ 32) (hn : n < 2 ^ 32) : bits .and .u32 (m : Int) (n : Int) = ((m &&& n : Nat) : Int) := by
  have h : bits .and .u32 (m : Int) (n : Int) = IntKind.u32.wrap (((BitVec.ofInt 32 (m : Int) &&& BitVec.ofInt 32 (n : Int)).toNat : Nat) : Int) := rfl
  rw [h, BitVec.ofInt_natCast, BitVec.ofInt_natCast, BitVec.toNat_and, BitVec.toNat_ofNat, BitVec.toNat_ofNat, Nat.mod_eq_of_lt hm, Nat.mod_eq_of_lt hn]
  have hl : m &&& n < 2 ^ 32 := Nat.lt_of_le_of_lt Nat.and_le_left hm
  simp only [IntKind.wrap, IntKind.bits, IntKind.signed]
  simp
  omega
theorem or3 (x : Nat) : x ||| 3 = 4 * (x / 4) + 3 := by
  apply Nat.eq_of_testBit_eq
  intro i
  rw [Nat.testBit_or, show (3 : Nat) = 2 ^ 2 - 1 from rfl, Nat.testBit_two_pow_sub_one, show 4 * (x / 4) + (2 ^ 2 - 1) = 2 ^ 2 * (x / 4) + 3 from rfl, Nat.testBit_two_pow_mul_add (x / 4) (by decide : 3 < 2 ^ 2) i, show (3 : Nat) = 2 ^ 2 - 1 from rfl, Nat.testBit_two_pow_sub_one, show x / 4 = x / 2 ^ 2 from rfl]
  by_cases h : i < 2
  · simp [h]
  · simp only [h, decide_false, Bool.or_false, if_false, Nat.testBit_div_two_pow]
    congr 1
    omega
theorem or_cday (N : Nat) : bits .or .u32 ((4 * (N : Int) + 3) % 146097) 3 = ((4 * cday N + 3 : Nat) : Int) := by
  have h : (4 * (N : Int) + 3) % 146097 = (((4 * N + 3) % 146097 : Nat) : Int) := by omega
  rw [h, show (3 : Int) = ((3 : Nat) : Int) from rfl, bits_or_nat _ _ (by omega) (by decide), or3]
  rfl
theorem and_low (n : Int) (h0 : 0 ≤ n) (h1 : n < 4294967296) : bits .and .u32 n 65535 = n % 65536 := by
  obtain ⟨m, rfl⟩ := Int.eq_ofNat_of_zero_le h0
  rw [show (65535 : Int) = ((65535 : Nat) : Int) from rfl, bits_and32_nat m _ (by omega) (by decide), show (65535 : Nat) = 2 ^ 16 - 1 from rfl, Nat.and_two_pow_sub_one_eq_mod]
  omega
theorem hi_in (c : Nat) (h : c < 36525) : (2939745 * (((4 * c + 3 : Nat)) : Int)) / 4294967296 = (((4 * c + 3) / 1461 : Nat) : Int) := by
  have h1 := mul_hi c h
  generalize 4 * c + 3 = m at *
  omega
theorem lo_in (c : Nat) (h : c < 36525) : (2939745 * (((4 * c + 3 : Nat)) : Int)) % 4294967296 / 2939745 / 4 = (((4 * c + 3) % 1461 / 4 : Nat) : Int) := by
  have h1 := mul_lo c h
  generalize 4 * c + 3 = m at *
  have e : (2939745 * (m : Int)) % 4294967296 = ((2939745 * m % 4294967296 : Nat) : Int) := by omega
  rw [e]
  generalize 2939745 * m % 4294967296 = k at *
  omega
theorem mon_in (y : Nat) (h : y < 367) : (2141 * (y : Int) + 197913) / 65536 = (mon y : Nat) ∧ 1 + (2141 * (y : Int) + 197913) % 65536 / 2141 = (mday y : Nat) := by
  have h1 := mon_hi y h
  have h2 := mon_lo y h
  have e : (2141 * (y : Int) + 197913) = ((2141 * y + 197913 : Nat) : Int) := by omega
  rw [e]
  generalize 2141 * y + 197913 = m at *
  have e : (m : Int) % 65536 = ((m % 65536 : Nat) : Int) := by omega
  rw [e]
  generalize m % 65536 = k at *
  exact ⟨by omega, by omega⟩

theorem days_any (a : Int) (w : World) (h0 : 0 ≤ a) (h1 : a < 18446744073709551616) : Calls Try.prog 98 #[.int .u64 a] w fun e w' => e = .returned (.int .u64 (a / 86400)) ∧ w = w' := by
  go_enter Try.func98, Try.ntmps98
  go_wp2
  go_ret
  exact ⟨rfl, rfl⟩
theorem split_any (N : Nat) (w : World) (h1 : (N : Int) < 4611686018427387904) : Calls Try.prog 99 #[.int .u64 N] w fun e w' => e = .returned (.tuple #[.int .u64 (cent N : Nat), .int .i64 (cyear N : Nat), .int .i64 (yday N : Nat)]) ∧ w = w' := by
  have ho := or_cday N
  have hc := cday_lt N
  have hh := hi_in (cday N) hc
  have hl := lo_in (cday N) hc
  have hn : ((4 * (N : Int) + 3) / 146097) = ((cent N : Nat) : Int) := by unfold cent; omega
  have hy : (((4 * cday N + 3) / 1461 : Nat) : Int) = (cyear N : Nat) := rfl
  have hz : (((4 * cday N + 3) % 1461 / 4 : Nat) : Int) = (yday N : Nat) := rfl
  rw [hy] at hh
  rw [hz] at hl
  have hC : 0 ≤ ((4 * cday N + 3 : Nat) : Int) ∧ ((4 * cday N + 3 : Nat) : Int) < 146103 := by omega
  clear hy hz
  generalize ((4 * cday N + 3 : Nat) : Int) = c at *
  go_enter Try.func99, Try.ntmps99
  go_wp2
  refine bodyPost_ret (v := .tuple #[.int .u64 (cent N : Nat), .int .i64 (cyear N : Nat), .int .i64 (yday N : Nat)]) ?_ rfl ⟨rfl, rfl⟩
  simp [results, Try.results99, go_sem, hn, hh, hl]
theorem ysplit_any (y : Nat) (w : World) (h1 : y < 366) : Calls Try.prog 100 #[.int .i64 y] w fun e w' => e = .returned (.tuple #[.int .i64 (mon y : Nat), .int .i64 (mday y : Nat)]) ∧ w = w' := by
  have ha := and_low (2141 * (y : Int) + 197913) (by omega) (by omega)
  have hm := mon_in y (by omega)
  go_enter Try.func100, Try.ntmps100
  go_wp2
  refine bodyPost_ret (v := .tuple #[.int .i64 (mon y : Nat), .int .i64 (mday y : Nat)]) ?_ rfl ⟨rfl, rfl⟩
  simp [results, Try.results100, go_sem, hm.1, hm.2]
theorem janFeb_any (y : Int) (w : World) (h0 : 0 ≤ y) (h1 : y < 366) : Calls Try.prog 101 #[.int .i64 y] w fun e w' => e = .returned (.int .i64 (if y < 306 then 0 else 1)) ∧ w = w' := by
  go_enter Try.func101, Try.ntmps101
  go_wp2
  all_goals
    go_ret
    simp [*]
theorem year_any (c y j : Int) (w : World) (c0 : 2922770224 ≤ c) (c1 : c < 4000000000) (y0 : 0 ≤ y) (y1 : y < 100) (j0 : 0 ≤ j) (j1 : j ≤ 1) : Calls Try.prog 102 #[.int .u64 c, .int .i64 y, .int .i64 j] w fun e w' => e = .returned (.int .i64 (c * 100 - 292277022400 + y + j)) ∧ w = w' := by
  go_enter Try.func102, Try.ntmps102
  go_wp2
  go_ret
  exact ⟨rfl, rfl⟩
theorem month_any (m j : Int) (w : World) (c0 : 0 ≤ m) (c1 : m < 40) (j0 : 0 ≤ j) (j1 : j ≤ 1) : Calls Try.prog 103 #[.int .i64 m, .int .i64 j] w fun e w' => e = .returned (.int .i64 (m - j * 12)) ∧ w = w' := by
  go_enter Try.func103, Try.ntmps103
  go_wp2
  go_ret
  exact ⟨rfl, rfl⟩
end Go.Proofs.Ytdgglkihiibmhaa
