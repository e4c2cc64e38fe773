import Derived.Test.YtapdpmjbfplmfaaRows
import Derived.Test.YtapdpmjbfplmfaaBits
import Derived.WalkKit
import Derived.ProofKit
import Derived.OpenShut
import Derived.Lib.Hide
namespace Go.Proofs.Ytapdpmjbfplmfaa
open Go.ChangeShapes Go.WideShapes Go.ChangeAt Go.RowKit

theorem ret_int {k : IntKind} {a b : Int} (h : a = b) : Ending.returned (.int k a) = .returned (.int k b) := by rw [h]

theorem bits_one (a b : Nat) (h : b ≤ 63) : bits BinOp.and IntKind.u64 (bits BinOp.xor IntKind.u64 IntKind.u64.max (IntKind.u64.wrap (18446744073709551615 * 2 ^ (b + 1))))
    (IntKind.u64.wrap (18446744073709551615 * 2 ^ a)) = un (gb a b 1) := by
  rw [ones_un, shl_un, shl_un, not_un, and_un, gb_one a b h]

theorem getBits_one (a b : Int) (h1 : 0 ≤ a) (h2 : a ≤ 63) (h3 : 0 ≤ b) (h4 : b ≤ 63) (w : World) :
    Calls Try.prog 33 #[.int .u64 a, .int .u64 b, .int .u64 1] w fun e w' => e = .returned (.int .u64 (un (gb a b 1))) ∧ w = w' := by
  obtain ⟨a, rfl⟩ := Int.eq_ofNat_of_zero_le h1
  obtain ⟨b, rfl⟩ := Int.eq_ofNat_of_zero_le h3
  have H := bits_one a b (by omega)
  have H' := Lib.hid H
  clear H
  have hs : IntKind.u64.signed = false := rfl
  go_enter Try.func33, Try.ntmps33
  go_wp2
  · go_ret
    exact ⟨ret_int H'.out, rfl⟩

/-- what has been set while the loop stands at m -/
def Upto (b : BitVec 64) (lo m hi st : Int) : Prop := ∀ v : Nat, b.getLsbD v = decide (v < 64 ∧ lo ≤ (v : Int) ∧ (v : Int) < m ∧ (v : Int) ≤ hi ∧ ((v : Int) - lo) % st = 0)

theorem upto_start (lo hi st : Int) : Upto 0#64 lo lo hi st := by
  intro v
  simp
  omega

theorem upto_step {b : BitVec 64} {lo hi st : Int} {m : Nat} (h : Upto b lo m hi st) (hm : lo ≤ (m : Int)) (hh : (m : Int) ≤ hi) (hd : ((m : Int) - lo) % st = 0) (hs : 1 ≤ st) :
    Upto (b ||| (1#64 <<< m)) lo ((m : Int) + st) hi st ∧ ((m : Int) + st - lo) % st = 0 := by
  constructor
  · intro v
    rw [BitVec.getLsbD_or, h v, one_shl, Bool.eq_iff_iff]
    simp only [Bool.or_eq_true, Bool.and_eq_true, decide_eq_true_eq]
    constructor
    · rintro (⟨h1, h2, h3, h4, h5⟩ | ⟨h1, rfl⟩)
      · exact ⟨h1, h2, by omega, h4, h5⟩
      · exact ⟨h1, hm, by omega, hh, hd⟩
    · rintro ⟨h1, h2, h3, h4, h5⟩
      by_cases e : v < m
      · exact .inl ⟨h1, h2, by omega, h4, h5⟩
      · refine .inr ⟨h1, ?_⟩
        have d1 := Int.dvd_of_emod_eq_zero h5
        have d2 := Int.dvd_of_emod_eq_zero hd
        have d3 : st ∣ ((v : Int) - lo) - ((m : Int) - lo) := Int.dvd_sub d1 d2
        have d4 : st ∣ ((v : Int) - m) := by
          have : ((v : Int) - lo) - ((m : Int) - lo) = (v : Int) - m := by omega
          rwa [this] at d3
        have := Int.emod_eq_zero_of_dvd d4
        rw [Int.emod_eq_of_lt (by omega) (by omega)] at this
        omega
  · have : (m : Int) + st - lo = ((m : Int) - lo) + st := by omega
    rw [this, Int.add_emod_right]; exact hd

theorem upto_end {b : BitVec 64} {lo m hi st : Int} (h : Upto b lo m hi st) (hm : hi < m) : b = gb lo hi st := by
  apply set_ext
  intro v hv
  rw [h v, gb_get, Bool.eq_iff_iff]
  simp only [decide_eq_true_eq]
  constructor
  · rintro ⟨h1, h2, h3, h4, h5⟩; exact ⟨h1, h2, h4, h5⟩
  · rintro ⟨h1, h2, h3, h4⟩; exact ⟨h1, h2, by omega, h3, h4⟩

theorem or_shl (b : BitVec 64) (m : Nat) : bits BinOp.or IntKind.u64 (un b) (IntKind.u64.wrap (2 ^ m)) = un (b ||| (1#64 <<< m)) := by
  rw [show ((2 : Int) ^ m) = un 1#64 * 2 ^ m from (Int.one_mul _).symm, shl_un, or_un]

set_option maxHeartbeats 400000 in
theorem getBits_many (a b c : Int) (h1 : 0 ≤ a) (h3 : 0 ≤ b) (h4 : b ≤ 63) (h2 : a ≤ 63) (h5 : 2 ≤ c) (h6 : c ≤ 4294967296) (w : World) :
    Calls Try.prog 33 #[.int .u64 a, .int .u64 b, .int .u64 c] w fun e w' => e = .returned (.int .u64 (un (gb a b c))) ∧ w = w' := by
  have h7 : (c == 1) = false := by simp; omega
  have hs : IntKind.u64.signed = false := rfl
  go_enter Try.func33, Try.ntmps33
  go_wp2
  go_loop [7, 8] (fun x i => ∃ (m : Int) (y : BitVec 64), x = .int .u64 (un y) ∧ i = .int .u64 m ∧ a ≤ m ∧ m ≤ 63 + 4294967296 ∧ (m - a) % c = 0 ∧ Upto y a m b c) (fun _ i => (63 + 4294967296 - intOf i).toNat)
  case atStart => exact ⟨a, 0#64, rfl, rfl, by omega, by omega, by simp, upto_start a b c⟩
  case round =>
    obtain ⟨m, y, rfl, rfl, hm1, hm2, hm3, hm4⟩ := hrel
    have HM := Lib.hid hm3
    clear hm3
    by_cases hlt : m ≤ b
    · obtain ⟨n, rfl⟩ := Int.eq_ofNat_of_zero_le (show 0 ≤ m by omega)
      have hst := upto_step hm4 hm1 hlt HM.out (by omega)
      have HS := Lib.hid hst
      clear hst
      go_wp2
      go_round
      case rel => exact ⟨(n : Int) + c, y ||| (1#64 <<< n), by rw [or_shl], rfl, by omega, by omega, HS.out.2, HS.out.1⟩
      case measure => simp [intOf]; omega
    · have HE := Lib.hid (upto_end hm4 (by omega))
      go_wp2
      go_ret
      exact ⟨ret_int (by rw [HE.out]), rfl⟩

theorem getBits_any (a b c : Int) (h1 : 0 ≤ a) (h2 : a ≤ 63) (h3 : 0 ≤ b) (h4 : b ≤ 63) (h5 : 1 ≤ c) (h6 : c ≤ 4294967296) (w : World) :
    Calls Try.prog 33 #[.int .u64 a, .int .u64 b, .int .u64 c] w fun e w' => e = .returned (.int .u64 (un (gb a b c))) ∧ w = w' := by
  by_cases h : c = 1
  · subst h; exact getBits_one a b h1 h2 h3 h4 w
  · exact getBits_many a b c h1 h3 h4 h2 (by omega) h6 w

theorem ZZBits_any (a b c : Int) (h1 : 0 ≤ a) (h2 : a ≤ 63) (h3 : 0 ≤ b) (h4 : b ≤ 63) (h5 : 1 ≤ c) (h6 : c ≤ 4294967296) (w : World) :
    Calls Try.prog 21 #[.int .u64 a, .int .u64 b, .int .u64 c] w fun e w' => e = .returned (.int .u64 (un (gb a b c))) ∧ w = w' := by
  go_enter Try.func21, Try.ntmps21
  go_wp2_with (go_at_call 33; refine (getBits_any _ _ _ h1 h2 h3 h4 h5 h6 _).mono ?_; rintro e w' ⟨rfl, rfl⟩)
  go_ret
  exact ⟨rfl, rfl⟩

theorem CronBits_any (a b c : Int) (h1 : 0 ≤ a) (h2 : a ≤ 63) (h3 : 0 ≤ b) (h4 : b ≤ 63) (h5 : 1 ≤ c) (h6 : c ≤ 4294967296) (w : World) :
    Calls Try.prog 9 #[.int .u64 a, .int .u64 b, .int .u64 c] w fun e w' => e = .returned (.int .u64 (un (gb a b c))) ∧ w = w' := by
  go_enter Try.func9, Try.ntmps9
  go_wp2_with (go_at_call 21; refine (ZZBits_any _ _ _ h1 h2 h3 h4 h5 h6 _).mono ?_; rintro e w' ⟨rfl, rfl⟩)
  go_ret
  exact ⟨rfl, rfl⟩
end Go.Proofs.Ytapdpmjbfplmfaa
