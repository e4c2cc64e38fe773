/- The sets of 64 values as bit vectors, and how the model's operations on uint64 read over them. Plain: no program in sight. -/
import Derived.IntWalk
import Derived.Laws.BitsLemmas
namespace Go.Proofs.Ytapdpmjbfplmfaa
open Go

/-- the number of a set -/
def un (b : BitVec 64) : Int := (b.toNat : Int)

theorem un_lo (b : BitVec 64) : 0 ≤ un b := Int.natCast_nonneg _
theorem un_hi (b : BitVec 64) : un b ≤ 18446744073709551615 := by
  have := b.isLt
  unfold un; omega

theorem un_inj {a b : BitVec 64} : un a = un b ↔ a = b := by
  unfold un
  constructor
  · intro h; exact BitVec.eq_of_toNat_eq (by omega)
  · intro h; rw [h]

theorem un_beq (a b : BitVec 64) : (un a == un b) = (a == b) := by
  rw [Bool.eq_iff_iff]; simp [un_inj]

theorem u64_wrap_nat (n : Nat) : IntKind.u64.wrap (n : Int) = ((n % 18446744073709551616 : Nat) : Int) := by
  simp only [IntKind.wrap, IntKind.bits, IntKind.signed]
  simp

theorem ofInt_un (a : BitVec 64) : BitVec.ofInt 64 (un a) = a := by
  unfold un; rw [BitVec.ofInt_natCast]; simp

theorem u64_un (a : BitVec 64) : IntKind.u64.wrap ((a.toNat : Nat) : Int) = un a := by
  rw [u64_wrap_nat, Nat.mod_eq_of_lt a.isLt]; rfl

theorem and_un (a b : BitVec 64) : bits .and .u64 (un a) (un b) = un (a &&& b) := by
  have h : bits .and .u64 (un a) (un b) = IntKind.u64.wrap (((BitVec.ofInt 64 (un a) &&& BitVec.ofInt 64 (un b)).toNat : Nat) : Int) := rfl
  rw [h, ofInt_un, ofInt_un, u64_un]

theorem or_un (a b : BitVec 64) : bits .or .u64 (un a) (un b) = un (a ||| b) := by
  have h : bits .or .u64 (un a) (un b) = IntKind.u64.wrap (((BitVec.ofInt 64 (un a) ||| BitVec.ofInt 64 (un b)).toNat : Nat) : Int) := rfl
  rw [h, ofInt_un, ofInt_un, u64_un]

theorem xor_un (a b : BitVec 64) : bits .xor .u64 (un a) (un b) = un (a ^^^ b) := by
  have h : bits .xor .u64 (un a) (un b) = IntKind.u64.wrap (((BitVec.ofInt 64 (un a) ^^^ BitVec.ofInt 64 (un b)).toNat : Nat) : Int) := rfl
  rw [h, ofInt_un, ofInt_un, u64_un]

theorem max_un : IntKind.u64.max = un (BitVec.allOnes 64) := by decide +kernel

theorem not_un (a : BitVec 64) : bits .xor .u64 IntKind.u64.max (un a) = un (~~~a) := by
  rw [max_un, xor_un, BitVec.allOnes_xor]

theorem shl_un (a : BitVec 64) (n : Nat) : IntKind.u64.wrap (un a * 2 ^ n) = un (a <<< n) := by
  have h : un a * 2 ^ n = ((a.toNat * 2 ^ n : Nat) : Int) := by unfold un; simp
  rw [h, u64_wrap_nat]
  unfold un
  rw [BitVec.toNat_shiftLeft, Nat.shiftLeft_eq]

theorem shr_un (a : BitVec 64) (n : Nat) : un a / 2 ^ n = un (a >>> n) := by
  unfold un
  rw [BitVec.toNat_ushiftRight, Nat.shiftRight_eq_div_pow]
  simp

theorem one_un : (1 : Int) = un 1#64 := rfl
theorem zero_un : (0 : Int) = un 0#64 := rfl
theorem ones_un : (18446744073709551615 : Int) = un (BitVec.allOnes 64) := by decide +kernel

/-- the set of the values below n with a property -/
def setOf (p : Nat → Bool) : Nat → BitVec 64
  | 0 => 0#64
  | n + 1 => if p n then setOf p n ||| (1#64 <<< n) else setOf p n

theorem one_shl (n v : Nat) : (1#64 <<< n).getLsbD v = (decide (v < 64) && decide (v = n)) := by
  rw [BitVec.getLsbD_shiftLeft, BitVec.getLsbD_one]
  by_cases h : v < 64
  · by_cases h2 : v < n
    · simp [h2]; omega
    · simp [h, h2]
      omega
  · simp [h]

theorem setOf_get (p : Nat → Bool) (n v : Nat) : (setOf p n).getLsbD v = (decide (v < 64) && (decide (v < n) && p v)) := by
  induction n with
  | zero => simp [setOf]
  | succ n ih =>
    unfold setOf
    by_cases hp : p n = true
    · rw [if_pos hp, BitVec.getLsbD_or, ih, one_shl, Bool.eq_iff_iff]
      simp only [Bool.or_eq_true, Bool.and_eq_true, decide_eq_true_eq]
      constructor
      · rintro (⟨h1, h2, h3⟩ | ⟨h1, rfl⟩)
        · exact ⟨h1, by omega, h3⟩
        · exact ⟨h1, by omega, hp⟩
      · rintro ⟨h1, h2, h3⟩
        by_cases e : v = n
        · exact .inr ⟨h1, e⟩
        · exact .inl ⟨h1, by omega, h3⟩
    · rw [if_neg hp, ih, Bool.eq_iff_iff]
      simp only [Bool.and_eq_true, decide_eq_true_eq]
      constructor
      · rintro ⟨h1, h2, h3⟩; exact ⟨h1, by omega, h3⟩
      · rintro ⟨h1, h2, h3⟩
        refine ⟨h1, ?_, h3⟩
        by_cases e : v = n
        · subst e; exact absurd h3 hp
        · omega

/-- low, low + step and so on up to high -/
def gb (lo hi st : Int) : BitVec 64 := setOf (fun v => decide (lo ≤ (v : Int) ∧ (v : Int) ≤ hi ∧ ((v : Int) - lo) % st = 0)) 64

theorem gb_get (lo hi st : Int) (v : Nat) : (gb lo hi st).getLsbD v = decide (v < 64 ∧ lo ≤ (v : Int) ∧ (v : Int) ≤ hi ∧ ((v : Int) - lo) % st = 0) := by
  unfold gb
  rw [setOf_get, Bool.eq_iff_iff]
  simp only [Bool.and_eq_true, decide_eq_true_eq]
  constructor
  · rintro ⟨h1, _, h⟩; exact ⟨h1, h⟩
  · rintro ⟨h1, h⟩; exact ⟨h1, h1, h⟩

/-- two sets are the same if they have the same values -/
theorem set_ext {a b : BitVec 64} (h : ∀ v : Nat, v < 64 → a.getLsbD v = b.getLsbD v) : a = b := BitVec.eq_of_getLsbD_eq (fun i hi => h i hi)

theorem gb_one (lo hi : Nat) (h2 : hi ≤ 63) : (~~~(BitVec.allOnes 64 <<< (hi + 1)) &&& (BitVec.allOnes 64 <<< lo)) = gb lo hi 1 := by
  apply set_ext
  intro v hv
  rw [gb_get, BitVec.getLsbD_and, BitVec.getLsbD_not, BitVec.getLsbD_shiftLeft, BitVec.getLsbD_shiftLeft, BitVec.getLsbD_allOnes, BitVec.getLsbD_allOnes, Bool.eq_iff_iff]
  simp [hv]
  omega

end Go.Proofs.Ytapdpmjbfplmfaa
