import Derived.Test.YtapdpmjbfplmfaaGetBits
namespace Go.Proofs.Ytapdpmjbfplmfaa
open Go.ChangeShapes Go.WideShapes Go.ChangeAt Go.RowKit

/-- what has been seen after k sets -/
def seen (lo hi st : Int) (k : Nat) : BitVec 64 := setOf (fun v => decide (lo ≤ (v : Int) ∧ (v : Int) ≤ hi ∧ ((v : Int) - lo) % st < k)) 64

theorem seen_get (lo hi st : Int) (k v : Nat) : (seen lo hi st k).getLsbD v = decide (v < 64 ∧ lo ≤ (v : Int) ∧ (v : Int) ≤ hi ∧ ((v : Int) - lo) % st < k) := by
  unfold seen
  rw [setOf_get, Bool.eq_iff_iff]
  simp only [Bool.and_eq_true, decide_eq_true_eq]
  constructor
  · rintro ⟨h1, _, h⟩; exact ⟨h1, h⟩
  · rintro ⟨h1, h⟩; exact ⟨h1, h1, h⟩

theorem seen_zero (lo hi st : Int) (hs : 1 ≤ st) : seen lo hi st 0 = 0#64 := by
  apply set_ext
  intro v _
  rw [seen_get]
  have := Int.emod_nonneg ((v : Int) - lo) (show st ≠ 0 by omega)
  simp
  omega

theorem mod_shift {v lo st : Int} {k : Nat} (hk : (k : Int) < st) : (v - (lo + k)) % st = 0 ↔ (v - lo) % st = k := by
  constructor
  · intro h1
    have d := Int.dvd_of_emod_eq_zero h1
    have e : v - lo = (v - (lo + k)) + k := by omega
    obtain ⟨q, hq⟩ := d
    rw [e, hq, Int.mul_add_emod_self_left, Int.emod_eq_of_lt (by omega) hk]
  · intro h1
    have e : v - lo = st * ((v - lo) / st) + k := by have := Int.mul_ediv_add_emod (v - lo) st; omega
    have e2 : v - (lo + k) = st * ((v - lo) / st) := by omega
    rw [e2, Int.mul_emod_right]

theorem small_mod {x st : Int} (h0 : 0 ≤ x) (h : x < st) : x % st = x := Int.emod_eq_of_lt h0 h

theorem seen_apart (lo hi st : Int) (k : Nat) (hk : (k : Int) < st) : (gb (lo + k) hi st) &&& (seen lo hi st k) = 0#64 := by
  apply set_ext
  intro v hv
  rw [BitVec.getLsbD_and, gb_get, seen_get]
  simp only [BitVec.getLsbD_zero, Bool.and_eq_false_iff, decide_eq_false_iff_not]
  by_cases h : lo + k ≤ (v : Int)
  · by_cases h2 : ((v : Int) - (lo + k)) % st = 0
    · right
      rw [mod_shift hk] at h2
      omega
    · left; omega
  · left; omega

theorem seen_succ (lo hi st : Int) (k : Nat) (hk : (k : Int) < st) : (seen lo hi st k) ||| (gb (lo + k) hi st) = seen lo hi st (k + 1) := by
  apply set_ext
  intro v hv
  rw [BitVec.getLsbD_or, gb_get, seen_get, seen_get, Bool.eq_iff_iff]
  simp only [Bool.or_eq_true, decide_eq_true_eq]
  constructor
  · rintro (⟨h1, h2, h3, h4⟩ | ⟨h1, h2, h3, h4⟩)
    · exact ⟨h1, h2, h3, by omega⟩
    · rw [mod_shift hk] at h4
      exact ⟨h1, by omega, h3, by omega⟩
  · rintro ⟨h1, h2, h3, h4⟩
    by_cases e : ((v : Int) - lo) % st = k
    · right
      have hle : lo + k ≤ (v : Int) := by
        have a1 := Int.mul_ediv_add_emod ((v : Int) - lo) st
        have a2 := Int.mul_nonneg (show 0 ≤ st by omega) (Int.ediv_nonneg (show 0 ≤ (v : Int) - lo by omega) (show 0 ≤ st by omega))
        omega
      exact ⟨h1, hle, h3, (mod_shift hk).2 e⟩
    · left; exact ⟨h1, h2, h3, by omega⟩

theorem seen_all (lo hi st : Int) (k : Nat) (hs : 1 ≤ st) (h : (k : Int) = st ∨ hi < lo + k) : seen lo hi st k = gb lo hi 1 := by
  apply set_ext
  intro v hv
  rw [seen_get, gb_get, Bool.eq_iff_iff]
  simp only [decide_eq_true_eq]
  have h1 := Int.emod_lt_of_pos ((v : Int) - lo) (show 0 < st by omega)
  constructor
  · rintro ⟨h1, h2, h3, h4⟩; exact ⟨h1, h2, h3, by omega⟩
  · rintro ⟨h2, h3, h4, h5⟩
    refine ⟨h2, h3, h4, ?_⟩
    rcases h with h | h
    · omega
    · by_cases hb : (v : Int) - lo < st
      · rw [small_mod (by omega) hb]; omega
      · omega

theorem gb_not_zero (lo hi st : Nat) (h : lo ≤ hi) (hh : hi ≤ 63) : gb lo hi st ≠ 0#64 := by
  intro e
  have : (gb lo hi st).getLsbD lo = true := by
    rw [gb_get]; simp; omega
  rw [e] at this
  simp at this

theorem gb_low (lo hi : Nat) (h : lo ≤ hi) (hh : hi ≤ 63) : ((gb lo hi 1) >>> lo) &&& 1#64 = 1#64 := by
  apply set_ext
  intro v hv
  rw [BitVec.getLsbD_and, BitVec.getLsbD_ushiftRight, gb_get, BitVec.getLsbD_one, Bool.eq_iff_iff]
  simp
  omega

theorem gb_high (lo hi : Nat) (h : lo ≤ hi) (hh : hi ≤ 63) : ((gb lo hi 1) >>> hi) = 1#64 := by
  apply set_ext
  intro v hv
  rw [BitVec.getLsbD_ushiftRight, gb_get, BitVec.getLsbD_one, Bool.eq_iff_iff]
  simp
  omega

end Go.Proofs.Ytapdpmjbfplmfaa
