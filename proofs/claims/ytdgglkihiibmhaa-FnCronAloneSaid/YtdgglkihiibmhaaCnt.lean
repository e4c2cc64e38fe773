/-
  Counting the seconds that fit, in plain words.
-/
import Derived.Test.YtdgglkihiibmhaaFit
set_option linter.unusedVariables false
set_option linter.unusedSimpArgs false
namespace Go.Proofs.Ytdgglkihiibmhaa
open Go Cal

/-- how many of the first k values are in a set -/
def cn (B : Nat → Bool) : Nat → Nat
  | 0 => 0
  | k + 1 => cn B k + if B (1 + k) then 1 else 0
theorem cn_le (B : Nat → Bool) : ∀ k, cn B k ≤ k
  | 0 => Nat.le_refl _
  | k + 1 => by
    have := cn_le B k
    rw [cn]
    split <;> omega
/-- how many seconds of a day ahead of one are in the fields, by counts of hours, minutes, seconds -/
def partG (H M S : Nat → Nat) (aH aM : Nat → Bool) (h m c : Nat) : Nat := H (min h 24) * M 60 * S 60 + (if h < 24 then (if aH h then M m * S 60 + (if aM m then S c else 0) else 0) else 0)
theorem partG_c (H M S : Nat → Nat) (aH aM aS : Nat → Bool) (hS : ∀ k, S (k + 1) = S k + if aS k then 1 else 0) (h m c : Nat) (h24 : h < 24) : partG H M S aH aM h m (c + 1) = partG H M S aH aM h m c + if aH h && aM m && aS c then 1 else 0 := by
  unfold partG
  rw [if_pos h24, if_pos h24]
  cases aH h
  · simp
  · cases aM m
    · simp
    · have := hS c
      simp only [if_true, Bool.true_and]
      omega
theorem partG_m (H M S : Nat → Nat) (aH aM aS : Nat → Bool) (hM : ∀ k, M (k + 1) = M k + if aM k then 1 else 0) (hS : ∀ k, S (k + 1) = S k + if aS k then 1 else 0) (S0 : S 0 = 0) (h m : Nat) (h24 : h < 24) : partG H M S aH aM h (m + 1) 0 = partG H M S aH aM h m 59 + if aH h && aM m && aS 59 then 1 else 0 := by
  unfold partG
  rw [if_pos h24, if_pos h24, S0, hM m]
  have h60 := hS 59
  rw [show 59 + 1 = 60 from rfl] at h60
  cases aH h
  · simp
  · cases aM m
    · simp
    · simp only [if_true, Bool.true_and, Nat.add_mul, Nat.one_mul, ite_self]
      omega
theorem partG_h (H M S : Nat → Nat) (aH aM aS : Nat → Bool) (hH : ∀ k, H (k + 1) = H k + if aH k then 1 else 0) (hM : ∀ k, M (k + 1) = M k + if aM k then 1 else 0) (hS : ∀ k, S (k + 1) = S k + if aS k then 1 else 0) (M0 : M 0 = 0) (S0 : S 0 = 0) (h : Nat) (h24 : h < 24) : partG H M S aH aM (h + 1) 0 0 = partG H M S aH aM h 59 59 + if aH h && aM 59 && aS 59 then 1 else 0 := by
  unfold partG
  rw [if_pos h24, S0, M0, Nat.min_eq_left (show h + 1 ≤ 24 by omega), Nat.min_eq_left (show h ≤ 24 by omega), hH h]
  have h60 := hS 59
  rw [show 59 + 1 = 60 from rfl] at h60
  have m60 := hM 59
  rw [show 59 + 1 = 60 from rfl] at m60
  have k : M 60 * S 60 = M 59 * S 60 + (if aM 59 then 1 else 0) * S 60 := by rw [m60, Nat.add_mul]
  cases aH h
  · simp
  · cases hm : aM 59
    · rw [hm] at k
      simp only [if_true, Bool.true_and, Nat.add_mul, Nat.one_mul, ite_self, Nat.zero_mul, Bool.false_eq_true, if_false, Bool.false_and] at k ⊢
      omega
    · rw [hm] at k
      simp only [if_true, Bool.true_and, Nat.add_mul, Nat.one_mul, ite_self, Nat.zero_mul] at k ⊢
      omega
/-- .. of the fields -/
def part (A : Nat → Bool) (s : Nat) : Nat := partG (cn fun j => A (128 + j)) (cn fun j => A (64 + j)) (cn fun j => A (0 + j)) (fun k => A (129 + k)) (fun k => A (65 + k)) (s / 3600) (s / 60 % 60) (s % 60)
/-- is a second of the day in the fields -/
def tim (A : Nat → Bool) (s : Nat) : Bool := A (129 + s / 3600) && A (65 + s / 60 % 60) && A (1 + s % 60)
theorem cn_at (A : Nat → Bool) (o : Nat) (k : Nat) : cn (fun j => A (o + j)) (k + 1) = cn (fun j => A (o + j)) k + if A (o + 1 + k) then 1 else 0 := by
  rw [cn, Nat.add_assoc]
theorem part_step (A : Nat → Bool) (s : Nat) (hs : s < 86400) : part A (s + 1) = part A s + if tim A s then 1 else 0 := by
  unfold part tim
  obtain ⟨h, eh⟩ : ∃ h, h = s / 3600 := ⟨_, rfl⟩
  obtain ⟨m, em⟩ : ∃ m, m = s / 60 % 60 := ⟨_, rfl⟩
  obtain ⟨c, ec⟩ : ∃ c, c = s % 60 := ⟨_, rfl⟩
  have h24 : h < 24 := by omega
  have hS := cn_at A 0
  have hM := cn_at A 64
  have hH := cn_at A 128
  rw [← eh, ← em, ← ec]
  by_cases c1 : c < 59
  · rw [show (s + 1) / 3600 = h by omega, show (s + 1) / 60 % 60 = m by omega, show (s + 1) % 60 = c + 1 by omega]
    exact partG_c _ _ _ (fun k => A (129 + k)) (fun k => A (65 + k)) (fun k => A (1 + k)) hS h m c h24
  · by_cases c2 : m < 59
    · rw [show (s + 1) / 3600 = h by omega, show (s + 1) / 60 % 60 = m + 1 by omega, show (s + 1) % 60 = 0 by omega, show c = 59 by omega]
      exact partG_m _ _ _ (fun k => A (129 + k)) (fun k => A (65 + k)) (fun k => A (1 + k)) hM hS rfl h m h24
    · rw [show (s + 1) / 3600 = h + 1 by omega, show (s + 1) / 60 % 60 = 0 by omega, show (s + 1) % 60 = 0 by omega, show c = 59 by omega, show m = 59 by omega]
      exact partG_h _ _ _ (fun k => A (129 + k)) (fun k => A (65 + k)) (fun k => A (1 + k)) hH hM hS rfl rfl h h24
theorem part_zero (A : Nat → Bool) : part A 0 = 0 := by
  have f0 : cn (fun j => A (64 + j)) 0 = 0 := rfl
  have e0 : cn (fun j => A (0 + j)) 0 = 0 := rfl
  have h0 : cn (fun j => A (128 + j)) 0 = 0 := rfl
  unfold part partG
  simp only [show 0 / 3600 = 0 from rfl, show 0 / 60 % 60 = 0 from rfl]
  rw [show min 0 24 = 0 from rfl, h0, f0, e0, Nat.zero_mul, Nat.zero_mul]
  simp
theorem part_mono (A : Nat → Bool) (a : Nat) : ∀ k, a + k ≤ 86400 → part A a ≤ part A (a + k)
  | 0, _ => Nat.le_refl _
  | k + 1, h => by
    have := part_mono A a k (by omega)
    have := part_step A (a + k) (by omega)
    rw [show a + (k + 1) = a + k + 1 by omega]
    omega
theorem part_le (A : Nat → Bool) : ∀ k, k ≤ 86400 → part A k ≤ k
  | 0, _ => by rw [part_zero]; omega
  | k + 1, h => by
    have := part_le A k (by omega)
    have := part_step A k (by omega)
    split at this <;> omega
/-- how many of k seconds from x on a word holds of -/
def nf (P : Int → Bool) (x : Int) : Nat → Nat
  | 0 => 0
  | k + 1 => nf P x k + if P (x + (k : Nat)) then 1 else 0
theorem nf_add (P : Int → Bool) (x : Int) (j : Nat) : ∀ k, nf P x (j + k) = nf P x j + nf P (x + j) k
  | 0 => rfl
  | k + 1 => by
    have e : j + (k + 1) = (j + k) + 1 := by omega
    rw [e, nf, nf, nf_add P x j k, show x + ((j + k : Nat) : Int) = x + j + k by omega]
    omega
theorem nf_zero (P : Int → Bool) (x : Int) : ∀ k : Nat, (∀ z, x ≤ z → z < x + k → P z = false) → nf P x k = 0
  | 0, _ => rfl
  | k + 1, h => by
    rw [nf, nf_zero P x k (fun z h0 h1 => h z h0 (by omega)), h (x + k) (by omega) (by omega)]
    rfl
theorem nf_one (P : Int → Bool) (x r : Int) (k : Nat) (h0 : x ≤ r) (h1 : r < x + k) (hr : P r = true) (ho : ∀ z, x ≤ z → z < r → P z = false) (h2 : r + 1 = x + k) : nf P x k = 1 := by
  obtain ⟨j, rfl⟩ : ∃ j, k = j + 1 := ⟨k - 1, by omega⟩
  rw [nf, nf_zero P x j (fun z a b => ho z a (by omega)), show x + (j : Int) = r by omega, hr]
  rfl
theorem part_nf (A : Nat → Bool) (P : Int → Bool) (D : Int) (a : Nat) (hP : ∀ s : Nat, s < 86400 → P (D + s) = tim A s) : ∀ k : Nat, a + k ≤ 86400 → part A (a + k) = part A a + nf P (D + a) k
  | 0, _ => rfl
  | k + 1, h => by
    rw [show a + (k + 1) = a + k + 1 by omega, part_step A (a + k) (by omega), part_nf A P D a hP k (by omega), nf, show D + (a : Int) + k = D + ((a + k : Nat) : Int) by omega, hP (a + k) (by omega)]
    omega
end Go.Proofs.Ytdgglkihiibmhaa
