/-
  The calendar, in plain words: the program's date of a day is its date.
-/
import Derived.Test.YtdgglkihiibmhaaCalb
namespace Go.Proofs.Ytdgglkihiibmhaa.Cal
/-- a year's days, by the years that begin in March: the last has the leap day -/
theorem S_leap (Y : Nat) (y : Int) (h : (Y : Int) = y - 1 + 292277022400) : (S (Y + 1) : Int) = S Y + 365 + lp y := by
  have h1 := YS_abs Y y h
  have h2 := YS_abs (Y + 1) (y + 1) (by omega)
  have h3 := YS_next y
  omega
/-- the months of a year that begins in March -/
theorem mstart_vals : ∀ m, 3 ≤ m → m ≤ 14 → (m = 3 ∧ mstart m = 0) ∨ (m = 4 ∧ mstart m = 31) ∨ (m = 5 ∧ mstart m = 61) ∨ (m = 6 ∧ mstart m = 92) ∨ (m = 7 ∧ mstart m = 122) ∨ (m = 8 ∧ mstart m = 153) ∨ (m = 9 ∧ mstart m = 184) ∨ (m = 10 ∧ mstart m = 214) ∨ (m = 11 ∧ mstart m = 245) ∨ (m = 12 ∧ mstart m = 275) ∨ (m = 13 ∧ mstart m = 306) ∨ (m = 14 ∧ mstart m = 337) := by
  intro m h1 h2
  have hm : m = 3 ∨ m = 4 ∨ m = 5 ∨ m = 6 ∨ m = 7 ∨ m = 8 ∨ m = 9 ∨ m = 10 ∨ m = 11 ∨ m = 12 ∨ m = 13 ∨ m = 14 := by omega
  rcases hm with rfl | rfl | rfl | rfl | rfl | rfl | rfl | rfl | rfl | rfl | rfl | rfl <;> simp [mstart]
theorem mon_306 (y : Nat) (h : y < 366) : y < 306 ↔ mon y ≤ 12 := by unfold mon; omega
/-- year, month and day as the program reckons them from a day of the absolute count -/
def gY (N : Nat) : Int := if yday N < 306 then (yearA N : Int) - 292277022400 else (yearA N : Int) - 292277022400 + 1
def gM (N : Nat) : Int := if yday N < 306 then (mon (yday N) : Int) else (mon (yday N) : Int) - 12
def gD (N : Nat) : Int := (mday (yday N) : Int)
theorem go_civil (N : Nat) (n : Int) (h : (N : Int) = n + (A0 : Nat)) : IsDate n (gY N) (gM N) (gD N) := by
  have hy := yday_lt N
  have hs := split N
  have hl := split_lt N
  have hb := mon_bounds (yday N) hy
  have hm := mon_split (yday N) hy
  have hn := mon_next (yday N)
  have h3 := mon_306 (yday N) hy
  have hv := mstart_vals (mon (yday N)) hb.1 hb.2
  have e15 : mstart 15 = 367 := rfl
  by_cases hc : yday N < 306
  · -- March to December
    have eY : gY N = (yearA N : Int) - 292277022400 := by unfold gY; rw [if_pos hc]
    have eM : gM N = (mon (yday N) : Int) := by unfold gM; rw [if_pos hc]
    have hle : yearA N ≥ 1 ∨ yearA N = 0 := by omega
    have hm12 : mon (yday N) ≤ 12 := h3.1 hc
    have key : (N : Int) = YS (gY N) + (A0 : Nat) + 59 + lp (gY N) + yday N := by
      rcases hle with h1 | h1
      · have a1 := YS_abs (yearA N - 1) (gY N) (by rw [eY]; omega)
        have a2 := S_leap (yearA N - 1) (gY N) (by rw [eY]; omega)
        rw [show yearA N - 1 + 1 = yearA N by omega] at a2
        omega
      · have a1 := YS_abs 0 (gY N + 1) (by rw [eY, h1]; rfl)
        have a2 := YS_next (gY N)
        have e0 : S 0 = 0 := rfl
        rw [h1] at hs
        omega
    rw [eY] at key ⊢
    rw [eM]
    unfold gD
    generalize (yearA N : Int) - 292277022400 = y at key ⊢
    generalize mon (yday N) = m at *
    generalize mday (yday N) = d at *
    generalize yday N = q at *
    have hl2 := lp_01 y
    rcases hv with ⟨rfl, e⟩ | ⟨rfl, e⟩ | ⟨rfl, e⟩ | ⟨rfl, e⟩ | ⟨rfl, e⟩ | ⟨rfl, e⟩ | ⟨rfl, e⟩ | ⟨rfl, e⟩ | ⟨rfl, e⟩ | ⟨rfl, e⟩ | ⟨rfl, e⟩ | ⟨rfl, e⟩ <;> first
      | omega
      | exact ⟨by decide, by decide, by omega, by simp [MD]; simp [mstart] at hn; omega, by simp [CM]; omega⟩
  · -- January, February
    have eY : gY N = (yearA N : Int) - 292277022400 + 1 := by unfold gY; rw [if_neg hc]
    have eM : gM N = (mon (yday N) : Int) - 12 := by unfold gM; rw [if_neg hc]
    have hm12 : ¬ mon (yday N) ≤ 12 := fun x => hc (h3.2 x)
    have a1 := YS_abs (yearA N) (gY N) (by rw [eY]; omega)
    have a2 := S_leap (yearA N) (gY N) (by rw [eY]; omega)
    rw [eY] at a1 a2 ⊢
    rw [eM]
    unfold gD
    generalize (yearA N : Int) - 292277022400 + 1 = y at a1 a2 ⊢
    generalize S (yearA N) = s0 at *
    generalize S (yearA N + 1) = s1 at *
    generalize mon (yday N) = m at *
    generalize mday (yday N) = d at *
    generalize yday N = q at *
    have hl2 := lp_01 y
    rcases hv with ⟨rfl, e⟩ | ⟨rfl, e⟩ | ⟨rfl, e⟩ | ⟨rfl, e⟩ | ⟨rfl, e⟩ | ⟨rfl, e⟩ | ⟨rfl, e⟩ | ⟨rfl, e⟩ | ⟨rfl, e⟩ | ⟨rfl, e⟩ | ⟨rfl, e⟩ | ⟨rfl, e⟩ <;> first
      | omega
      | exact ⟨by decide, by decide, by omega, by simp [MD]; simp [mstart] at hn; omega, by simp [CM]; omega⟩
theorem mstart_979 : ∀ m, m < 15 → 3 ≤ m → (979 * m - 2919) / 32 = mstart m := by decide
/-- a year's and a month's first day of the absolute count, as the program reckons it -/
theorem abs_date (y m : Int) (h1 : 1 ≤ m) (h2 : m ≤ 12) (Y am : Nat) (hY : (Y : Int) = (if m < 3 then y - 1 else y) + 292277022400) (ha : (am : Int) = if m < 3 then m + 12 else m) (hpos : -292277022399 ≤ y) : (S Y : Int) + mstart am = YS y + CM y m + (A0 : Nat) := by
  have hl := lp_01 y
  by_cases hc : m < 3
  · rw [if_pos hc] at hY ha
    have a1 := YS_abs Y y (by omega)
    have hm : m = 1 ∨ m = 2 := by omega
    rcases hm with rfl | rfl
    · obtain rfl : am = 13 := by omega
      have e : mstart 13 = 306 := rfl
      have c : CM y 1 = 0 := rfl
      omega
    · obtain rfl : am = 14 := by omega
      have e : mstart 14 = 337 := rfl
      have c : CM y 2 = 31 := rfl
      omega
  · rw [if_neg hc] at hY ha
    have a1 := YS_abs (Y - 1) y (by omega)
    have a2 := S_leap (Y - 1) y (by omega)
    rw [show Y - 1 + 1 = Y by omega] at a2
    have hv := mstart_vals am (by omega) (by omega)
    have hm : m = 3 ∨ m = 4 ∨ m = 5 ∨ m = 6 ∨ m = 7 ∨ m = 8 ∨ m = 9 ∨ m = 10 ∨ m = 11 ∨ m = 12 := by omega
    generalize ((A0 : Nat) : Int) = A at *
    rcases hm with rfl | rfl | rfl | rfl | rfl | rfl | rfl | rfl | rfl | rfl <;> simp [CM] <;> omega
end Go.Proofs.Ytdgglkihiibmhaa.Cal
