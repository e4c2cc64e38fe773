/-
  The calendar, in plain words: days of years that begin in March, months, dates.
-/
namespace Go.Proofs.Ytdgglkihiibmhaa.Cal
/-- the first day of a year that begins in March, counted from an absolute zero -/
def S (y : Nat) : Nat := 365 * y + y / 4 + y / 400 - y / 100
/-- century, year of the century, day of the year -/
def cent (n : Nat) : Nat := (4 * n + 3) / 146097
def cday (n : Nat) : Nat := (4 * n + 3) % 146097 / 4
def cyear (n : Nat) : Nat := (4 * cday n + 3) / 1461
def yday (n : Nat) : Nat := (4 * cday n + 3) % 1461 / 4
def yearA (n : Nat) : Nat := 100 * cent n + cyear n
theorem cday_lt (n : Nat) : cday n < 36525 := by unfold cday; omega
theorem cyear_lt (n : Nat) : cyear n < 100 := by have := cday_lt n; unfold cyear; omega
theorem yday_lt (n : Nat) : yday n < 366 := by unfold yday; omega
theorem cent_split (n : Nat) : n = cday n + (36524 * cent n + cent n / 4) := by unfold cday cent; omega
theorem year_split (n : Nat) : cday n = 365 * cyear n + cyear n / 4 + yday n := by unfold cyear yday; omega
theorem S_cent (c y : Nat) (h : y < 100) : S (100 * c + y) = 36524 * c + c / 4 + (365 * y + y / 4) := by
  have h1 : (100 * c + y) / 4 = 25 * c + y / 4 := by omega
  have h2 : (100 * c + y) / 100 = c := by omega
  have h3 : (100 * c + y) / 400 = c / 4 := by omega
  unfold S
  rw [h1, h2, h3]
  omega
/-- a day is in its year -/
theorem split (n : Nat) : n = S (yearA n) + yday n := by
  have h1 := cyear_lt n
  have h2 := cent_split n
  have h3 := year_split n
  unfold yearA
  rw [S_cent _ _ h1]
  omega
theorem yday_last (n : Nat) : yday n ≤ 364 ∨ (yday n = 365 ∧ cyear n % 4 = 3 ∧ (cyear n = 99 → cent n % 4 = 3)) := by
  have h0 : yday n ≤ 364 ∨ (yday n = 365 ∧ cyear n % 4 = 3) := by
    obtain ⟨q, r, hq, hr⟩ : ∃ q r, 4 * cday n + 3 = 1461 * q + r ∧ r < 1461 := ⟨(4 * cday n + 3) / 1461, (4 * cday n + 3) % 1461, by omega, by omega⟩
    have e1 : cyear n = q := by unfold cyear; omega
    have e2 : yday n = r / 4 := by unfold yday; omega
    rw [e1, e2]
    by_cases h : r = 1460
    · exact Or.inr ⟨by omega, by omega⟩
    · exact Or.inl (by omega)
  have hz : cday n = 36524 → cent n % 4 = 3 := by unfold cday cent; omega
  have h3 := year_split n
  omega
theorem split_lt (n : Nat) : n < S (yearA n + 1) := by
  have h1 := cyear_lt n
  have h2 := cent_split n
  have h3 := year_split n
  have h4 := yday_last n
  unfold yearA
  by_cases h : cyear n < 99
  · rw [Nat.add_assoc, S_cent _ _ (by omega)]
    omega
  · have h5 : 100 * cent n + cyear n + 1 = 100 * (cent n + 1) + 0 := by omega
    rw [h5, S_cent _ _ (by omega)]
    omega
theorem S_mono (y : Nat) : S y + 365 ≤ S (y + 1) := by
  have h1 : (y + 1) / 100 + y / 4 ≤ y / 100 + (y + 1) / 4 := by
    by_cases h : (y + 1) % 100 = 0
    · omega
    · have : (y + 1) / 100 = y / 100 := by omega
      omega
  have h2 : y / 400 ≤ (y + 1) / 400 := by omega
  have h3 : y / 100 ≤ y := by omega
  have h4 : (y + 1) / 100 ≤ y + 1 := by omega
  unfold S
  generalize y / 100 = a at *
  generalize (y + 1) / 100 = b at *
  generalize y / 4 = c at *
  generalize (y + 1) / 4 = d at *
  generalize y / 400 = e at *
  generalize (y + 1) / 400 = f at *
  omega
/-- as the program reckons it: a multiplication for the divisions -/
theorem mul_hi (c : Nat) (h : c < 36525) : 2939745 * (4 * c + 3) / 4294967296 = (4 * c + 3) / 1461 := by omega
theorem mul_lo (c : Nat) (h : c < 36525) : 2939745 * (4 * c + 3) % 4294967296 / 2939745 / 4 = (4 * c + 3) % 1461 / 4 := by
  obtain ⟨q, r, hq, hr, hq9⟩ : ∃ q r, 4 * c + 3 = 1461 * q + r ∧ r < 1461 ∧ q < 100 := ⟨(4 * c + 3) / 1461, (4 * c + 3) % 1461, by omega, by omega, by omega⟩
  have e1 : (4 * c + 3) % 1461 = r := by omega
  have e2 : 2939745 * (4 * c + 3) % 4294967296 = 149 * q + 2939745 * r := by omega
  have e3 : (149 * q + 2939745 * r) / 2939745 = r := by omega
  rw [e1, e2, e3]
/-- month of a year that begins in March: 3 to 14; the day of the month -/
def mon (y : Nat) : Nat := (5 * y + 461) / 153
def mday (y : Nat) : Nat := (5 * y + 461) % 153 / 5 + 1
def mstart (m : Nat) : Nat := (153 * m - 457) / 5
theorem mon_all : ∀ y, y < 367 → (2141 * y + 197913) / 65536 = (5 * y + 461) / 153 ∧ (2141 * y + 197913) % 65536 / 2141 + 1 = (5 * y + 461) % 153 / 5 + 1 := by decide +kernel
theorem mon_hi (y : Nat) (h : y < 367) : (2141 * y + 197913) / 65536 = mon y := (mon_all y h).1
theorem mon_lo (y : Nat) (h : y < 367) : (2141 * y + 197913) % 65536 / 2141 + 1 = mday y := (mon_all y h).2
theorem mon_bounds (y : Nat) (h : y < 366) : 3 ≤ mon y ∧ mon y ≤ 14 := by unfold mon; omega
theorem mon_split (y : Nat) (h : y < 366) : y + 1 = mstart (mon y) + mday y ∧ 1 ≤ mday y := by
  unfold mon mday mstart
  omega
theorem mon_next (y : Nat) : y < mstart (mon y + 1) := by unfold mon mstart; omega
end Go.Proofs.Ytdgglkihiibmhaa.Cal
