/-
  The calendar, in plain words: years that begin in January; what a day's date is.
-/
import Derived.Test.YtdgglkihiibmhaaCal
namespace Go.Proofs.Ytdgglkihiibmhaa.Cal
/-- the years ahead of year 0; the first day of 1970 -/
abbrev AY : Nat := 292277022400
abbrev A0 : Nat := S 292277024369 + 306
def lp (y : Int) : Int := if y % 4 = 0 ∧ (y % 100 ≠ 0 ∨ y % 400 = 0) then 1 else 0
theorem lp_01 (y : Int) : lp y = 0 ∨ lp y = 1 := by unfold lp; split <;> omega
/-- days from the first of 1970 to the first of a year -/
def YS (y : Int) : Int := 365 * (y - 1) + (y - 1) / 4 - (y - 1) / 100 + (y - 1) / 400 - 719162
theorem YS_next (y : Int) : YS (y + 1) = YS y + 365 + lp y := by
  have h4 : y / 4 = (y - 1) / 4 + (if y % 4 = 0 then 1 else 0) := by split <;> omega
  have h1 : y / 100 = (y - 1) / 100 + (if y % 100 = 0 then 1 else 0) := by split <;> omega
  have h0 : y / 400 = (y - 1) / 400 + (if y % 400 = 0 then 1 else 0) := by split <;> omega
  unfold YS lp
  rw [show y + 1 - 1 = y by omega, h4, h1, h0]
  generalize (y - 1) / 4 = a
  generalize (y - 1) / 100 = b
  generalize (y - 1) / 400 = c
  by_cases k4 : y % 4 = 0
  · by_cases k1 : y % 100 = 0
    · by_cases k0 : y % 400 = 0
      · rw [if_pos k4, if_pos k1, if_pos k0, if_pos ⟨k4, Or.inr k0⟩]; omega
      · rw [if_pos k4, if_pos k1, if_neg k0, if_neg (fun h => h.2.elim (fun h => h k1) k0)]; omega
    · have k0 : ¬ y % 400 = 0 := by omega
      rw [if_pos k4, if_neg k1, if_neg k0, if_pos ⟨k4, Or.inl k1⟩]; omega
  · have k1 : ¬ y % 100 = 0 := by omega
    have k0 : ¬ y % 400 = 0 := by omega
    rw [if_neg k4, if_neg k1, if_neg k0, if_neg (fun h => k4 h.1)]; omega
/-- the first of January, by the years that begin in March -/
theorem YS_abs (Y : Nat) (y : Int) (h : (Y : Int) = y - 1 + 292277022400) : (S Y : Int) + 306 = YS y + (A0 : Nat) := by
  have e4 : ((Y / 4 : Nat) : Int) = (y - 1) / 4 + 73069255600 := by omega
  have e1 : ((Y / 100 : Nat) : Int) = (y - 1) / 100 + 2922770224 := by omega
  have e0 : ((Y / 400 : Nat) : Int) = (y - 1) / 400 + 730692556 := by omega
  have hle : Y / 100 ≤ Y := Nat.div_le_self _ _
  have hS : (S Y : Int) = 365 * (Y : Int) + ((Y / 4 : Nat) : Int) + ((Y / 400 : Nat) : Int) - ((Y / 100 : Nat) : Int) := by
    unfold S
    generalize Y / 4 = a
    generalize Y / 100 = b at hle
    generalize Y / 400 = c
    omega
  have hA : ((A0 : Nat) : Int) = 106751991073400 := by decide +kernel
  rw [hS, e4, e1, e0, hA]
  unfold YS
  omega
/-- how many days a month has; how many lie ahead of it in its year -/
def MD (y m : Int) : Int := if m = 2 then 28 + lp y else if m = 4 ∨ m = 6 ∨ m = 9 ∨ m = 11 then 30 else 31
def CM (y m : Int) : Int :=
  if m = 1 then 0 else if m = 2 then 31 else if m = 3 then 59 + lp y else if m = 4 then 90 + lp y else if m = 5 then 120 + lp y else if m = 6 then 151 + lp y else if m = 7 then 181 + lp y
  else if m = 8 then 212 + lp y else if m = 9 then 243 + lp y else if m = 10 then 273 + lp y else if m = 11 then 304 + lp y else if m = 12 then 334 + lp y else 365 + lp y
theorem CM_next (y m : Int) (h1 : 1 ≤ m) (h2 : m ≤ 12) : CM y (m + 1) = CM y m + MD y m := by
  have hm : m = 1 ∨ m = 2 ∨ m = 3 ∨ m = 4 ∨ m = 5 ∨ m = 6 ∨ m = 7 ∨ m = 8 ∨ m = 9 ∨ m = 10 ∨ m = 11 ∨ m = 12 := by omega
  rcases hm with rfl | rfl | rfl | rfl | rfl | rfl | rfl | rfl | rfl | rfl | rfl | rfl <;> simp [CM, MD] <;> omega
/-- a date is a day: year, month, day of the month -/
structure IsDate (n y m d : Int) : Prop where
  m1 : 1 ≤ m
  m12 : m ≤ 12
  d1 : 1 ≤ d
  dm : d ≤ MD y m
  eq : n = YS y + CM y m + d - 1
theorem CM_le (y : Int) {m k : Int} (h1 : 1 ≤ m) (hk : m ≤ k) (h12 : k ≤ 13) : CM y m ≤ CM y k := by
  have hl := lp_01 y
  have hm : m = 1 ∨ m = 2 ∨ m = 3 ∨ m = 4 ∨ m = 5 ∨ m = 6 ∨ m = 7 ∨ m = 8 ∨ m = 9 ∨ m = 10 ∨ m = 11 ∨ m = 12 ∨ m = 13 := by omega
  have hn : k = 1 ∨ k = 2 ∨ k = 3 ∨ k = 4 ∨ k = 5 ∨ k = 6 ∨ k = 7 ∨ k = 8 ∨ k = 9 ∨ k = 10 ∨ k = 11 ∨ k = 12 ∨ k = 13 := by omega
  rcases hm with rfl | rfl | rfl | rfl | rfl | rfl | rfl | rfl | rfl | rfl | rfl | rfl | rfl <;> rcases hn with rfl | rfl | rfl | rfl | rfl | rfl | rfl | rfl | rfl | rfl | rfl | rfl | rfl <;> first | omega | (simp [CM]; done) | (simp [CM]; omega)
theorem date_in_year {n y m d : Int} (h : IsDate n y m d) : YS y ≤ n ∧ n < YS (y + 1) := by
  have h1 := h.eq
  have h2 := h.d1
  have h3 := h.dm
  have h4 := CM_le y (Int.le_refl 1) h.m1 (by have := h.m12; omega)
  have h5 := CM_next y m h.m1 h.m12
  have h6 := CM_le y (m := m + 1) (k := 13) (by have := h.m1; omega) (by have := h.m12; omega) (Int.le_refl _)
  have e1 : CM y 1 = 0 := rfl
  have e13 : CM y 13 = 365 + lp y := rfl
  rw [YS_next]
  omega
theorem YS_mono (y : Int) : ∀ k : Nat, YS y + 365 * k ≤ YS (y + k)
  | 0 => by simp
  | k + 1 => by
    have ih := YS_mono y k
    have h1 := YS_next (y + k)
    have h2 := lp_01 (y + k)
    rw [show y + ((k + 1 : Nat) : Int) = y + k + 1 by omega, h1]
    omega
/-- a day has one date -/
theorem date_one {n y m d y' m' d' : Int} (h : IsDate n y m d) (h' : IsDate n y' m' d') : y = y' ∧ m = m' ∧ d = d' := by
  have a := date_in_year h
  have a' := date_in_year h'
  have hy : y = y' := by
    rcases Int.lt_trichotomy y y' with hlt | he | hgt
    · have := YS_mono (y + 1) (y' - (y + 1)).toNat
      rw [show y + 1 + (((y' - (y + 1)).toNat : Nat) : Int) = y' by omega] at this
      omega
    · exact he
    · have := YS_mono (y' + 1) (y - (y' + 1)).toNat
      rw [show y' + 1 + (((y - (y' + 1)).toNat : Nat) : Int) = y by omega] at this
      omega
  subst hy
  have e := h.eq
  have e' := h'.eq
  have n1 := CM_next y m h.m1 h.m12
  have n2 := CM_next y m' h'.m1 h'.m12
  have hm : m = m' := by
    rcases Int.lt_trichotomy m m' with hlt | he | hgt
    · have := CM_le y (m := m + 1) (k := m') (by have := h.m1; omega) (by omega) (by have := h'.m12; omega)
      have := h.dm; have := h'.d1
      omega
    · exact he
    · have := CM_le y (m := m' + 1) (k := m) (by have := h'.m1; omega) (by omega) (by have := h.m12; omega)
      have := h'.dm; have := h.d1
      omega
  subst hm
  exact ⟨rfl, rfl, by omega⟩
end Go.Proofs.Ytdgglkihiibmhaa.Cal
