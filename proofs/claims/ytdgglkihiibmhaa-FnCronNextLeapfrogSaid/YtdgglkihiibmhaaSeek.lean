/-
  The search for the next activation, in plain words: the units of the calendar and the clock, and what moving to the next one leaves out.
-/
import Derived.Test.YtdgglkihiibmhaaGy
set_option linter.unusedVariables false
set_option linter.unusedSimpArgs false
namespace Go.Proofs.Ytdgglkihiibmhaa
open Go Cal

theorem x_one {x y m d : Int} (x0 : 0 ≤ x) (h : IsDate (x / 86400 - 719162) y m d) : Yx x = y ∧ Mx x = m ∧ Dx x = d := date_one (x_date x (by omega)) h
theorem same_day {x z : Int} (h : z / 86400 = x / 86400) : Yx z = Yx x ∧ Mx z = Mx x ∧ Dx z = Dx x ∧ Wx z = Wx x := by
  unfold Yx Mx Dx Wx ND
  rw [h]
  exact ⟨rfl, rfl, rfl, rfl⟩
theorem dm_same {f : Six} {x z : Int} (h : z / 86400 = x / 86400) : dm f z = dm f x := by
  obtain ⟨-, -, a, b⟩ := same_day h
  unfold dm
  rw [a, b]
/-- the day after a day -/
theorem next_day {x z : Int} (x0 : 0 ≤ x) (h : z / 86400 = x / 86400 + 1) :
    (Dx z = Dx x + 1 ∧ Mx z = Mx x ∧ Yx z = Yx x) ∨ (Dx z = 1 ∧ Mx z = Mx x + 1 ∧ Mx x < 12 ∧ Yx z = Yx x) ∨ (Dx z = 1 ∧ Mx z = 1 ∧ Mx x = 12 ∧ Yx z = Yx x + 1) := by
  have hx := x_date x (by omega)
  obtain ⟨m1, m12, d1, dmd, e⟩ := hx
  have hn := CM_next (Yx x) (Mx x) m1 m12
  by_cases c : Dx x < MD (Yx x) (Mx x)
  · obtain ⟨a, b, c⟩ := x_one (x := z) (y := Yx x) (m := Mx x) (d := Dx x + 1) (by omega) ⟨m1, m12, by omega, by omega, by omega⟩
    exact .inl ⟨c, b, a⟩
  · by_cases c2 : Mx x < 12
    · have hp : 1 ≤ MD (Yx x) (Mx x + 1) := by unfold MD; have := lp_01 (Yx x); (repeat' split) <;> omega
      obtain ⟨a, b, c⟩ := x_one (x := z) (y := Yx x) (m := Mx x + 1) (d := 1) (by omega) ⟨by omega, by omega, by omega, by omega, by omega⟩
      exact .inr (.inl ⟨c, b, c2, a⟩)
    · have em : Mx x = 12 := by omega
      have h13 : CM (Yx x) 13 = 365 + lp (Yx x) := rfl
      have hy := YS_next (Yx x)
      have h1 : CM (Yx x + 1) 1 = 0 := rfl
      have hp : MD (Yx x + 1) 1 = 31 := rfl
      rw [em] at hn c e dmd
      rw [show (12 : Int) + 1 = 13 from rfl] at hn
      obtain ⟨a, b, c⟩ := x_one (x := z) (y := Yx x + 1) (m := 1) (d := 1) (by omega) ⟨by omega, by omega, by omega, by omega, by omega⟩
      exact .inr (.inr ⟨c, b, em, a⟩)
/-- the first second of a time's month, and of the next one -/
def MS (x : Int) : Int := DS (Yx x) (Mx x) 1 0 0 0
def NM (x : Int) : Int := if Mx x = 12 then DS (Yx x + 1) 1 1 0 0 0 else DS (Yx x) (Mx x + 1) 1 0 0 0
theorem ms_eq (x : Int) (x0 : 0 ≤ x) : MS x = x - x % 86400 - (Dx x - 1) * 86400 := by
  have e := (x_date x (by omega)).eq
  unfold MS DS
  omega
theorem nm_eq (x : Int) (x0 : 0 ≤ x) : NM x = MS x + MD (Yx x) (Mx x) * 86400 := by
  have hx := x_date x (by omega)
  have hn := CM_next (Yx x) (Mx x) hx.m1 hx.m12
  unfold NM MS
  by_cases c : Mx x = 12
  · rw [if_pos c]
    have h13 : CM (Yx x) 13 = 365 + lp (Yx x) := rfl
    have hy := YS_next (Yx x)
    have h1 : CM (Yx x + 1) 1 = 0 := rfl
    rw [c] at hn ⊢
    rw [show (12 : Int) + 1 = 13 from rfl] at hn
    unfold DS
    omega
  · rw [if_neg c]
    unfold DS
    omega
theorem in_month {x z : Int} (x0 : 0 ≤ x) (h0 : MS x ≤ z) (h1 : z < NM x) (z0 : 0 ≤ z) : Mx z = Mx x ∧ Yx z = Yx x ∧ Dx z = (z - MS x) / 86400 + 1 := by
  have hx := x_date x (by omega)
  have e := hx.eq
  have em := ms_eq x x0
  rw [nm_eq x x0] at h1
  obtain ⟨a, b, c⟩ := x_one (x := z) (y := Yx x) (m := Mx x) (d := (z - MS x) / 86400 + 1) z0 ⟨hx.m1, hx.m12, by omega, by omega, by omega⟩
  exact ⟨b, a, c⟩
theorem ms_le (x : Int) (x0 : 0 ≤ x) : MS x ≤ x ∧ x < NM x ∧ 0 ≤ MS x := by
  have hx := x_date x (by omega)
  have e := hx.eq
  have em := ms_eq x x0
  have h1 := hx.d1
  have h2 := hx.dm
  obtain ⟨y0, -, m0, m1, -⟩ : 1 ≤ Yx x ∧ True ∧ 1 ≤ Mx x ∧ Mx x ≤ 12 ∧ True := by
    refine ⟨?_, trivial, hx.m1, hx.m12, trivial⟩
    have h := (date_in_year hx).2
    unfold YS at h
    omega
  have hc : 0 ≤ CM (Yx x) (Mx x) := (cm_b (Yx x) (Mx x) m0 m1).1
  have hy : -719162 ≤ YS (Yx x) := by unfold YS; omega
  rw [nm_eq x x0]
  refine ⟨by omega, by omega, ?_⟩
  unfold MS DS
  omega
/-- the month after a month begins with its first day -/
theorem nm_date (x : Int) (x0 : 0 ≤ x) : Dx (NM x) = 1 ∧ NM x % 86400 = 0 ∧ (Mx (NM x) ≠ 1 → Yx (NM x) = Yx x) := by
  have hx := x_date x (by omega)
  obtain ⟨ha, hb, hc⟩ := ms_le x x0
  have hm : NM x % 86400 = 0 := by unfold NM DS; split <;> omega
  have e := hx.eq
  have em := ms_eq x x0
  have en := nm_eq x x0
  have hp : (NM x - 1) / 86400 + 1 = NM x / 86400 := by omega
  have h1 : 1 ≤ MD (Yx x) (Mx x) := by unfold MD; have := lp_01 (Yx x); (repeat' split) <;> omega
  obtain ⟨a1, a2, a3⟩ := in_month (z := NM x - 1) x0 (by omega) (by omega) (by omega)
  have hd : Dx (NM x - 1) = MD (Yx x) (Mx x) := by rw [a3]; omega
  rcases next_day (x := NM x - 1) (z := NM x) (by omega) (by omega) with ⟨b, c, d⟩ | ⟨b, c, d, e2⟩ | ⟨b, c, d, e2⟩
  · have := (x_date (NM x) (by omega)).dm
    rw [b, c, d, a1, a2, hd] at this
    omega
  · exact ⟨b, hm, fun _ => by rw [e2, a2]⟩
  · exact ⟨b, hm, fun h => (h c).elim⟩
/-- the first second behind a year -/
def BY (l : Int) : Int := DS (l + 1) 1 1 0 0 0
theorem ys_le {a b : Int} (h : a ≤ b) : YS a ≤ YS b := by
  have := YS_mono a (b - a).toNat
  rw [show a + ((b - a).toNat : Int) = b by omega] at this
  omega
theorem by_iff (x l : Int) (x0 : 0 ≤ x) : Yx x ≤ l ↔ x < BY l := by
  have h := date_in_year (x_date x (by omega))
  have h1 : CM (l + 1) 1 = 0 := rfl
  unfold BY DS
  rw [h1]
  constructor
  · intro c
    have := ys_le (show Yx x + 1 ≤ l + 1 by omega)
    omega
  · intro c
    by_cases d : Yx x ≤ l
    · exact d
    · have := ys_le (show l + 1 ≤ Yx x by omega)
      omega
theorem by_hi (l : Int) (h : l ≤ 20000) : BY l ≤ 700000000000 := by
  have h1 : CM (l + 1) 1 = 0 := rfl
  unfold BY DS
  rw [h1]
  unfold YS
  omega
theorem by_mod (l : Int) : BY l % 86400 = 0 := by unfold BY DS; omega
/-- the second of a schedule -/
def fits (f : Six) (x : Int) : Bool := hb f.mo (Mx x) && dm f x && hb f.ho (x % 86400 / 3600) && hb f.mi (x % 3600 / 60) && hb f.se (x % 60)
/-- what does not match lies at the beginning of its unit -/
structure Al (f : Six) (x : Int) : Prop where
  mo : hb f.mo (Mx x) = false → Dx x = 1 ∧ x % 86400 = 0
  da : dm f x = false → x % 86400 = 0
  ho : hb f.ho (x % 86400 / 3600) = false → x % 3600 = 0
  mi : hb f.mi (x % 3600 / 60) = false → x % 60 = 0
/-- the state of the search: from second s on none ahead of x fits -/
structure At (f : Six) (s l : Int) (ad : Bool) (x : Int) : Prop where
  lo : s ≤ x
  s0 : 0 ≤ s
  none : ∀ z, s ≤ z → z < x → fits f z = false
  al : ad = true → Al f x
  hi : x ≤ BY l
structure In (f : Six) (s l : Int) (ad : Bool) (x : Int) : Prop extends At f s l ad x where
  lt : x < BY l
theorem fits_mo {f : Six} {x : Int} (h : hb f.mo (Mx x) = false) : fits f x = false := by unfold fits; rw [h]; rfl
theorem fits_da {f : Six} {x : Int} (h : dm f x = false) : fits f x = false := by unfold fits; rw [h]; simp
theorem fits_ho {f : Six} {x : Int} (h : hb f.ho (x % 86400 / 3600) = false) : fits f x = false := by unfold fits; rw [h]; simp
theorem fits_mi {f : Six} {x : Int} (h : hb f.mi (x % 3600 / 60) = false) : fits f x = false := by unfold fits; rw [h]; simp
theorem fits_se {f : Six} {x : Int} (h : hb f.se (x % 60) = false) : fits f x = false := by unfold fits; rw [h]; simp
/-- a month that does not match is left -/
theorem step_mo {f : Six} {s l : Int} {ad : Bool} {x : Int} (h : In f s l ad x) (hm : hb f.mo (Mx x) = false) : x < NM x ∧ At f s l true (NM x) ∧ (Mx (NM x) ≠ 1 → In f s l true (NM x)) := by
  have x0 : 0 ≤ x := by have := h.lo; have := h.s0; omega
  obtain ⟨a, b, c⟩ := ms_le x x0
  obtain ⟨d1, d2, d3⟩ := nm_date x x0
  have hy := (by_iff x l x0).2 h.lt
  have hB : NM x ≤ BY l := by
    have hi : Yx (NM x - 1) ≤ l := by
      have := (in_month (z := NM x - 1) x0 (by omega) (by omega) (by omega)).2.1
      omega
    have := (by_iff (NM x - 1) l (by omega)).1 hi
    omega
  have hA : At f s l true (NM x) := ⟨by have := h.lo; omega, h.s0, fun z z0 z1 => by
      by_cases zx : z < x
      · exact h.none z z0 zx
      · have := (in_month (z := z) x0 (by omega) z1 (by omega)).1
        exact fits_mo (by rw [this]; exact hm), fun _ => ⟨fun _ => ⟨d1, d2⟩, fun _ => d2, fun _ => by omega, fun _ => by omega⟩, hB⟩
  refine ⟨b, hA, fun hn => ⟨hA, ?_⟩⟩
  refine (by_iff (NM x) l (by omega)).1 ?_
  rw [d3 hn]
  exact hy
theorem al_up {f : Six} {x z : Int} (x0 : 0 ≤ x) (h : z / 86400 = x / 86400 + 1) (hz : z % 86400 = 0) (hm : hb f.mo (Mx x) = true) : Al f z := by
  refine ⟨fun hq => ⟨?_, hz⟩, fun _ => hz, fun _ => by omega, fun _ => by omega⟩
  rcases next_day x0 h with ⟨a, b, c⟩ | ⟨a, -⟩ | ⟨a, -⟩
  · rw [b, hm] at hq
    exact absurd hq (by decide)
  · exact a
  · exact a
theorem hi_up {x z l : Int} (x0 : 0 ≤ x) (h : x < BY l) (hz : z ≤ x - x % 86400 + 86400) : z ≤ BY l := by
  have := by_mod l
  omega
theorem year_day {x z l : Int} (x0 : 0 ≤ x) (hx : x < BY l) (h : z / 86400 = x / 86400 + 1) (hd : Dx z ≠ 1) : z < BY l ∧ Mx z = Mx x := by
  have hy := (by_iff x l x0).2 hx
  rcases next_day x0 h with ⟨a, b, c⟩ | ⟨a, -⟩ | ⟨a, -⟩
  · exact ⟨(by_iff z l (by omega)).1 (by omega), b⟩
  · exact absurd a hd
  · exact absurd a hd
/-- a day that does not match is left -/
theorem step_da {f : Six} {s l : Int} {ad : Bool} {x : Int} (h : In f s l ad x) (hm : hb f.mo (Mx x) = true) (hd : dm f x = false) : At f s l true (x - x % 86400 + 86400) ∧ (Dx (x - x % 86400 + 86400) ≠ 1 → In f s l true (x - x % 86400 + 86400) ∧ hb f.mo (Mx (x - x % 86400 + 86400)) = true) := by
  have x0 : 0 ≤ x := by have := h.lo; have := h.s0; omega
  have hz : (x - x % 86400 + 86400) / 86400 = x / 86400 + 1 := by omega
  have hA : At f s l true (x - x % 86400 + 86400) := ⟨by have := h.lo; omega, h.s0, fun z z0 z1 => by
      by_cases zx : z < x
      · exact h.none z z0 zx
      · exact fits_da (by rw [dm_same (x := x) (z := z) (by omega)]; exact hd), fun _ => al_up x0 hz (by omega) hm, hi_up x0 h.lt (by omega)⟩
  refine ⟨hA, fun hn => ?_⟩
  obtain ⟨a, b⟩ := year_day x0 h.lt hz hn
  exact ⟨⟨hA, a⟩, by rw [b]; exact hm⟩
/-- within a day the date stays -/
theorem step_in {f : Six} {s l : Int} {ad : Bool} {x z : Int} (h : In f s l ad x) (hm : hb f.mo (Mx x) = true) (hd : dm f x = true) (hx : x < z) (hz : z ≤ x - x % 86400 + 86400) (hn : ∀ y, x ≤ y → y < z → fits f y = false)
    (hh : z % 86400 ≠ 0 → hb f.ho (z % 86400 / 3600) = false → z % 3600 = 0) (hi : z % 86400 ≠ 0 → hb f.mi (z % 3600 / 60) = false → z % 60 = 0) :
    At f s l true z ∧ (z % 86400 ≠ 0 → In f s l true z ∧ hb f.mo (Mx z) = true ∧ dm f z = true) := by
  have x0 : 0 ≤ x := by have := h.lo; have := h.s0; omega
  have hA : At f s l true z := ⟨by have := h.lo; omega, h.s0, fun y y0 y1 => by
      by_cases yx : y < x
      · exact h.none y y0 yx
      · exact hn y (by omega) y1, fun _ => by
      by_cases c : z % 86400 = 0
      · exact al_up x0 (by omega) c hm
      · have e : z / 86400 = x / 86400 := by omega
        exact ⟨fun hq => by rw [(same_day e).2.1, hm] at hq; exact absurd hq (by decide), fun hq => by rw [dm_same e, hd] at hq; exact absurd hq (by decide), hh c, hi c⟩, hi_up x0 h.lt hz⟩
  refine ⟨hA, fun c => ?_⟩
  have e : z / 86400 = x / 86400 := by omega
  have hb := by_mod l
  have hl := h.lt
  exact ⟨⟨hA, by omega⟩, by rw [(same_day e).2.1]; exact hm, by rw [dm_same e]; exact hd⟩
theorem step_ho {f : Six} {s l : Int} {ad : Bool} {x : Int} (h : In f s l ad x) (hm : hb f.mo (Mx x) = true) (hd : dm f x = true) (hh : hb f.ho (x % 86400 / 3600) = false) :
    At f s l true (x - x % 3600 + 3600) ∧ ((x - x % 3600 + 3600) % 86400 / 3600 ≠ 0 → In f s l true (x - x % 3600 + 3600) ∧ hb f.mo (Mx (x - x % 3600 + 3600)) = true ∧ dm f (x - x % 3600 + 3600) = true) := by
  obtain ⟨a, b⟩ := step_in h hm hd (z := x - x % 3600 + 3600) (by omega) (by omega) (fun y y0 y1 => fits_ho (by rw [show y % 86400 / 3600 = x % 86400 / 3600 by omega]; exact hh)) (fun _ _ => by omega) (fun _ _ => by omega)
  exact ⟨a, fun c => b (by omega)⟩
theorem step_mi {f : Six} {s l : Int} {ad : Bool} {x : Int} (h : In f s l ad x) (hm : hb f.mo (Mx x) = true) (hd : dm f x = true) (hh : hb f.ho (x % 86400 / 3600) = true) (hi : hb f.mi (x % 3600 / 60) = false) :
    At f s l true (x - x % 60 + 60) ∧ ((x - x % 60 + 60) % 3600 / 60 ≠ 0 → In f s l true (x - x % 60 + 60) ∧ hb f.mo (Mx (x - x % 60 + 60)) = true ∧ dm f (x - x % 60 + 60) = true ∧ hb f.ho ((x - x % 60 + 60) % 86400 / 3600) = true) := by
  obtain ⟨a, b⟩ := step_in h hm hd (z := x - x % 60 + 60) (by omega) (by omega) (fun y y0 y1 => fits_mi (by rw [show y % 3600 / 60 = x % 3600 / 60 by omega]; exact hi))
    (fun c d => by
      by_cases e : (x - x % 60 + 60) % 3600 = 0
      · exact e
      · rw [show (x - x % 60 + 60) % 86400 / 3600 = x % 86400 / 3600 by omega, hh] at d; exact absurd d (by decide)) (fun _ _ => by omega)
  refine ⟨a, fun c => ?_⟩
  obtain ⟨b1, b2, b3⟩ := b (by omega)
  exact ⟨b1, b2, b3, by rw [show (x - x % 60 + 60) % 86400 / 3600 = x % 86400 / 3600 by omega]; exact hh⟩
theorem step_se {f : Six} {s l : Int} {ad : Bool} {x : Int} (h : In f s l ad x) (hm : hb f.mo (Mx x) = true) (hd : dm f x = true) (hh : hb f.ho (x % 86400 / 3600) = true) (hi : hb f.mi (x % 3600 / 60) = true) (hs : hb f.se (x % 60) = false) :
    At f s l true (x + 1) ∧ ((x + 1) % 60 ≠ 0 → In f s l true (x + 1) ∧ hb f.mo (Mx (x + 1)) = true ∧ dm f (x + 1) = true ∧ hb f.ho ((x + 1) % 86400 / 3600) = true ∧ hb f.mi ((x + 1) % 3600 / 60) = true) := by
  obtain ⟨a, b⟩ := step_in h hm hd (z := x + 1) (by omega) (by omega) (fun y y0 y1 => fits_se (by rw [show y = x by omega]; exact hs))
    (fun c d => by
      by_cases e : (x + 1) % 3600 = 0
      · exact e
      · rw [show (x + 1) % 86400 / 3600 = x % 86400 / 3600 by omega, hh] at d; exact absurd d (by decide))
    (fun c d => by
      by_cases e : (x + 1) % 60 = 0
      · exact e
      · rw [show (x + 1) % 3600 / 60 = x % 3600 / 60 by omega, hi] at d; exact absurd d (by decide))
  refine ⟨a, fun c => ?_⟩
  obtain ⟨b1, b2, b3⟩ := b (by omega)
  exact ⟨b1, b2, b3, by rw [show (x + 1) % 86400 / 3600 = x % 86400 / 3600 by omega]; exact hh, by rw [show (x + 1) % 3600 / 60 = x % 3600 / 60 by omega]; exact hi⟩
end Go.Proofs.Ytdgglkihiibmhaa
