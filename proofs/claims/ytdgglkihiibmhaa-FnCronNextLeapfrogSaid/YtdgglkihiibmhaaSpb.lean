/-
  The specification's date of a day.
-/
import Derived.Test.YtdgglkihiibmhaaSpa
import Derived.Deep.LoopGhost
import Derived.Deep.Cut
set_option linter.unusedVariables false
set_option linter.unusedSimpArgs false
namespace Go.Proofs.Ytdgglkihiibmhaa
open Go Go.RowKit Cal

abbrev dV (y m d : Int) : Value := .agg #[.int .i64 y, .int .i64 m, .int .i64 d]
theorem ys_lt {a b : Int} (h : YS a < YS b) : a < b := by
  by_cases c : a < b
  · exact c
  · have := ys_le (show b ≤ a by omega)
    omega
theorem ys_pos {y n : Int} (h0 : -719162 ≤ n) (h : n < YS (y + 1)) : 0 < y := by
  have h1 : YS 1 = -719162 := rfl
  have := ys_lt (a := 1) (b := y + 1) (by omega)
  omega
theorem first_le (n : Int) (h0 : -1000000 ≤ n) (h1 : n ≤ 100000000) : (n < 0 → YS (1970 + n / 365 - 1) ≤ n) ∧ (0 ≤ n → YS (1970 + n / 366) ≤ n) := by
  unfold YS
  constructor <;> intro h <;> omega
set_option maxHeartbeats 4000000 in
theorem dateOf_any (n : Int) (w : World) (n0 : -719162 ≤ n) (n1 : n ≤ 100000000) : Calls Try.prog 35 #[.int .i64 n] w fun e w' => (∃ y m d, e = .returned (dV y m d) ∧ IsDate n y m d ∧ 0 < y) ∧ Below w.heap.size w w' := by
  have HF := Lib.hid (first_le n (by omega) n1)
  have hx1 : wrap64 (1970 + n / 366) = 1970 + n / 366 := wi (by omega) (by omega)
  have hx2 : wrap64 (1970 + n / 365) = 1970 + n / 365 := wi (by omega) (by omega)
  have hx3 : wrap64 (1970 + n / 365 - 1) = 1970 + n / 365 - 1 := wi (by omega) (by omega)
  have HN := Lib.hid (And.intro n0 n1)
  obtain ⟨G, hG⟩ : ∃ G : Nat, G = (n + 3000000).toNat := ⟨_, rfl⟩
  have HGG := Lib.hid hG
  clear hG
  have hB : ∀ y, -3000 ≤ y → -1900000 ≤ YS y := fun y h => by unfold YS; omega
  have HB := Lib.hid hB
  clear hB
  by_cases hneg : n < 0
  all_goals
    first
      | (have hd : decide (n < 0) = true := decide_eq_true hneg
         have HV := Lib.hid (show YS (1970 + n / 365 - 1) ≤ n ∧ -3000 ≤ 1970 + n / 365 - 1 ∧ 1970 + n / 365 - 1 ≤ 1000000 from ⟨HF.out.1 hneg, by omega, by omega⟩))
      | (have hd : decide (n < 0) = false := decide_eq_false hneg
         have HV := Lib.hid (show YS (1970 + n / 366) ≤ n ∧ -3000 ≤ 1970 + n / 366 ∧ 1970 + n / 366 ≤ 1000000 from ⟨HF.out.2 (by omega), by omega, by omega⟩))
    clear hneg
    go_enter Try.func35, Try.ntmps35
    go_wp2_with (first
      | (go_at_call 34; with_reducible refine (fdiv_any n 366 _ (by decide) (by decide) (by omega) (by omega)).mono ?_; rintro e w1 ⟨rfl, rfl⟩)
      | (go_at_call 34; with_reducible refine (fdiv_any n 365 _ (by decide) (by decide) (by omega) (by omega)).mono ?_; rintro e w1 ⟨rfl, rfl⟩))
    clear hx1 hx2 hx3 hd
    rename_i Q' K0 hK0
    go_loopg [3] G (fun g v3 w' => ∃ y : Int, v3 = .int .i64 y ∧ Hid (YS y ≤ n ∧ -3000 ≤ y ∧ y ≤ 1000000 ∧ (n - YS y).toNat ≤ g) ∧ w' = w.alloc (.cells #[.int .i64 0, .int .i64 0, .int .i64 0] 80))
    case atStart =>
      have h1 := HV.out
      have h2 := HB.out _ h1.2.1
      have h3 := HGG.out
      have h4 := HN.out
      exact ⟨_, rfl, Lib.hid ⟨h1.1, h1.2.1, h1.2.2, by omega⟩, rfl⟩
    case round =>
      obtain ⟨y, rfl, HX, rfl⟩ := hrel
      have hw : wrap64 (y + 1) = y + 1 := by have h := HX.out; exact wi (by omega) (by omega)
      by_cases hc : YS (y + 1) ≤ n
      · have HC := Lib.hid hc
        have hd := decide_eq_true hc
        clear hc
        go_wp2_with (first
          | (go_at_call 54; with_reducible refine (yst_any (y + 1) _ (by have h := HX.out; omega) (by have h := HX.out; omega)).mono ?_; rintro e w1 ⟨rfl, rfl⟩))
        go_roundg (gk - 1)
        case measure =>
          have h1 := HX.out
          have h2 := HC.out
          have h3 := YS_next y
          have h4 := lp_01 y
          omega
        case rel =>
          have h1 := HX.out
          have h2 := HC.out
          have h3 := YS_next y
          have h4 := lp_01 y
          have h5 : y + 1 ≤ 1000000 := by
            by_cases c : y + 1 ≤ 1000000
            · exact c
            · have := ys_le (show 1000001 ≤ y + 1 by omega)
              have h6 : YS 1000001 = 364523338 := rfl
              have := HN.out
              omega
          exact ⟨y + 1, by rw [wi (x := y + 1) (by omega) (by omega)], Lib.hid ⟨h2, by omega, h5, by omega⟩, rfl⟩
      · have HC := Lib.hid hc
        have hd := decide_eq_false hc
        clear hc
        have HP := Lib.hid (show 0 < y from ys_pos (n := n) HN.out.1 (by have := HC.out; omega))
        have hw1 : wrap64 (n - YS y) = n - YS y := by
          have h := HX.out
          have h2 := HB.out y h.2.1
          have h3 := HN.out
          exact wi (by omega) (by omega)
        go_wp2_with (first
          | (go_at_call 54; with_reducible refine (yst_any (y + 1) _ (by have h := HX.out; omega) (by have h := HX.out; omega)).mono ?_; rintro e w1 ⟨rfl, rfl⟩)
          | (go_at_call 54; with_reducible refine (yst_any y _ (by have h := HX.out; omega) (by have h := HX.out; omega)).mono ?_; rintro e w1 ⟨rfl, rfl⟩))
        have HR := Lib.hid (show 0 ≤ n - YS y ∧ n - YS y < 365 + lp y from by
          have h1 := HX.out
          have h2 := HC.out
          have h3 := YS_next y
          omega)
        clear HX HC HB HGG HF HV hd hw hw1
        go_loopg [4, 5] 12 (fun g v4 v5 w' => ∃ r m : Int, v4 = .int .i64 r ∧ v5 = .int .i64 m ∧ Hid (r = n - YS y - CM y m ∧ 0 ≤ r ∧ 1 ≤ m ∧ m ≤ 12 ∧ g = (13 - m).toNat) ∧ w' = w.alloc (.cells #[.int .i64 0, .int .i64 0, .int .i64 0] 80))
        case atStart =>
          have h1 := HR.out
          have h2 := lp_01 y
          have h3 : CM y 1 = 0 := rfl
          exact ⟨n - YS y, 1, by rw [wi (x := n - YS y) (by omega) (by omega)], rfl, Lib.hid ⟨by omega, h1.1, by decide, by decide, by decide⟩, rfl⟩
        case round =>
          obtain ⟨r, m, rfl, rfl, HX, rfl⟩ := hrel
          have HM := Lib.hid (CM_next y m HX.out.2.2.1 HX.out.2.2.2.1)
          have HM1 : Hid (1 ≤ MD y m ∧ MD y m ≤ 31) := Lib.hid (by unfold MD; have := lp_01 y; (repeat' split) <;> omega)
          have HM2 : Hid (r ≤ 366) := Lib.hid (by have h1 := HX.out; have h2 := HR.out; have h3 := CM_le y (m := 1) (k := m) (by decide) h1.2.2.1 (by omega); have h4 : CM y 1 = 0 := rfl; have h5 := lp_01 y; omega)
          by_cases hc : MD y m ≤ r
          · have HC := Lib.hid hc
            have hd := decide_eq_true hc
            clear hc
            have hw1 : wrap64 (r - MD y m) = r - MD y m := by
              have h := HX.out
              have h1 := HM1.out
              have h2 := HM2.out
              exact wi (by omega) (by omega)
            have hw2 : wrap64 (m + 1) = m + 1 := by have h := HX.out; exact wi (by omega) (by omega)
            go_wp2_with (first
              | (go_at_call 55; with_reducible refine (md_any y m _ HP.out (by have h := HR.out; have h1 := HN.out; unfold YS at h; omega) HX.out.2.2.1 HX.out.2.2.2.1).mono ?_; rintro e w1 ⟨rfl, rfl⟩))
            go_roundg (gk - 1)
            case measure =>
              have h1 := HX.out
              omega
            case rel =>
              have h1 := HX.out
              have h2 := HC.out
              have h3 := HM.out
              have h4 := HR.out
              have h5 := HM2.out
              have h6 := HM1.out
              have h8 : m + 1 ≤ 12 := by
                by_cases c : m = 12
                · subst c
                  have h9 : CM y (12 + 1) = 365 + lp y := rfl
                  omega
                · omega
              exact ⟨r - MD y m, m + 1, by rw [wi (x := r - MD y m) (by omega) (by omega)], by rw [wi (x := m + 1) (by omega) (by omega)], Lib.hid ⟨by omega, by omega, by omega, h8, by omega⟩, rfl⟩
          · have HC := Lib.hid hc
            have hd := decide_eq_false hc
            clear hc
            have hw1 : wrap64 (r + 1) = r + 1 := by
              have h := HX.out
              have h2 := HM2.out
              exact wi (by omega) (by omega)
            go_wp2_with (first
              | (go_at_call 55; with_reducible refine (md_any y m _ HP.out (by have h := HR.out; have h1 := HN.out; unfold YS at h; omega) HX.out.2.2.1 HX.out.2.2.2.1).mono ?_; rintro e w1 ⟨rfl, rfl⟩))
            refine bodyPost_ret (v := dV y m (r + 1)) (by simp [results, Try.results35, go_sem]) rfl ⟨⟨y, m, r + 1, rfl, ⟨HX.out.2.2.1, HX.out.2.2.2.1, ?_, ?_, ?_⟩, HP.out⟩, ?_⟩
            · have h := HX.out
              omega
            · have h := HC.out
              omega
            · have h := HX.out
              omega
            · repeat (first | exact Below.refl _ _ | apply bl_alloc)
end Go.Proofs.Ytdgglkihiibmhaa
