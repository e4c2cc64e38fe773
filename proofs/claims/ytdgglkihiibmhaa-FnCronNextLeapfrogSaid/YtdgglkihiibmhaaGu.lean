/-
  The package time on the clocks of UTC: dates and times of day.
-/
import Derived.Test.YtdgglkihiibmhaaGt
set_option linter.unusedVariables false
set_option linter.unusedSimpArgs false
namespace Go.Proofs.Ytdgglkihiibmhaa
open Go Go.RowKit Cal

/-- the place UTC, in a block -/
abbrev utcO : Obj := .cells #[.bool true, .string ⟨#[85, 84, 67]⟩, .slice none 0 0, .slice none 0 0, .string ⟨#[]⟩, .int .i64 0, .int .i64 0, .pointer none] 104
theorem utc2_any (w : World) : Calls Try.prog 31 #[] w fun e w' => ∃ q, e = .returned (.pointer (some ⟨q, 0, none⟩)) ∧ w'.heap[q]? = some utcO ∧ Below w.heap.size w w' := by
  go_enter Try.func31, Try.ntmps31
  go_wp2
  go_ret
  refine ⟨_, rfl, ?_, ?_⟩
  · exact heap_new0 _ _ _ rfl
  · repeat (first | exact Below.refl _ _ | apply bl_alloc)
theorem get_nil (w : World) : Calls Try.prog 111 #[.pointer none] w fun e w' => ∃ q, e = .returned (.pointer (some ⟨q, 0, none⟩)) ∧ w'.heap[q]? = some utcO ∧ Below w.heap.size w w' := by
  go_enter Try.func111, Try.ntmps111
  go_wp2_with (go_at_call 31; refine (utc2_any _).mono ?_; rintro e w1 ⟨q, rfl, hq, hb⟩)
  go_ret
  exact ⟨q, rfl, hq, hb⟩
theorem get_some (q : Nat) (w : World) : Calls Try.prog 111 #[.pointer (some ⟨q, 0, none⟩)] w fun e w' => e = .returned (.pointer (some ⟨q, 0, none⟩)) ∧ w = w' := by
  go_enter Try.func111, Try.ntmps111
  go_wp2
  go_ret
  exact ⟨rfl, rfl⟩
/-- the absolute seconds of a time's seconds -/
def AS (x : Int) : Int := x + 9223371966606163200
theorem absSec_any (n x : Int) (w : World) (h0 : 0 ≤ n) (h1 : n < 1073741824) (x0 : -1000000000000 ≤ x) (x1 : x ≤ 1000000000000) : Calls Try.prog 97 #[tmV n x] w fun e w' => e = .returned (.int .u64 (AS x)) ∧ Below w.heap.size w w' := by
  have h66 := heap_new0 w _ (.cells #[.int .u64 n, .int .i64 x, .pointer none] 66) rfl
  obtain ⟨k0, k1, k2, -⟩ := res3 h66
  have HW := Lib.hid h66
  clear h66
  have HX := Lib.hid x0
  go_enter Try.func97, Try.ntmps97
  go_wp2_with (first
    | (go_at_call 111; refine (get_nil _).mono ?_; rintro e w1 ⟨q, rfl, hq, hb⟩; have c0 := (blk_cell hq 0).trans rfl; have HQ := Lib.hid hb; clear hb hq)
    | (go_at_call 60; refine (unixSec_any _ n x _ (blk_on HQ.out HW.out) h0 h1 (by omega) (by omega)).mono ?_; rintro e w2 ⟨rfl, rfl⟩))
  go_ret
  have e1 : IntKind.u64.wrap (wrap64 (x + -62135596800 + 9223372028741760000)) = AS x := by
    simp only [IntKind.wrap, IntKind.bits, IntKind.signed, wrap64, AS]
    simp
    omega
  refine ⟨?_, bl_on (bl_alloc (Below.refl _ _) _) HQ.out⟩
  rw [← e1]
  rfl
/-- the absolute day of a time -/
def ND (x : Int) : Nat := (x / 86400 + 106751990354238).toNat
def Yx (x : Int) : Int := gY (ND x)
def Mx (x : Int) : Int := gM (ND x)
def Dx (x : Int) : Int := gD (ND x)
theorem nd_eq (x : Int) (x0 : -1000000000000 ≤ x) : ((ND x : Nat) : Int) = x / 86400 + 106751990354238 := by unfold ND; omega
theorem as_day (x : Int) (x0 : -1000000000000 ≤ x) : AS x / 86400 = ((ND x : Nat) : Int) := by rw [nd_eq x x0]; unfold AS; omega
theorem as_day_mod (x : Int) : AS x % 86400 = x % 86400 := by unfold AS; omega
theorem as_hour_mod (x : Int) : AS x % 3600 = x % 3600 := by unfold AS; omega
theorem as_min_mod (x : Int) : AS x % 60 = x % 60 := by unfold AS; omega
theorem as_lo (x : Int) (x0 : -1000000000000 ≤ x) (x1 : x ≤ 1000000000000) : 0 ≤ AS x ∧ AS x < 18446744073709551616 := by unfold AS; omega
theorem x_date (x : Int) (x0 : -1000000000000 ≤ x) : IsDate (x / 86400 - 719162) (Yx x) (Mx x) (Dx x) := by
  apply go_civil
  rw [nd_eq x x0]
  have hA : ((A0 : Nat) : Int) = 106751991073400 := by decide +kernel
  omega
theorem jf_val (N : Nat) : gY N = (cent N : Int) * 100 - 292277022400 + (cyear N : Nat) + (if (yday N : Int) < 306 then 0 else 1) := by
  unfold gY yearA
  by_cases h : yday N < 306
  · rw [if_pos h, if_pos (by omega)]
    push_cast
    omega
  · rw [if_neg h, if_neg (by omega)]
    push_cast
    omega
theorem mf_val (N : Nat) : gM N = (mon (yday N) : Nat) - (if (yday N : Int) < 306 then 0 else 1) * 12 := by
  unfold gM
  by_cases h : yday N < 306
  · rw [if_pos h, if_pos (by omega)]
    omega
  · rw [if_neg h, if_neg (by omega)]
    omega
theorem cent_b (N : Nat) (h0 : 106751990354238 ≤ N) (h1 : N ≤ 106751990354238 + 11574075) : 2922770224 ≤ (cent N : Int) ∧ (cent N : Int) < 4000000000 := by unfold cent; omega
theorem nd_b (x : Int) (x0 : 0 ≤ x) (x1 : x ≤ 1000000000000) : 106751990354238 ≤ ND x ∧ ND x ≤ 106751990354238 + 11574075 := by unfold ND; omega
theorem jf_b (y : Int) : (0 : Int) ≤ (if y < 306 then 0 else 1) ∧ (if y < 306 then 0 else 1) ≤ (1 : Int) := by split <;> omega

theorem Hour_any (n x : Int) (w : World) (h0 : 0 ≤ n) (h1 : n < 1073741824) (x0 : -1000000000000 ≤ x) (x1 : x ≤ 1000000000000) : Calls Try.prog 93 #[tmV n x] w fun e w' => e = .returned (.int .i64 (x % 86400 / 3600)) ∧ Below w.heap.size w w' := by
  obtain ⟨k0, k1, k2, -⟩ := res3 (heap_new0 w _ (.cells #[.int .u64 n, .int .i64 x, .pointer none] 66) rfl)
  have HX := Lib.hid x0
  have hd := as_day_mod x
  obtain ⟨a0, a1⟩ := as_lo x x0 x1
  go_enter Try.func93, Try.ntmps93
  go_wp2_with (go_at_call 97; refine (absSec_any n x _ h0 h1 HX.out x1).mono ?_; rintro e w1 ⟨rfl, hb⟩; have HQ := Lib.hid hb; clear hb)
  go_ret
  refine ⟨?_, bl_on (bl_alloc (Below.refl _ _) _) HQ.out⟩
  rfl
theorem Minute_any (n x : Int) (w : World) (h0 : 0 ≤ n) (h1 : n < 1073741824) (x0 : -1000000000000 ≤ x) (x1 : x ≤ 1000000000000) : Calls Try.prog 94 #[tmV n x] w fun e w' => e = .returned (.int .i64 (x % 3600 / 60)) ∧ Below w.heap.size w w' := by
  obtain ⟨k0, k1, k2, -⟩ := res3 (heap_new0 w _ (.cells #[.int .u64 n, .int .i64 x, .pointer none] 66) rfl)
  have HX := Lib.hid x0
  have hd := as_hour_mod x
  obtain ⟨a0, a1⟩ := as_lo x x0 x1
  go_enter Try.func94, Try.ntmps94
  go_wp2_with (go_at_call 97; refine (absSec_any n x _ h0 h1 HX.out x1).mono ?_; rintro e w1 ⟨rfl, hb⟩; have HQ := Lib.hid hb; clear hb)
  go_ret
  refine ⟨?_, bl_on (bl_alloc (Below.refl _ _) _) HQ.out⟩
  rfl
theorem Second_any (n x : Int) (w : World) (h0 : 0 ≤ n) (h1 : n < 1073741824) (x0 : -1000000000000 ≤ x) (x1 : x ≤ 1000000000000) : Calls Try.prog 96 #[tmV n x] w fun e w' => e = .returned (.int .i64 (x % 60)) ∧ Below w.heap.size w w' := by
  obtain ⟨k0, k1, k2, -⟩ := res3 (heap_new0 w _ (.cells #[.int .u64 n, .int .i64 x, .pointer none] 66) rfl)
  have HX := Lib.hid x0
  have hd := as_min_mod x
  obtain ⟨a0, a1⟩ := as_lo x x0 x1
  go_enter Try.func96, Try.ntmps96
  go_wp2_with (go_at_call 97; refine (absSec_any n x _ h0 h1 HX.out x1).mono ?_; rintro e w1 ⟨rfl, hb⟩; have HQ := Lib.hid hb; clear hb)
  go_ret
  refine ⟨?_, bl_on (bl_alloc (Below.refl _ _) _) HQ.out⟩
  rfl
theorem weekday_any (N : Nat) (w : World) (h : (N : Int) < 4611686018427387904) : Calls Try.prog 116 #[.int .u64 N] w fun e w' => e = .returned (.int .i64 (((N : Int) + 3) % 7)) ∧ w = w' := by
  go_enter Try.func116, Try.ntmps116
  go_wp2
  go_ret
  exact ⟨rfl, rfl⟩
theorem clock_any (a : Int) (w : World) (h0 : 0 ≤ a) (h1 : a < 18446744073709551616) : Calls Try.prog 115 #[.int .u64 a] w fun e w' => e = .returned (.tuple #[.int .i64 (a % 86400 / 3600), .int .i64 (a % 3600 / 60), .int .i64 (a % 60)]) ∧ w = w' := by
  go_enter Try.func115, Try.ntmps115
  go_wp2
  refine bodyPost_ret (v := .tuple #[.int .i64 (a % 86400 / 3600), .int .i64 (a % 3600 / 60), .int .i64 (a % 60)]) ?_ rfl ⟨rfl, rfl⟩
  simp [results, Try.results115, go_sem]
  omega
theorem date_any (N : Nat) (w : World) (h0 : 106751990354238 ≤ N) (h1 : N ≤ 106751990354238 + 11574075) : Calls Try.prog 114 #[.int .u64 N] w fun e w' => e = .returned (.tuple #[.int .i64 (gY N), .int .i64 (gM N), .int .i64 (gD N)]) ∧ w = w' := by
  have hN := Lib.hid h1
  obtain ⟨c0, c1⟩ := cent_b N h0 h1
  have y1 := cyear_lt N
  have d1 := yday_lt N
  obtain ⟨m0, m1⟩ := mon_bounds (yday N) d1
  obtain ⟨j0, j1⟩ := jf_b (yday N)
  have HY := Lib.hid (jf_val N)
  have HM := Lib.hid (mf_val N)
  clear h0 h1
  go_enter Try.func114, Try.ntmps114
  go_wp2_with (first
    | (go_at_call 99; with_reducible refine (split_any N _ (by have := hN.out; omega)).mono ?_; rintro e w1 ⟨rfl, rfl⟩)
    | (go_at_call 100; with_reducible refine (ysplit_any (yday N) _ d1).mono ?_; rintro e w1 ⟨rfl, rfl⟩)
    | (go_at_call 101; with_reducible refine (janFeb_any (yday N) _ (by omega) (by omega)).mono ?_; rintro e w1 ⟨rfl, rfl⟩; generalize (if (yday N : Int) < 306 then (0 : Int) else 1) = jf at *)
    | (go_at_call 102; with_reducible refine (year_any _ _ jf _ c0 c1 (by omega) (by omega) j0 j1).mono ?_; rintro e w1 ⟨rfl, rfl⟩; rw [← HY.out])
    | (go_at_call 103; with_reducible refine (month_any _ jf _ (by omega) (by omega) j0 j1).mono ?_; rintro e w1 ⟨rfl, rfl⟩; rw [← HM.out]))
  refine bodyPost_ret (v := .tuple #[.int .i64 (gY N), .int .i64 (gM N), .int .i64 (gD N)]) ?_ rfl ⟨rfl, rfl⟩
  simp [results, Try.results114, go_sem, gD]
end Go.Proofs.Ytdgglkihiibmhaa
