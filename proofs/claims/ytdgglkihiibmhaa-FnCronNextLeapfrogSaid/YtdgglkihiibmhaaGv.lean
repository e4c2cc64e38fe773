/-
  The package time on the clocks of UTC: year, month, day, weekday, date, clock.
-/
import Derived.Test.YtdgglkihiibmhaaGu
set_option linter.unusedVariables false
set_option linter.unusedSimpArgs false
namespace Go.Proofs.Ytdgglkihiibmhaa
open Go Go.RowKit Cal

theorem Year_any (n x : Int) (w : World) (h0 : 0 ≤ n) (h1 : n < 1073741824) (x0 : 0 ≤ x) (x1 : x ≤ 1000000000000) : Calls Try.prog 88 #[tmV n x] w fun e w' => e = .returned (.int .i64 (Yx x)) ∧ Below w.heap.size w w' := by
  obtain ⟨k0, k1, k2, -⟩ := res3 (heap_new0 w _ (.cells #[.int .u64 n, .int .i64 x, .pointer none] 66) rfl)
  have HX := Lib.hid (show -1000000000000 ≤ x by omega)
  have HD := Lib.hid (as_day x HX.out)
  obtain ⟨a0, a1⟩ := as_lo x HX.out x1
  have hN := nd_b x x0 x1
  obtain ⟨c0, c1⟩ := cent_b (ND x) hN.1 hN.2
  have y1 := cyear_lt (ND x)
  have d1 := yday_lt (ND x)
  obtain ⟨j0, j1⟩ := jf_b (yday (ND x))
  have HY := Lib.hid (jf_val (ND x))
  have HN := Lib.hid hN
  clear hN
  go_enter Try.func88, Try.ntmps88
  go_wp2_with (first
    | (go_at_call 97; refine (absSec_any n x _ h0 h1 HX.out x1).mono ?_; rintro e w1 ⟨rfl, hb⟩; have HQ := Lib.hid hb; clear hb)
    | (go_at_call 98; refine (days_any (AS x) _ a0 a1).mono ?_; rintro e w2 ⟨rfl, rfl⟩; rw [HD.out])
    | (go_at_call 99; with_reducible refine (split_any (ND x) _ (by have := HN.out; omega)).mono ?_; rintro e w2 ⟨rfl, rfl⟩)
    | (go_at_call 101; with_reducible refine (janFeb_any (yday (ND x)) _ (by omega) (by omega)).mono ?_; rintro e w2 ⟨rfl, rfl⟩; generalize (if (yday (ND x) : Int) < 306 then (0 : Int) else 1) = jf at *)
    | (go_at_call 102; with_reducible refine (year_any _ _ jf _ c0 c1 (by omega) (by omega) j0 j1).mono ?_; rintro e w2 ⟨rfl, rfl⟩; rw [← HY.out]))
  go_ret
  refine ⟨?_, bl_on (bl_alloc (Below.refl _ _) _) HQ.out⟩
  rfl
theorem Month_any (n x : Int) (w : World) (h0 : 0 ≤ n) (h1 : n < 1073741824) (x0 : 0 ≤ x) (x1 : x ≤ 1000000000000) : Calls Try.prog 89 #[tmV n x] w fun e w' => e = .returned (.int .i64 (Mx x)) ∧ Below w.heap.size w w' := by
  obtain ⟨k0, k1, k2, -⟩ := res3 (heap_new0 w _ (.cells #[.int .u64 n, .int .i64 x, .pointer none] 66) rfl)
  have HX := Lib.hid (show -1000000000000 ≤ x by omega)
  have HD := Lib.hid (as_day x HX.out)
  obtain ⟨a0, a1⟩ := as_lo x HX.out x1
  have hN := nd_b x x0 x1
  have d1 := yday_lt (ND x)
  obtain ⟨m0, m1⟩ := mon_bounds (yday (ND x)) d1
  obtain ⟨j0, j1⟩ := jf_b (yday (ND x))
  have HM := Lib.hid (mf_val (ND x))
  have HN := Lib.hid hN
  clear hN
  go_enter Try.func89, Try.ntmps89
  go_wp2_with (first
    | (go_at_call 97; refine (absSec_any n x _ h0 h1 HX.out x1).mono ?_; rintro e w1 ⟨rfl, hb⟩; have HQ := Lib.hid hb; clear hb)
    | (go_at_call 98; refine (days_any (AS x) _ a0 a1).mono ?_; rintro e w2 ⟨rfl, rfl⟩; rw [HD.out])
    | (go_at_call 99; with_reducible refine (split_any (ND x) _ (by have := HN.out; omega)).mono ?_; rintro e w2 ⟨rfl, rfl⟩)
    | (go_at_call 100; with_reducible refine (ysplit_any (yday (ND x)) _ d1).mono ?_; rintro e w1 ⟨rfl, rfl⟩)
    | (go_at_call 101; with_reducible refine (janFeb_any (yday (ND x)) _ (by omega) (by omega)).mono ?_; rintro e w2 ⟨rfl, rfl⟩; generalize (if (yday (ND x) : Int) < 306 then (0 : Int) else 1) = jf at *)
    | (go_at_call 103; with_reducible refine (month_any _ jf _ (by omega) (by omega) j0 j1).mono ?_; rintro e w1 ⟨rfl, rfl⟩; rw [← HM.out]))
  go_ret
  refine ⟨?_, bl_on (bl_alloc (Below.refl _ _) _) HQ.out⟩
  rfl
theorem Day_any (n x : Int) (w : World) (h0 : 0 ≤ n) (h1 : n < 1073741824) (x0 : 0 ≤ x) (x1 : x ≤ 1000000000000) : Calls Try.prog 85 #[tmV n x] w fun e w' => e = .returned (.int .i64 (Dx x)) ∧ Below w.heap.size w w' := by
  obtain ⟨k0, k1, k2, -⟩ := res3 (heap_new0 w _ (.cells #[.int .u64 n, .int .i64 x, .pointer none] 66) rfl)
  have HX := Lib.hid (show -1000000000000 ≤ x by omega)
  have HD := Lib.hid (as_day x HX.out)
  obtain ⟨a0, a1⟩ := as_lo x HX.out x1
  have hN := nd_b x x0 x1
  have d1 := yday_lt (ND x)
  have HN := Lib.hid hN
  clear hN
  go_enter Try.func85, Try.ntmps85
  go_wp2_with (first
    | (go_at_call 97; refine (absSec_any n x _ h0 h1 HX.out x1).mono ?_; rintro e w1 ⟨rfl, hb⟩; have HQ := Lib.hid hb; clear hb)
    | (go_at_call 98; refine (days_any (AS x) _ a0 a1).mono ?_; rintro e w2 ⟨rfl, rfl⟩; rw [HD.out])
    | (go_at_call 99; with_reducible refine (split_any (ND x) _ (by have := HN.out; omega)).mono ?_; rintro e w2 ⟨rfl, rfl⟩)
    | (go_at_call 100; with_reducible refine (ysplit_any (yday (ND x)) _ d1).mono ?_; rintro e w1 ⟨rfl, rfl⟩))
  go_ret
  refine ⟨?_, bl_on (bl_alloc (Below.refl _ _) _) HQ.out⟩
  rfl
theorem Weekday_any (n x : Int) (w : World) (h0 : 0 ≤ n) (h1 : n < 1073741824) (x0 : 0 ≤ x) (x1 : x ≤ 1000000000000) : Calls Try.prog 109 #[tmV n x] w fun e w' => e = .returned (.int .i64 ((x / 86400 + 1) % 7)) ∧ Below w.heap.size w w' := by
  obtain ⟨k0, k1, k2, -⟩ := res3 (heap_new0 w _ (.cells #[.int .u64 n, .int .i64 x, .pointer none] 66) rfl)
  have HX := Lib.hid (show -1000000000000 ≤ x by omega)
  have HD := Lib.hid (as_day x HX.out)
  obtain ⟨a0, a1⟩ := as_lo x HX.out x1
  have HN := Lib.hid (nd_b x x0 x1)
  have hw : ((ND x : Int) + 3) % 7 = (x / 86400 + 1) % 7 := by rw [nd_eq x HX.out]; omega
  have HW := Lib.hid hw
  clear hw
  go_enter Try.func109, Try.ntmps109
  go_wp2_with (first
    | (go_at_call 97; refine (absSec_any n x _ h0 h1 HX.out x1).mono ?_; rintro e w1 ⟨rfl, hb⟩; have HQ := Lib.hid hb; clear hb)
    | (go_at_call 98; refine (days_any (AS x) _ a0 a1).mono ?_; rintro e w2 ⟨rfl, rfl⟩; rw [HD.out])
    | (go_at_call 116; with_reducible refine (weekday_any (ND x) _ (by have := HN.out; omega)).mono ?_; rintro e w2 ⟨rfl, rfl⟩; rw [HW.out]))
  go_ret
  refine ⟨?_, bl_on (bl_alloc (Below.refl _ _) _) HQ.out⟩
  rfl
theorem Date_any (n x : Int) (w : World) (h0 : 0 ≤ n) (h1 : n < 1073741824) (x0 : 0 ≤ x) (x1 : x ≤ 1000000000000) : Calls Try.prog 107 #[tmV n x] w fun e w' => e = .returned (.tuple #[.int .i64 (Yx x), .int .i64 (Mx x), .int .i64 (Dx x)]) ∧ Below w.heap.size w w' := by
  obtain ⟨k0, k1, k2, -⟩ := res3 (heap_new0 w _ (.cells #[.int .u64 n, .int .i64 x, .pointer none] 66) rfl)
  have HX := Lib.hid (show -1000000000000 ≤ x by omega)
  have HD := Lib.hid (as_day x HX.out)
  obtain ⟨a0, a1⟩ := as_lo x HX.out x1
  have HN := Lib.hid (nd_b x x0 x1)
  go_enter Try.func107, Try.ntmps107
  go_wp2_with (first
    | (go_at_call 97; refine (absSec_any n x _ h0 h1 HX.out x1).mono ?_; rintro e w1 ⟨rfl, hb⟩; have HQ := Lib.hid hb; clear hb)
    | (go_at_call 98; refine (days_any (AS x) _ a0 a1).mono ?_; rintro e w2 ⟨rfl, rfl⟩; rw [HD.out])
    | (go_at_call 114; with_reducible refine (date_any (ND x) _ HN.out.1 HN.out.2).mono ?_; rintro e w2 ⟨rfl, rfl⟩))
  refine bodyPost_ret (v := .tuple #[.int .i64 (Yx x), .int .i64 (Mx x), .int .i64 (Dx x)]) ?_ rfl ⟨rfl, bl_on (bl_alloc (Below.refl _ _) _) HQ.out⟩
  simp [results, Try.results107, go_sem, Yx, Mx, Dx]
theorem Clock_any (n x : Int) (w : World) (h0 : 0 ≤ n) (h1 : n < 1073741824) (x0 : 0 ≤ x) (x1 : x ≤ 1000000000000) : Calls Try.prog 108 #[tmV n x] w fun e w' => e = .returned (.tuple #[.int .i64 (x % 86400 / 3600), .int .i64 (x % 3600 / 60), .int .i64 (x % 60)]) ∧ Below w.heap.size w w' := by
  obtain ⟨k0, k1, k2, -⟩ := res3 (heap_new0 w _ (.cells #[.int .u64 n, .int .i64 x, .pointer none] 66) rfl)
  have HX := Lib.hid (show -1000000000000 ≤ x by omega)
  have HM := Lib.hid (And.intro (as_day_mod x) (And.intro (as_hour_mod x) (as_min_mod x)))
  obtain ⟨a0, a1⟩ := as_lo x HX.out x1
  go_enter Try.func108, Try.ntmps108
  go_wp2_with (first
    | (go_at_call 97; refine (absSec_any n x _ h0 h1 HX.out x1).mono ?_; rintro e w1 ⟨rfl, hb⟩; have HQ := Lib.hid hb; clear hb)
    | (go_at_call 115; refine (clock_any (AS x) _ a0 a1).mono ?_; rintro e w2 ⟨rfl, rfl⟩; rw [HM.out.1, HM.out.2.1, HM.out.2.2]))
  refine bodyPost_ret (v := .tuple #[.int .i64 (x % 86400 / 3600), .int .i64 (x % 3600 / 60), .int .i64 (x % 60)]) ?_ rfl ⟨rfl, bl_on (bl_alloc (Below.refl _ _) _) HQ.out⟩
  simp [results, Try.results108, go_sem]
end Go.Proofs.Ytdgglkihiibmhaa
