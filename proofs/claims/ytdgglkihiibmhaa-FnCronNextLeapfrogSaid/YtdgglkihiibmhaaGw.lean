/-
  The package time on the clocks of UTC: a time from its date.
-/
import Derived.Test.YtdgglkihiibmhaaGv
set_option linter.unusedVariables false
set_option linter.unusedSimpArgs false
namespace Go.Proofs.Ytdgglkihiibmhaa
open Go Go.RowKit Cal

theorem norm_id (hi lo base : Int) (w : World) (h0 : 0 ≤ lo) (h1 : lo < base) : Calls Try.prog 104 #[.int .i64 hi, .int .i64 lo, .int .i64 base] w fun e w' => e = .returned (.tuple #[.int .i64 hi, .int .i64 lo]) ∧ w = w' := by
  have t1 : decide (lo < 0) = false := decide_eq_false (by omega)
  have t2 : decide (base ≤ lo) = false := decide_eq_false (by omega)
  go_enter Try.func104, Try.ntmps104
  go_wp2
  refine bodyPost_ret (v := .tuple #[.int .i64 hi, .int .i64 lo]) ?_ rfl ⟨rfl, rfl⟩
  simp [results, Try.results104, go_sem]
theorem norm_12 (hi : Int) (w : World) (h0 : 0 ≤ hi) (h1 : hi < 100000) : Calls Try.prog 104 #[.int .i64 hi, .int .i64 12, .int .i64 12] w fun e w' => e = .returned (.tuple #[.int .i64 (hi + 1), .int .i64 0]) ∧ w = w' := by
  go_enter Try.func104, Try.ntmps104
  go_wp2
  refine bodyPost_ret (v := .tuple #[.int .i64 (hi + 1), .int .i64 0]) ?_ rfl ⟨rfl, rfl⟩
  simp [results, Try.results104, go_sem]
theorem abs_go (y m Y am d : Int) (m0 : 1 ≤ m) (m1 : m ≤ 12) (y0 : 1 ≤ y) (hY : Y = (if m < 3 then y - 1 else y) + 292277022400) (ha : am = if m < 3 then m + 12 else m) : 146097 * (Y / 100) / 4 + (1461 * (Y % 100) / 4 + (979 * am - 2919) / 32 + d - 1) = YS y + CM y m + (A0 : Nat) + d - 1 := by
  have hY0 : 0 ≤ Y := by split at hY <;> omega
  have ha0 : 3 ≤ am ∧ am < 15 := by split at ha <;> omega
  obtain ⟨Z, rfl⟩ := Int.eq_ofNat_of_zero_le hY0
  obtain ⟨b, rfl⟩ := Int.eq_ofNat_of_zero_le (show 0 ≤ am by omega)
  have e := abs_date y m m0 m1 Z b hY ha (by omega)
  have es := S_cent (Z / 100) (Z % 100) (by omega)
  rw [show 100 * (Z / 100) + Z % 100 = Z by omega] at es
  have em := mstart_979 b (by omega) (by omega)
  have e1 : (979 * (b : Int) - 2919) / 32 = (mstart b : Nat) := by omega
  have e2 : 146097 * ((Z : Int) / 100) / 4 = 36524 * ((Z / 100 : Nat) : Int) + ((Z / 100 / 4 : Nat) : Int) := by omega
  have e3 : 1461 * ((Z : Int) % 100) / 4 = 365 * ((Z % 100 : Nat) : Int) + ((Z % 100 / 4 : Nat) : Int) := by omega
  have e4 : ((S Z : Nat) : Int) = 36524 * ((Z / 100 : Nat) : Int) + ((Z / 100 / 4 : Nat) : Int) + (365 * ((Z % 100 : Nat) : Int) + ((Z % 100 / 4 : Nat) : Int)) := by
    rw [es]
    omega
  rw [e1, e2, e3]
  omega
theorem absDays_any (y m d : Int) (w : World) (y0 : 1 ≤ y) (y1 : y < 100000) (m0 : 1 ≤ m) (m1 : m ≤ 12) (d0 : 1 ≤ d) (d1 : d ≤ 40) : Calls Try.prog 105 #[.int .i64 y, .int .i64 m, .int .i64 d] w fun e w' => e = .returned (.int .u64 (YS y + CM y m + (A0 : Nat) + d - 1)) ∧ w = w' := by
  go_enter Try.func105, Try.ntmps105
  go_wp2
  · rename_i hm
    go_ret
    refine ⟨?_, rfl⟩
    rw [← abs_go y m (y - 1 + 292277022400) (m + 12) d m0 m1 y0 (by rw [if_pos hm]) (by rw [if_pos hm])]
    rfl
  · rename_i hm
    go_ret
    refine ⟨?_, rfl⟩
    rw [← abs_go y m (y + 292277022400) m d m0 m1 y0 (by rw [if_neg (by omega)]) (by rw [if_neg (by omega)])]
    rfl
set_option maxRecDepth 1000000 in
theorem lookup_any (q : Nat) (s : Int) (w : World) (hq : w.heap[q]? = some utcO) : Calls Try.prog 106 #[.pointer (some ⟨q, 0, none⟩), .int .i64 s] w fun e w' => e = .returned (.tuple #[.string ⟨#[85, 84, 67]⟩, .int .i64 0, .int .i64 (-9223372036854775808), .int .i64 9223372036854775807, .bool false]) ∧ w = w' := by
  have c2 := (blk_cell hq 2).trans rfl
  have HQ := Lib.hid hq
  clear hq
  go_enter Try.func106, Try.ntmps106
  go_wp2_with (go_at_call 111; refine (get_some _ _).mono ?_; rintro e w1 ⟨rfl, rfl⟩)
  refine bodyPost_ret (v := .tuple #[.string ⟨#[85, 84, 67]⟩, .int .i64 0, .int .i64 (-9223372036854775808), .int .i64 9223372036854775807, .bool false]) ?_ rfl ⟨rfl, rfl⟩
  simp [results, Try.results106, go_sem]
theorem Location_any (n x : Int) (w : World) : Calls Try.prog 87 #[tmV n x] w fun e w' => ∃ q, e = .returned (.pointer (some ⟨q, 0, none⟩)) ∧ w'.heap[q]? = some utcO ∧ Below w.heap.size w w' := by
  obtain ⟨k0, k1, k2, -⟩ := res3 (heap_new0 w _ (.cells #[.int .u64 n, .int .i64 x, .pointer none] 66) rfl)
  go_enter Try.func87, Try.ntmps87
  go_wp2_with (go_at_call 31; refine (utc2_any _).mono ?_; rintro e w1 ⟨q, rfl, hq, hb⟩; have HQ := Lib.hid hq; have HB := Lib.hid hb; clear hq hb)
  go_ret
  exact ⟨q, rfl, HQ.out, bl_on (bl_alloc (Below.refl _ _) _) HB.out⟩
theorem addSec_all (p : Nat) (n x d : Int) (w : World) (h : IsT w p n x) (h0 : 0 ≤ n) (h1 : n < 1073741824) (x0 : -4611686018427387904 ≤ x) (x1 : x ≤ 4611686018427387904) (d0 : -9223372037 ≤ d) (d1 : d ≤ 9223372037) : Calls Try.prog 62 #[.pointer (some ⟨p, 0, none⟩), .int .i64 d] w fun e w' => e = .returned (.tuple #[]) ∧ w' = w.setCell ⟨p, 1, none⟩ (.int .i64 (x + d)) := by
  have k0 : w.cell? ⟨p, 0, none⟩ = some (.int .u64 n) := (blk_cell h 0).trans rfl
  have k1 : w.cell? ⟨p, 1, none⟩ = some (.int .i64 x) := (blk_cell h 1).trans rfl
  have f1 : w.frozen? ⟨p, 1, none⟩ = false := blk_frozen h 1
  have e1 := and_mono n h0 h1
  have t1 : (decide (x < x + d) == decide (0 < d)) = true := by
    by_cases h : 0 < d
    · rw [decide_eq_true h, decide_eq_true (by omega)]
      rfl
    · rw [decide_eq_false h, decide_eq_false (by omega)]
      rfl
  clear h
  go_enter Try.func62, Try.ntmps62
  go_wp2
  go_end0
  exact ⟨rfl, rfl⟩
theorem Add_whole (d q x : Int) (w : World) (hd : d = 1000000000 * q) (q0 : -9223372036 ≤ q) (q1 : q ≤ 9223372036) (x0 : -4611686018427387904 ≤ x) (x1 : x ≤ 4611686018427387904) : Calls Try.prog 49 #[tmV 0 x, .int .i64 d] w fun e w' => e = .returned (tmV 0 (x + q)) ∧ Below w.heap.size w w' := by
  have hq1 : d.tdiv 1000000000 = q := by subst hd; exact Int.mul_tdiv_cancel_left q (by decide)
  have hq2 : d.tmod 1000000000 = 0 := by subst hd; exact Int.mul_tmod_right 1000000000 q
  have d0 : -9223372036000000000 ≤ d := by omega
  have d1 : d ≤ 9223372036000000000 := by omega
  have e3 := andnot_mask 0 (by omega) (by omega)
  have e4 := or00
  have e5 := i32_id 0 (by omega) (by omega)
  have e6 := u64_id 0 (by omega) (by omega)
  have e7 := and_mono 0 (by omega) (by omega)
  clear hd
  go_enter Try.func49, Try.ntmps49
  go_wp2_with (first
    | (go_at_call 61; refine (nsec_any w.heap.size 0 x _ ?c1 (by omega) (by omega)).mono ?_; (case c1 => exact heap_old (heap_new0 _ _ _ rfl)); rintro e w' ⟨rfl, rfl⟩)
    | (go_at_call 62; refine (addSec_all w.heap.size 0 x q _ ?c1 (by omega) (by omega) x0 x1 (by omega) (by omega)).mono ?_; (case c1 => first | exact heap_old (heap_new0 _ _ _ rfl) | exact isT_wall (heap_old (heap_new0 _ _ _ rfl))); rintro e w' ⟨rfl, rfl⟩))
  refine bodyPost_ret (v := tmV 0 (x + q)) (by simp [results, Try.results49, go_sem]) rfl ⟨rfl, ?_⟩
  repeat (first | exact Below.refl _ _ | apply bl_alloc | (refine bl_set ?_ (Nat.le_refl _) _) | (refine bl_set ?_ (Nat.le_succ _) _))
theorem put3_get {r : Nat} {W : World} {a b c n x e : Value} (h0 : W.cell? ⟨r, 0, none⟩ = some a) (h1 : W.cell? ⟨r, 1, none⟩ = some b) (h2 : W.cell? ⟨r, 2, none⟩ = some c) : (((W.setCell ⟨r, 0, none⟩ n).setCell ⟨r, 1, none⟩ x).setCell ⟨r, 2, none⟩ e).cell? ⟨r, 0, none⟩ = some n ∧ (((W.setCell ⟨r, 0, none⟩ n).setCell ⟨r, 1, none⟩ x).setCell ⟨r, 2, none⟩ e).cell? ⟨r, 1, none⟩ = some x ∧ (((W.setCell ⟨r, 0, none⟩ n).setCell ⟨r, 1, none⟩ x).setCell ⟨r, 2, none⟩ e).cell? ⟨r, 2, none⟩ = some e := by
  refine ⟨?_, ?_, ?_⟩ <;> go_simp
/-- the seconds of a date and a time of day -/
def DS (y m d h mi s : Int) : Int := (YS y + CM y m + d - 1 + 719162) * 86400 + h * 3600 + mi * 60 + s
theorem ys_b (y : Int) (y0 : 1 ≤ y) (y1 : y < 100000) : -719162 ≤ YS y ∧ YS y ≤ 40000000 := by unfold YS; omega
theorem cm_b (y m : Int) (m0 : 1 ≤ m) (m1 : m ≤ 12) : 0 ≤ CM y m ∧ CM y m ≤ 400 := by
  have h1 : CM y 1 = 0 := rfl
  have h13 : CM y 13 = 365 + lp y := rfl
  have := lp_01 y
  have a := CM_le y (m := 1) (k := m) (by omega) m0 (by omega)
  have b := CM_le y (m := m) (k := 13) m0 (by omega) (by omega)
  omega
set_option maxHeartbeats 1000000 in
theorem DateA_any (q : Nat) (y m d h mi s : Int) (w : World) (hq : w.heap[q]? = some utcO) (y0 : 1 ≤ y) (y1 : y < 90000) (m0 : 1 ≤ m) (m1 : m ≤ 12) (d0 : 1 ≤ d) (d1 : d ≤ 40) (h0 : 0 ≤ h) (h1 : h < 24) (i0 : 0 ≤ mi) (i1 : mi < 60) (s0 : 0 ≤ s) (s1 : s < 60) : Calls Try.prog 90 #[.int .i64 y, .int .i64 m, .int .i64 d, .int .i64 h, .int .i64 mi, .int .i64 s, .int .i64 0, .pointer (some ⟨q, 0, none⟩)] w fun e w' => e = .returned (tmV 0 (DS y m d h mi s)) ∧ Below w.heap.size w w' := by
  have HQ := Lib.hid hq
  have hA : ((A0 : Nat) : Int) = 106751991073400 := by decide +kernel
  have hy := ys_b y y0 (by omega)
  have hm := cm_b y m m0 m1
  obtain ⟨N, hN⟩ : ∃ N, YS y + CM y m + (A0 : Nat) + d - 1 = N := ⟨_, rfl⟩
  have n0 : 106751990354238 ≤ N := by omega
  have n1 : N ≤ 106752031074000 := by omega
  have HN := Lib.hid hN
  have HD := Lib.hid (show DS y m d h mi s = (N - 106751990354238) * 86400 + h * 3600 + mi * 60 + s by unfold DS; omega)
  obtain ⟨U, hU⟩ : ∃ U, wrap64 (wrap64 (wrap64 (N * 86400) + (h * 3600 + mi * 60 + s)) + -9223372028741760000) = U := ⟨_, rfl⟩
  have hU' : U + 62135596800 = DS y m d h mi s := by
    rw [← hU, HD.out]
    simp only [wrap64]
    omega
  have HE := Lib.hid hU'
  have u0 : -4611686018427387904 ≤ U := by rw [HD.out] at hU'; omega
  have u1 : U ≤ 4611686018427387904 := by rw [HD.out] at hU'; omega
  have HU := Lib.hid hU
  clear hq hA hN hy hm hU hU'
  go_enter Try.func90, Try.ntmps90
  go_wp2_with (first
    | (go_at_call 104; with_reducible refine (norm_id _ _ _ _ (by omega) (by omega)).mono ?_; rintro e w1 ⟨rfl, rfl⟩)
    | (go_at_call 105; with_reducible refine (absDays_any y m d _ y0 (by omega) m0 m1 d0 d1).mono ?_; rintro e w1 ⟨rfl, rfl⟩; rw [HN.out])
    | (go_at_call 106; with_reducible refine (lookup_any q _ _ (heap_old HQ.out)).mono ?_; rintro e w1 ⟨rfl, rfl⟩)
    | (go_at_call 58; rw [HU.out]; refine (unixTime_any U 0 _ (by omega) (by omega) u0 u1).mono ?_; rintro e w1 ⟨rfl, hb⟩; have HB := Lib.hid hb; obtain ⟨r0, r1, r2, f0, f1, f2⟩ := res3 (heap_old (o' := .cells #[.int .u64 0, .int .i64 (U + 62135596800), .pointer none] 66) (blk_on hb (heap_new0 w _ (.cells #[.int .u64 0, .int .i64 0, .pointer none] 66) rfl))); obtain ⟨k0, k1, k2, -⟩ := res3 (heap_new0 w1 _ (.cells #[.int .u64 0, .int .i64 (U + 62135596800), .pointer none] 66) rfl); have hs := hb.size; have hne : w.heap.size ≠ w1.heap.size := (by simp at hs; omega); clear hb hs)
    | (go_at_call 59; refine (setLoc_any w1.heap.size q 0 (U + 62135596800) _ (heap_new0 _ _ _ rfl) ((blk_cell (heap_old (blk_on HB.out (heap_old HQ.out))) 0).trans rfl) (by omega) (by omega)).mono ?_; rintro e w2 ⟨rfl, rfl⟩))
  refine bodyPost_ret (v := tmV 0 (DS y m d h mi s)) ?_ rfl ⟨rfl, ?_⟩
  · rw [← HE.out]
    obtain ⟨j0, j1, j2⟩ := put3_get (n := .int .u64 0) (x := .int .i64 (U + 62135596800)) (e := .pointer none) r0 r1 r2
    simp [results, Try.results90, go_sem, j0, j1, j2]
  · refine bl_set (bl_set (bl_set (bl_alloc (bl_on (bl_alloc (Below.refl _ _) _) HB.out) _) (Nat.le_refl _) _) (Nat.le_refl _) _) (Nat.le_refl _) _
set_option maxHeartbeats 1000000 in
theorem DateB_any (q : Nat) (y d h mi s : Int) (w : World) (hq : w.heap[q]? = some utcO) (y0 : 1 ≤ y) (y1 : y < 90000) (d0 : 1 ≤ d) (d1 : d ≤ 40) (h0 : 0 ≤ h) (h1 : h < 24) (i0 : 0 ≤ mi) (i1 : mi < 60) (s0 : 0 ≤ s) (s1 : s < 60) : Calls Try.prog 90 #[.int .i64 y, .int .i64 13, .int .i64 d, .int .i64 h, .int .i64 mi, .int .i64 s, .int .i64 0, .pointer (some ⟨q, 0, none⟩)] w fun e w' => e = .returned (tmV 0 (DS (y + 1) 1 d h mi s)) ∧ Below w.heap.size w w' := by
  have HQ := Lib.hid hq
  have hA : ((A0 : Nat) : Int) = 106751991073400 := by decide +kernel
  have hy := ys_b (y + 1) (by omega) (by omega)
  have hm := cm_b (y + 1) 1 (by omega) (by omega)
  obtain ⟨N, hN⟩ : ∃ N, YS (y + 1) + CM (y + 1) 1 + (A0 : Nat) + d - 1 = N := ⟨_, rfl⟩
  have n0 : 106751990354238 ≤ N := by omega
  have n1 : N ≤ 106752031074000 := by omega
  have HN := Lib.hid hN
  have HD := Lib.hid (show DS (y + 1) 1 d h mi s = (N - 106751990354238) * 86400 + h * 3600 + mi * 60 + s by unfold DS; omega)
  obtain ⟨U, hU⟩ : ∃ U, wrap64 (wrap64 (wrap64 (N * 86400) + (h * 3600 + mi * 60 + s)) + -9223372028741760000) = U := ⟨_, rfl⟩
  have hU' : U + 62135596800 = DS (y + 1) 1 d h mi s := by
    rw [← hU, HD.out]
    simp only [wrap64]
    omega
  have HE := Lib.hid hU'
  have u0 : -4611686018427387904 ≤ U := by rw [HD.out] at hU'; omega
  have u1 : U ≤ 4611686018427387904 := by rw [HD.out] at hU'; omega
  have HU := Lib.hid hU
  clear hq hA hN hy hm hU hU'
  go_enter Try.func90, Try.ntmps90
  go_wp2_with (first
    | (go_at_call 104; with_reducible refine (norm_id _ _ _ _ (by omega) (by omega)).mono ?_; rintro e w1 ⟨rfl, rfl⟩)
    | (go_at_call 104; with_reducible refine (norm_12 y _ (by omega) (by omega)).mono ?_; rintro e w1 ⟨rfl, rfl⟩)
    | (go_at_call 105; with_reducible refine (absDays_any (y + 1) 1 d _ (by omega) (by omega) (by omega) (by omega) d0 d1).mono ?_; rintro e w1 ⟨rfl, rfl⟩; rw [HN.out])
    | (go_at_call 106; with_reducible refine (lookup_any q _ _ (heap_old HQ.out)).mono ?_; rintro e w1 ⟨rfl, rfl⟩)
    | (go_at_call 58; rw [HU.out]; refine (unixTime_any U 0 _ (by omega) (by omega) u0 u1).mono ?_; rintro e w1 ⟨rfl, hb⟩; have HB := Lib.hid hb; obtain ⟨r0, r1, r2, f0, f1, f2⟩ := res3 (heap_old (o' := .cells #[.int .u64 0, .int .i64 (U + 62135596800), .pointer none] 66) (blk_on hb (heap_new0 w _ (.cells #[.int .u64 0, .int .i64 0, .pointer none] 66) rfl))); obtain ⟨k0, k1, k2, -⟩ := res3 (heap_new0 w1 _ (.cells #[.int .u64 0, .int .i64 (U + 62135596800), .pointer none] 66) rfl); have hs := hb.size; have hne : w.heap.size ≠ w1.heap.size := (by simp at hs; omega); clear hb hs)
    | (go_at_call 59; refine (setLoc_any w1.heap.size q 0 (U + 62135596800) _ (heap_new0 _ _ _ rfl) ((blk_cell (heap_old (blk_on HB.out (heap_old HQ.out))) 0).trans rfl) (by omega) (by omega)).mono ?_; rintro e w2 ⟨rfl, rfl⟩))
  refine bodyPost_ret (v := tmV 0 (DS (y + 1) 1 d h mi s)) ?_ rfl ⟨rfl, ?_⟩
  · rw [← HE.out]
    obtain ⟨j0, j1, j2⟩ := put3_get (n := .int .u64 0) (x := .int .i64 (U + 62135596800)) (e := .pointer none) r0 r1 r2
    simp [results, Try.results90, go_sem, j0, j1, j2]
  · refine bl_set (bl_set (bl_set (bl_alloc (bl_on (bl_alloc (Below.refl _ _) _) HB.out) _) (Nat.le_refl _) _) (Nat.le_refl _) _) (Nat.le_refl _) _
end Go.Proofs.Ytdgglkihiibmhaa
