/-
  The small functions of impl, laws and spec.
-/
import Derived.Test.YtdgglkihiibmhaaTime5
set_option linter.unusedVariables false
set_option linter.unusedSimpArgs false
namespace Go.Proofs.Ytdgglkihiibmhaa
open Go Go.RowKit

/-- a constant delay as a schedule -/
abbrev scV (d : Int) : Value := .agg #[.bool true, .int .i64 d, .int .u64 0, .int .u64 0, .int .u64 0, .int .u64 0, .int .u64 0, .int .u64 0]
/-- no zone told -/
abbrev znV : Value := .agg #[.slice none 0 0, .slice none 0 0, .slice none 0 0, .slice none 0 0]
theorem answer_any (n x y : Int) (w : World) (hy : y = x + -62135596800) (hx : x ≠ 0) (h0 : 0 ≤ n) (h1 : n < 1073741824) (x0 : -4611686018427387904 ≤ x) (x1 : x ≤ 4611686018427387904) : Calls Try.prog 25 #[tmV n x] w fun e w' => e = .returned (.tuple #[inV y n, .bool true]) ∧ Below w.heap.size w w' := by
  have HB := Lib.hid (b3_start w n x)
  have HE := Lib.hid hy
  clear hy
  go_enter Try.func25, Try.ntmps25
  go_wp2_with (first
    | (go_at_call 43; refine (IsZero_any n x _ hx).mono ?_; rintro e w1 ⟨rfl, hb1⟩; have HZ := Lib.hid (b3_on hb1 HB.out); obtain ⟨k0, k1, k2, ⟨r0, r1, f0, f1⟩, -⟩ := HZ.out; clear hb1)
    | (go_at_call 29; refine (plain_at n x y _ HE.out h0 h1 x0 x1).mono ?_; rintro e w2 ⟨rfl, hb2⟩; have HY := Lib.hid (b3_on hb2 HZ.out); obtain ⟨j0, j1, j2, ⟨s0, s1, g0, g1⟩, -⟩ := HY.out; clear hb2))
  obtain ⟨q0, q1⟩ := r2_get (s := y) (n := n) HY.out.2.2.2.1
  have HB3 := Lib.hid (b3_set (s := y) (m := n) HY.out).2.2.2.2.out
  refine bodyPost_ret (v := .tuple #[inV y n, .bool true]) (by simp [results, Try.results25, go_sem, q0, q1]) rfl ⟨rfl, HB3.out⟩
theorem cronUTC_any (w : World) : Calls Try.prog 11 #[] w fun e w' => e = .returned znV ∧ Below w.heap.size w w' := by
  go_enter Try.func11, Try.ntmps11
  go_wp2
  refine bodyPost_ret (v := znV) (by simp [results, Try.results11, go_sem]) rfl ⟨rfl, ?_⟩
  repeat (first | exact Below.refl _ _ | apply bl_alloc)
theorem location_any (w : World) : Calls Try.prog 28 #[znV] w fun e w' => ∃ q, e = .returned (.pointer (some ⟨q, 0, none⟩)) ∧ w'.cell? ⟨q, 0, none⟩ = some (.bool true) ∧ Below w.heap.size w w' := by
  go_enter Try.func28, Try.ntmps28
  go_wp2_with (go_at_call 31; refine (utc_any _).mono ?_; rintro e w1 ⟨q, rfl, hq, -, hb⟩)
  go_ret
  exact ⟨q, rfl, hq, bl_on (bl_alloc (Below.refl _ _) _) hb⟩
theorem schedule_any (d : Int) (w : World) : Calls Try.prog 26 #[scV d, .pointer none] w fun e w' => e = .returned (.iface 61 (.agg #[.int .i64 d])) ∧ Below w.heap.size w w' := by
  go_enter Try.func26, Try.ntmps26
  go_wp2
  go_ret
  exact ⟨rfl, by repeat (first | exact Below.refl _ _ | apply bl_alloc)⟩
theorem cronEvery_any1 (d t : Int) (w : World) (h : 1000000000 ≤ d) (h0 : d ≤ 9223372036854775807) (ht : d.tmod 1000000000 = t) (t0 : 0 ≤ t) (t1 : t < 1000000000) : Calls Try.prog 24 #[.int .i64 d] w fun e w' => e = .returned (.agg #[.int .i64 (d - t)]) ∧ Below w.heap.size w w' := by
  have tt : decide (d < 1000000000) = false := decide_eq_false (by omega)
  have ht' : d % 1000000000 = t := by rw [← ht, Int.tmod_eq_emod_of_nonneg (by omega)]
  go_enter Try.func24, Try.ntmps24
  go_wp2
  refine bodyPost_ret (v := .agg #[.int .i64 (d - t)]) (by simp [results, Try.results24, go_sem]) rfl ⟨rfl, ?_⟩
  repeat (first | exact Below.refl _ _ | apply bl_alloc)
set_option maxRecDepth 100000 in
theorem every_any0 (d : Int) (w : World) (h : d < 1000000000) (h0 : -9223372036854775808 ≤ d) : Calls Try.prog 9 #[.int .i64 d] w fun e w' => e = .returned (scV 1000000000) ∧ Below w.heap.size w w' := by
  have t : decide (d < 1000000000) = true := decide_eq_true h
  have hf : ∀ w : World, (Instr.field 61 (.agg #[.int .i64 1000000000]) 0).run Try.prog w = .ok (.int .i64 1000000000) w := fun _ => by kernel_rfl
  go_enter Try.func9, Try.ntmps9
  go_wp2
  refine bodyPost_ret (v := .agg #[.int .i64 1000000000]) (by simp [results, Try.results24, go_sem]) rfl ?_
  go_wp2
  refine bodyPost_ret (v := scV 1000000000) (by simp [results, Try.results9, go_sem]) rfl ⟨rfl, ?_⟩
  repeat (first | exact Below.refl _ _ | apply bl_alloc)
set_option maxRecDepth 100000 in
theorem every_any1 (d t : Int) (w : World) (h : 1000000000 ≤ d) (h0 : d ≤ 9223372036854775807) (ht : d.tmod 1000000000 = t) (t0 : 0 ≤ t) (t1 : t < 1000000000) : Calls Try.prog 9 #[.int .i64 d] w fun e w' => e = .returned (scV (d - t)) ∧ Below w.heap.size w w' := by
  have tt : decide (d < 1000000000) = false := decide_eq_false (by omega)
  have ht' : d % 1000000000 = t := by rw [← ht, Int.tmod_eq_emod_of_nonneg (by omega)]
  have hf : ∀ w : World, (Instr.field 61 (.agg #[.int .i64 (d - t)]) 0).run Try.prog w = .ok (.int .i64 (d - t)) w := fun _ => by kernel_rfl
  go_enter Try.func9, Try.ntmps9
  go_wp2
  refine bodyPost_ret (v := .agg #[.int .i64 (d - t)]) (by simp [results, Try.results24, go_sem]) rfl ?_
  go_wp2
  refine bodyPost_ret (v := scV (d - t)) (by simp [results, Try.results9, go_sem]) rfl ⟨rfl, ?_⟩
  repeat (first | exact Below.refl _ _ | apply bl_alloc)
theorem specNext_any (d q s n : Int) (w : World) (hd : d = 1000000000 * q) (q0 : 1 ≤ q) (q1 : q ≤ 9223372036) (x0 : -4611686018427387904 ≤ s) (x1 : s ≤ 4611686018427387904) : Calls Try.prog 12 #[.int .i64 d, inV s n] w fun e w' => e = .returned (inV (s + q) 0) ∧ Below w.heap.size w w' := by
  have e1 : d.tdiv 1000000000 = q := by rw [hd]; exact quo_0 q (by omega)
  have e1' : d / 1000000000 = q := by omega
  have d0 : 0 ≤ d := by omega
  have d1 : d ≤ 9223372036854775807 := by omega
  clear hd
  go_enter Try.func12, Try.ntmps12
  go_wp2
  refine bodyPost_ret (v := inV (s + q) 0) (by simp [results, Try.results12, go_sem]) rfl ⟨rfl, ?_⟩
  repeat (first | exact Below.refl _ _ | apply bl_alloc)
abbrev D2 (w : World) (s n : Int) (W : World) : Prop := W.cell? ⟨w.heap.size, 0, none⟩ = some (.int .i64 s) ∧ W.cell? ⟨w.heap.size, 1, none⟩ = some (.int .i64 n) ∧ R2 (w.heap.size + 1) W ∧ Hid (Below w.heap.size w W)
theorem d2_on {w : World} {n x : Int} {W W' : World} (hb : Below W.heap.size W W') (h : D2 w n x W) : D2 w n x W' := by
  obtain ⟨h0, h1, h3, hh⟩ := h
  exact ⟨cell_on hb h0, cell_on hb h1, r2_on hb h3, Lib.hid (bl_on hh.out hb)⟩
theorem d2_set {w : World} {n x s m : Int} {W : World} (h : D2 w n x W) : D2 w n x ((W.setCell ⟨w.heap.size + 1, 0, none⟩ (.int .i64 s)).setCell ⟨w.heap.size + 1, 1, none⟩ (.int .i64 m)) := by
  obtain ⟨h0, h1, h3, hh⟩ := h
  exact ⟨cell_room (by simp) h0, cell_room (by simp) h1, r2_set h3, Lib.hid (bl_set (bl_set hh.out (Nat.le_succ _) _) (Nat.le_succ _) _)⟩
theorem d2_start (w : World) (s n : Int) : D2 w s n ((w.alloc (.cells #[.int .i64 s, .int .i64 n] 23)).alloc (.cells #[.int .i64 0, .int .i64 0] 23)) := by
  obtain ⟨k0, k1, -⟩ := res2 (w := (w.alloc (.cells #[.int .i64 s, .int .i64 n] 23)).alloc (.cells #[.int .i64 0, .int .i64 0] 23)) (heap_old (heap_new0 w _ _ rfl))
  obtain ⟨k3, k4, f3, f4⟩ := res2 (w := (w.alloc (.cells #[.int .i64 s, .int .i64 n] 23)).alloc (.cells #[.int .i64 0, .int .i64 0] 23)) (g := w.heap.size + 1) (heap_new0 _ _ _ (by simp))
  exact ⟨k0, k1, ⟨i0_of k3, i0_of k4, f3, f4⟩, Lib.hid (by repeat (first | exact Below.refl _ _ | apply bl_alloc))⟩
set_option maxHeartbeats 4000000 in
theorem implDelay_any (d q s n : Int) (w : World) (hd : d = 1000000000 * q) (q0 : 1 ≤ q) (q1 : q ≤ 9223372036) (h0 : 0 ≤ n) (h1 : n < 1000000000) (x0 : -62135596800 ≤ s) (x1 : s ≤ 253402300799) : Calls Try.prog 14 #[.int .i64 d, inV s n] w fun e w' => e = .returned (inV (s + q) 0) ∧ Below w.heap.size w w' := by
  have HB := Lib.hid (d2_start w s n)
  have HD := Lib.hid hd
  clear hd
  go_enter Try.func14, Try.ntmps14
  go_wp2_with fail
  first | go_region_held3 (fun W => D2 w s n W) (first | assumption | exact d2_on (bl_drew (Below.refl _ _)) HB.out | (refine d2_on (by assumption) ?_; first | assumption | exact d2_on (bl_drew (Below.refl _ _)) HB.out) | (refine d2_set ?_; assumption)) (first
    | (go_at_call 31; refine (utc_any _).mono ?_; rintro e w1 ⟨u, rfl, hq, -, hb1⟩)
    | (go_at_call 27; refine (moment_any s n u _ h0 h1 (by omega) (by omega) hq).mono ?_; rintro e w2 ⟨rfl, hb2⟩)
    | (go_at_call 30; refine (delayNext_any d _ n _ _ HD.out q0 q1 h0 h1 (by omega) (by omega)).mono ?_; rintro e w3 ⟨rfl, hb3⟩)
    | (go_at_call 29; refine (plain_at 0 (s + 62135596800 + q) (s + q) _ (by omega) (by omega) (by omega) (by omega) (by omega)).mono ?_; rintro e w4 ⟨rfl, hb4⟩)) | fail
  all_goals
    have HZ := Lib.hid (d2_on hb4 (d2_on hb3 (d2_on hb2 (d2_on hb1 (d2_on (bl_drew (Below.refl _ _)) HB.out)))))
    obtain ⟨q0, q1⟩ := r2_get (s := s + q) (n := 0) HZ.out.2.2.1
    have HB3 := Lib.hid (d2_set (s := s + q) (m := 0) HZ.out).2.2.2.out
    rename_i hH
    clear hH hb1 hb2 hb3 hb4
    go_wp2_with fail
    refine bodyPost_ret (v := inV (s + q) 0) (by simp [results, Try.results14, go_sem, q0, q1]) rfl ⟨rfl, HB3.out⟩
end Go.Proofs.Ytdgglkihiibmhaa
