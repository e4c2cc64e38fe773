/-
  The package time on the clocks of UTC: dates added, times cut to minutes.
-/
import Derived.Test.YtdgglkihiibmhaaGw
import Derived.Test.YtdgglkihiibmhaaWLast
set_option linter.unusedVariables false
set_option linter.unusedSimpArgs false
namespace Go.Proofs.Ytdgglkihiibmhaa
open Go Go.RowKit Cal Go.Proofs.YtdgglkihiibmhaaW.PrintLast

theorem nsec_cell (p : Nat) (n : Int) (w : World) (k0 : w.cell? ⟨p, 0, none⟩ = some (.int .u64 n)) (h0 : 0 ≤ n) (h1 : n < 1073741824) : Calls Try.prog 61 #[.pointer (some ⟨p, 0, none⟩)] w fun e w' => e = .returned (.int .i32 n) ∧ w = w' := by
  have e1 := and_mask n h0 h1
  have e2 := i32_id n h0 h1
  go_enter Try.func61, Try.ntmps61
  go_wp2
  go_ret
  exact ⟨rfl, rfl⟩
abbrev A3 (w : World) (n x : Int) (W : World) : Prop := W.cell? ⟨w.heap.size, 0, none⟩ = some (.int .u64 n) ∧ W.cell? ⟨w.heap.size, 1, none⟩ = some (.int .i64 x) ∧ W.cell? ⟨w.heap.size, 2, none⟩ = some (.pointer none) ∧ R3 (w.heap.size + 1) W ∧ Hid (Below w.heap.size w W)
theorem a3_on {w : World} {n x : Int} {W W' : World} (hb : Below W.heap.size W W') (h : A3 w n x W) : A3 w n x W' := by
  obtain ⟨h0, h1, h2, h3, hh⟩ := h
  exact ⟨cell_on hb h0, cell_on hb h1, cell_on hb h2, r3_on hb h3, Lib.hid (bl_on hh.out hb)⟩
theorem a3_set {w : World} {n x m y : Int} {W : World} (h : A3 w n x W) : A3 w n x (put3 W (w.heap.size + 1) m y) := by
  obtain ⟨h0, h1, h2, h3, hh⟩ := h
  exact ⟨cell_room3 (by simp) h0, cell_room3 (by simp) h1, cell_room3 (by simp) h2, r3_set h3, Lib.hid (bl_set (bl_set (bl_set hh.out (Nat.le_add_right _ 1) _) (Nat.le_add_right _ 1) _) (Nat.le_add_right _ 1) _)⟩
theorem a3_start (w : World) (n x : Int) : A3 w n x ((w.alloc (.cells #[.int .u64 n, .int .i64 x, .pointer none] 66)).alloc (.cells #[.int .u64 0, .int .i64 0, .pointer none] 66)) := by
  obtain ⟨k0, k1, k2, -⟩ := res3 (w := (w.alloc (.cells #[.int .u64 n, .int .i64 x, .pointer none] 66)).alloc (.cells #[.int .u64 0, .int .i64 0, .pointer none] 66)) (g := w.heap.size) (heap_old (heap_new0 _ _ _ (by simp)))
  obtain ⟨k3, k4, k5, f3, f4, f5⟩ := res3 (w := (w.alloc (.cells #[.int .u64 n, .int .i64 x, .pointer none] 66)).alloc (.cells #[.int .u64 0, .int .i64 0, .pointer none] 66)) (g := w.heap.size + 1) (heap_new0 _ _ _ (by simp))
  exact ⟨k0, k1, k2, ⟨i0_of k3, i0_of k4, k5, f3, f4, f5⟩, Lib.hid (by repeat (first | exact Below.refl _ _ | apply bl_alloc))⟩
theorem w64_id (n : Int) (h0 : -1000000000000 ≤ n) (h1 : n ≤ 1000000000000) : wrap64 n = n := by
  simp only [wrap64]
  omega
theorem date_b (x : Int) (x0 : 0 ≤ x) (x1 : x ≤ 1000000000000) : 1 ≤ Yx x ∧ Yx x < 40000 ∧ 1 ≤ Mx x ∧ Mx x ≤ 12 ∧ 1 ≤ Dx x ∧ Dx x ≤ 31 := by
  have hd := x_date x (by omega)
  have h1 := date_in_year hd
  have h2 := hd.dm
  have h3 := lp_01 (Yx x)
  have h4 : MD (Yx x) (Mx x) ≤ 31 := (by
    unfold MD
    (repeat' split) <;> omega)
  refine ⟨?_, ?_, hd.m1, hd.m12, hd.d1, by omega⟩
  · have h := h1.2
    unfold YS at h
    omega
  · have h := h1.1
    unfold YS at h
    omega
set_option maxHeartbeats 4000000 in
set_option maxRecDepth 1000000 in
theorem AddDate_any (x a b y m d R : Int) (w : World) (hy : Yx x = y) (hm : Mx x = m) (hd : Dx x = d) (y0 : 1 ≤ y) (y1 : y < 90000) (m0 : 1 ≤ m) (m1 : m ≤ 12) (d0 : 1 ≤ d) (d1 : d ≤ 31) (a0 : 0 ≤ a) (a1 : a ≤ 1) (b0 : 0 ≤ b) (b1 : b ≤ 1) (x0 : 0 ≤ x) (x1 : x ≤ 1000000000000)
    (hD : ∀ (q : Nat) (w : World), w.heap[q]? = some utcO → Calls Try.prog 90 #[.int .i64 y, .int .i64 (m + a), .int .i64 (d + b), .int .i64 (x % 86400 / 3600), .int .i64 (x % 3600 / 60), .int .i64 (x % 60), .int .i64 0, .pointer (some ⟨q, 0, none⟩)] w fun e w' => e = .returned (tmV 0 R) ∧ Below w.heap.size w w') :
    Calls Try.prog 91 #[tmV 0 x, .int .i64 0, .int .i64 a, .int .i64 b] w fun e w' => e = .returned (tmV 0 R) ∧ Below w.heap.size w w' := by
  have HS := Lib.hid (a3_start w 0 x)
  have HD := Lib.hid hD
  have HY := Lib.hid (And.intro hy (And.intro hm hd))
  obtain ⟨k0, k1, k2, -⟩ := a3_start w 0 x
  have HV := Lib.hid (And.intro (w64_id y (by omega) (by omega)) (And.intro (w64_id (m + a) (by omega) (by omega)) (And.intro (w64_id (d + b) (by omega) (by omega)) (w64_id 0 (by omega) (by omega)))))
  clear hD hy hm hd
  go_enter Try.func91, Try.ntmps91
  go_wp2_with (first
    | (go_at_call 107; refine (Date_any 0 x _ (by omega) (by omega) x0 x1).mono ?_; rintro e w1 ⟨rfl, hb⟩; rw [HY.out.1, HY.out.2.1, HY.out.2.2]; have HA := Lib.hid (a3_on hb HS.out); obtain ⟨k10, k11, k12, -⟩ := HA.out; clear hb k0 k1 k2)
    | (go_at_call 108; refine (Clock_any 0 x _ (by omega) (by omega) x0 x1).mono ?_; rintro e w2 ⟨rfl, hb⟩; have HB := Lib.hid (a3_on hb HA.out); clear hb k10 k11 k12))
  refine start_ (n := 18) (S := fun w' => A3 w 0 x w') (ds := [17]) #[false, false, false, false, false, false, false, false, false, false, false, false, false, false, false, false, false, false] (by kernel_rfl) rfl rfl (a3_on (bl_drew (Below.refl _ _)) HB.out) (fun hHeld => ?_)
  refine pure_ (i := 0) (N := some 27) (v := ?_) (a' := ?_) #[true, false, false, false, false, false, false, false, false, false, false, false, false, false, false, false, false, false] rfl rfl (by kernel_rfl) (fun _ _ _ h => h) (Or.inl ⟨by rfl, ?_⟩) ?_ ?_
  rotate_left
  · intro w'
    go_simp
    with_reducible rfl
  rotate_left
  · simp only [Act.put, List.setIfInBounds_toArray, List.set_cons_zero, List.set_cons_succ, i64_w, i32_w]
    rfl
  refine pure_ (i := 1) (N := some 28) (v := ?_) (a' := ?_) #[true, true, false, false, false, false, false, false, false, false, false, false, false, false, false, false, false, false] rfl rfl (by kernel_rfl) (fun _ _ _ h => h) (Or.inl ⟨by rfl, ?_⟩) ?_ ?_
  rotate_left
  · intro w'
    go_simp
    with_reducible rfl
  rotate_left
  · simp only [Act.put, List.setIfInBounds_toArray, List.set_cons_zero, List.set_cons_succ, i64_w, i32_w]
    rfl
  refine pure_ (i := 2) (N := some 29) (v := ?_) (a' := ?_) #[true, true, true, false, false, false, false, false, false, false, false, false, false, false, false, false, false, false] rfl rfl (by kernel_rfl) (fun _ _ _ h => h) (Or.inl ⟨by rfl, ?_⟩) ?_ ?_
  rotate_left
  · intro w'
    go_simp
    with_reducible rfl
  rotate_left
  · simp only [Act.put, List.setIfInBounds_toArray, List.set_cons_zero, List.set_cons_succ, i64_w, i32_w]
    rfl
  refine pure_ (i := 3) (N := some 30) (v := ?_) (a' := ?_) #[true, true, true, true, false, false, false, false, false, false, false, false, false, false, false, false, false, false] rfl rfl (by kernel_rfl) (fun _ _ _ h => h) (Or.inl ⟨by rfl, ?_⟩) ?_ ?_
  rotate_left
  · intro w'
    go_simp
    with_reducible rfl
  rotate_left
  · simp only [Act.put, List.setIfInBounds_toArray, List.set_cons_zero, List.set_cons_succ, i64_w, i32_w]
    rfl
  refine pure_ (i := 4) (N := some 31) (v := ?_) (a' := ?_) #[true, true, true, true, true, false, false, false, false, false, false, false, false, false, false, false, false, false] rfl rfl (by kernel_rfl) (fun _ _ _ h => h) (Or.inl ⟨by rfl, ?_⟩) ?_ ?_
  rotate_left
  · intro w'
    go_simp
    with_reducible rfl
  rotate_left
  · simp only [Act.put, List.setIfInBounds_toArray, List.set_cons_zero, List.set_cons_succ, i64_w, i32_w]
    rfl
  refine pure_ (i := 5) (N := some 32) (v := ?_) (a' := ?_) #[true, true, true, true, true, true, false, false, false, false, false, false, false, false, false, false, false, false] rfl rfl (by kernel_rfl) (fun _ _ _ h => h) (Or.inl ⟨by rfl, ?_⟩) ?_ ?_
  rotate_left
  · intro w'
    go_simp
    with_reducible rfl
  rotate_left
  · simp only [Act.put, List.setIfInBounds_toArray, List.set_cons_zero, List.set_cons_succ, i64_w, i32_w]
    rfl
  refine pure_ (i := 6) (N := some 33) (v := ?_) (a' := ?_) #[true, true, true, true, true, true, true, false, false, false, false, false, false, false, false, false, false, false] rfl rfl (by kernel_rfl) (fun _ _ _ h => h) (Or.inl ⟨by rfl, ?_⟩) ?_ ?_
  rotate_left
  · intro w'
    go_simp
    with_reducible rfl
  rotate_left
  · simp only [Act.put, List.setIfInBounds_toArray, List.set_cons_zero, List.set_cons_succ, i64_w, i32_w]
    rfl
  refine pure_ (i := 7) (N := some 34) (v := ?_) (a' := ?_) #[true, true, true, true, true, true, true, true, false, false, false, false, false, false, false, false, false, false] rfl rfl (by kernel_rfl) (fun _ _ _ h => h) (Or.inl ⟨by rfl, ?_⟩) ?_ ?_
  rotate_left
  · intro w'
    go_simp
    with_reducible rfl
  rotate_left
  · simp only [Act.put, List.setIfInBounds_toArray, List.set_cons_zero, List.set_cons_succ, i64_w, i32_w]
    rfl
  refine pure_ (i := 8) (N := some 35) (v := ?_) (a' := ?_) #[true, true, true, true, true, true, true, true, true, false, false, false, false, false, false, false, false, false] rfl rfl (by kernel_rfl) (fun _ _ _ h => h) (Or.inl ⟨by rfl, ?_⟩) ?_ ?_
  rotate_left
  · intro w'
    go_simp
    with_reducible rfl
  rotate_left
  · simp only [Act.put, List.setIfInBounds_toArray, List.set_cons_zero, List.set_cons_succ, i64_w, i32_w]
    rfl
  refine pure_ (i := 9) (N := some 36) (v := ?_) (a' := ?_) #[true, true, true, true, true, true, true, true, true, true, false, false, false, false, false, false, false, false] rfl rfl (by kernel_rfl) (fun _ _ _ h => h) (Or.inl ⟨by rfl, ?_⟩) ?_ ?_
  rotate_left
  · intro w'
    go_simp
    with_reducible rfl
  rotate_left
  · simp only [Act.put, List.setIfInBounds_toArray, List.set_cons_zero, List.set_cons_succ, i64_w, i32_w]
    rfl
  refine pure_ (i := 10) (N := some 37) (v := ?_) (a' := ?_) #[true, true, true, true, true, true, true, true, true, true, true, false, false, false, false, false, false, false] rfl rfl (by kernel_rfl) (fun _ _ _ h => h) (Or.inl ⟨by rfl, ?_⟩) ?_ ?_
  rotate_left
  · intro w'
    go_simp
    with_reducible rfl
  rotate_left
  · simp only [Act.put, List.setIfInBounds_toArray, List.set_cons_zero, List.set_cons_succ, i64_w, i32_w]
    rfl
  refine pure_ (i := 11) (N := some 38) (v := ?_) (a' := ?_) #[true, true, true, true, true, true, true, true, true, true, true, true, false, false, false, false, false, false] rfl rfl (by kernel_rfl) (fun _ _ _ h => h) (Or.inl ⟨by rfl, ?_⟩) ?_ ?_
  rotate_left
  · intro w'
    go_simp
    with_reducible rfl
  rotate_left
  · simp only [Act.put, List.setIfInBounds_toArray, List.set_cons_zero, List.set_cons_succ, i64_w, i32_w]
    rfl
  refine take_ (i := 14) (N := some 41) (v := ?_) (a' := ?_) #[true, true, true, true, true, true, true, true, true, true, true, true, false, false, true, false, false, false] rfl rfl (by kernel_rfl) (fun _ _ _ h => h) (Or.inl ⟨by rfl, ?_⟩) hHeld ?_ ?_
  rotate_left
  · rintro w' ⟨s0, s1, s2, s3, s4⟩
    go_simp
    with_reducible rfl
  rotate_left
  · simp only [Act.put, List.setIfInBounds_toArray, List.set_cons_zero, List.set_cons_succ, i64_w, i32_w]
    rfl
  refine one_ (i := 12) (N := some 39) #[true, true, true, true, true, true, true, true, true, true, true, true, true, false, true, false, false, false] rfl rfl (by kernel_rfl) (by decide) (fun K hK => ?_)
  refine goes_ Try.func61 (by kernel_rfl) rfl #[.pointer (some ⟨w.heap.size, 0, none⟩)] (by rfl) rfl rfl (by simp only [List.map_toArray, List.map_cons, List.map_nil]; rfl) ?_
  with_reducible refine (nsec_cell w.heap.size 0 _ hHeld.1 (by omega) (by omega)).mono ?_
  rintro e w3 ⟨rfl, rfl⟩
  refine ⟨_, rfl, ?_⟩
  refine hK.out _ _ (hHeld) (fun hHeld => ?_)
  clear hK K
  refine norm_ (a' := ?_) ?_ ?_
  rotate_left
  · show Act.put _ (some 39) _ = _
    simp only [Act.put, List.setIfInBounds_toArray, List.set_cons_zero, List.set_cons_succ, i64_w, i32_w]
    rfl
  refine pure_ (i := 13) (N := some 40) (v := ?_) (a' := ?_) #[true, true, true, true, true, true, true, true, true, true, true, true, true, true, true, false, false, false] rfl rfl (by kernel_rfl) (fun _ _ _ h => h) (Or.inl ⟨by rfl, ?_⟩) ?_ ?_
  rotate_left
  · intro w'
    go_simp
    with_reducible rfl
  rotate_left
  · simp only [Act.put, List.setIfInBounds_toArray, List.set_cons_zero, List.set_cons_succ, i64_w, i32_w]
    rfl
  refine one_ (i := 15) (N := some 42) #[true, true, true, true, true, true, true, true, true, true, true, true, true, true, true, true, false, false] rfl rfl (by kernel_rfl) (by decide) (fun K hK => ?_)
  refine goes_ Try.func87 (by kernel_rfl) rfl #[tmV 0 x] (by rfl) rfl rfl (by simp only [List.map_toArray, List.map_cons, List.map_nil]; rfl) ?_
  with_reducible refine (Location_any 0 x _).mono ?_
  rintro e w3 ⟨q, rfl, hq, hb⟩
  refine ⟨_, rfl, ?_⟩
  refine hK.out _ _ (a3_on hb hHeld) (fun hHeld => ?_)
  clear hK K
  refine norm_ (a' := ?_) ?_ ?_
  rotate_left
  · show Act.put _ (some 42) _ = _
    simp only [Act.put, List.setIfInBounds_toArray, List.set_cons_zero, List.set_cons_succ, i64_w, i32_w]
    rfl
  refine one_ (i := 16) (N := some 43) #[true, true, true, true, true, true, true, true, true, true, true, true, true, true, true, true, true, false] rfl rfl (by kernel_rfl) (by decide) (fun K hK => ?_)
  refine goes_ Try.func90 (by kernel_rfl) rfl #[.int .i64 (wrap64 y), .int .i64 (wrap64 (m + a)), .int .i64 (wrap64 (d + b)), .int .i64 (x % 86400 / 3600), .int .i64 (x % 3600 / 60), .int .i64 (x % 60), .int .i64 (wrap64 0), .pointer (some ⟨q, 0, none⟩)] (by rfl) rfl rfl (by simp only [List.map_toArray, List.map_cons, List.map_nil]; rfl) ?_
  rw [HV.out.1, HV.out.2.1, HV.out.2.2.1, HV.out.2.2.2]
  with_reducible refine (HD.out q _ hq).mono ?_
  rintro e w4 ⟨rfl, hb4⟩
  refine ⟨_, rfl, ?_⟩
  refine hK.out _ _ (a3_on hb4 hHeld) (fun hHeld => ?_)
  clear hK K
  refine norm_ (a' := ?_) ?_ ?_
  rotate_left
  · show Act.put _ (some 43) _ = _
    simp only [Act.put, List.setIfInBounds_toArray, List.set_cons_zero, List.set_cons_succ, i64_w, i32_w]
    rfl
  refine last_ (i := 17) (N := none) #[true, true, true, true, true, true, true, true, true, true, true, true, true, true, true, true, true, true] rfl rfl (by kernel_rfl) (by decide) (fun K hK => ?_)
  have HL := hHeld
  obtain ⟨-, -, -, ⟨z0, z1, z2, f0, f1, f2⟩, -⟩ := HL
  refine skip_ (w1 := ?_) (by rfl) rfl ?_ ?_
  rotate_left
  · go_simp
    rfl
  refine hK.out _ _ ?_
  clear hK K
  refine done_ (by kernel_rfl) ?_
  obtain ⟨j0, j1, j2⟩ := r3_get (n := 0) (x := R) hHeld.2.2.2.1
  have HE := Lib.hid (a3_set (m := 0) (y := R) hHeld).2.2.2.2.out
  clear hb4 hHeld
  go_wp2_with fail
  refine bodyPost_ret (v := tmV 0 R) (by simp [results, Try.results91, go_sem, j0, j1, j2]) rfl ⟨rfl, HE.out⟩
theorem AddMonth_any (x : Int) (w : World) (x0 : 0 ≤ x) (x1 : x ≤ 1000000000000) (hd : Dx x = 1) : Calls Try.prog 91 #[tmV 0 x, .int .i64 0, .int .i64 1, .int .i64 0] w fun e w' => e = .returned (tmV 0 (if Mx x = 12 then DS (Yx x + 1) 1 1 (x % 86400 / 3600) (x % 3600 / 60) (x % 60) else DS (Yx x) (Mx x + 1) 1 (x % 86400 / 3600) (x % 3600 / 60) (x % 60))) ∧ Below w.heap.size w w' := by
  obtain ⟨y0, y1, m0, m1, d0, d1⟩ := date_b x x0 x1
  refine AddDate_any x 1 0 _ _ _ _ w rfl rfl hd y0 (by omega) m0 m1 (by omega) (by omega) (by omega) (by omega) (by omega) (by omega) x0 x1 ?_
  intro q w hq
  by_cases h : Mx x = 12
  · rw [if_pos h, h]
    exact DateB_any q (Yx x) 1 _ _ _ w hq y0 (by omega) (by omega) (by omega) (by omega) (by omega) (by omega) (by omega) (by omega) (by omega)
  · rw [if_neg h]
    exact DateA_any q (Yx x) (Mx x + 1) 1 _ _ _ w hq y0 (by omega) (by omega) (by omega) (by omega) (by omega) (by omega) (by omega) (by omega) (by omega) (by omega) (by omega)
theorem AddDay_any (x : Int) (w : World) (x0 : 0 ≤ x) (x1 : x ≤ 1000000000000) : Calls Try.prog 91 #[tmV 0 x, .int .i64 0, .int .i64 0, .int .i64 1] w fun e w' => e = .returned (tmV 0 (x + 86400)) ∧ Below w.heap.size w w' := by
  obtain ⟨y0, y1, m0, m1, d0, d1⟩ := date_b x x0 x1
  have hx := x_date x (by omega)
  have he : DS (Yx x) (Mx x) (Dx x + 1) (x % 86400 / 3600) (x % 3600 / 60) (x % 60) = x + 86400 := by
    have h1 := hx.eq
    unfold DS
    omega
  refine AddDate_any x 0 1 _ _ _ _ w rfl rfl rfl y0 (by omega) m0 m1 d0 d1 (by omega) (by omega) (by omega) (by omega) x0 x1 ?_
  intro q w hq
  rw [← he]
  have := DateA_any q (Yx x) (Mx x) (Dx x + 1) (x % 86400 / 3600) (x % 3600 / 60) (x % 60) w hq y0 (by omega) (by omega) (by omega) (by omega) (by omega) (by omega) (by omega) (by omega) (by omega) (by omega) (by omega)
  rw [Int.add_zero]
  exact this
set_option maxRecDepth 1000000 in
theorem div_60 (x : Int) (w : World) (x0 : 0 ≤ x) (x1 : x ≤ 1000000000000) : Calls Try.prog 110 #[tmV 0 x, .int .i64 60000000000] w fun e w' => (∃ v, e = .returned (.tuple #[v, .int .i64 (x % 60 * 1000000000)])) ∧ Below w.heap.size w w' := by
  have h66 := heap_new0 w _ (.cells #[.int .u64 0, .int .i64 x, .pointer none] 66) rfl
  obtain ⟨k0, k1, k2, -⟩ := res3 h66
  have HW := Lib.hid h66
  clear h66
  go_enter Try.func110, Try.ntmps110
  go_wp2_with (first
    | (go_at_call 61; refine (nsec_any w.heap.size 0 x _ HW.out (by omega) (by omega)).mono ?_; rintro e w2 ⟨rfl, rfl⟩)
    | (go_at_call 67; refine (sec_any w.heap.size 0 x _ HW.out (by omega) (by omega)).mono ?_; rintro e w2 ⟨rfl, rfl⟩))
  refine bodyPost_ret (v := .tuple #[.int .i64 (bits .and .i64 (x / 60) 1), .int .i64 (x % 60 * 1000000000)]) ?_ rfl ⟨⟨_, rfl⟩, bl_alloc (Below.refl _ _) _⟩
  simp [results, Try.results110, go_sem]
set_option maxRecDepth 1000000 in
theorem div_1 (x : Int) (w : World) (x0 : 0 ≤ x) (x1 : x ≤ 1000000000000) : Calls Try.prog 110 #[tmV 0 x, .int .i64 1000000000] w fun e w' => (∃ v, e = .returned (.tuple #[v, .int .i64 0])) ∧ Below w.heap.size w w' := by
  have h66 := heap_new0 w _ (.cells #[.int .u64 0, .int .i64 x, .pointer none] 66) rfl
  obtain ⟨k0, k1, k2, -⟩ := res3 h66
  have HW := Lib.hid h66
  have e1 : x % 1 = 0 := by omega
  clear h66
  go_enter Try.func110, Try.ntmps110
  go_wp2_with (first
    | (go_at_call 61; refine (nsec_any w.heap.size 0 x _ HW.out (by omega) (by omega)).mono ?_; rintro e w2 ⟨rfl, rfl⟩)
    | (go_at_call 67; refine (sec_any w.heap.size 0 x _ HW.out (by omega) (by omega)).mono ?_; rintro e w2 ⟨rfl, rfl⟩))
  refine bodyPost_ret (v := .tuple #[.int .i64 (bits .and .i64 x 1), .int .i64 0]) ?_ rfl ⟨⟨_, rfl⟩, bl_alloc (Below.refl _ _) _⟩
  simp [results, Try.results110, go_sem]
theorem Truncate_any (x d s : Int) (w : World) (x0 : 0 ≤ x) (x1 : x ≤ 1000000000000) (d0 : 0 < d) (s0 : 0 ≤ s) (s1 : s < 60) (hD : ∀ w, Calls Try.prog 110 #[tmV 0 x, .int .i64 d] w fun e w' => (∃ v, e = .returned (.tuple #[v, .int .i64 (s * 1000000000)])) ∧ Below w.heap.size w w') : Calls Try.prog 95 #[tmV 0 x, .int .i64 d] w fun e w' => e = .returned (tmV 0 (x - s)) ∧ Below w.heap.size w w' := by
  have HS := Lib.hid (a3_start w 0 x)
  have HT := Lib.hid (show IsT ((w.alloc (.cells #[.int .u64 0, .int .i64 x, .pointer none] 66)).alloc (.cells #[.int .u64 0, .int .i64 0, .pointer none] 66)) w.heap.size 0 x from heap_old (heap_new0 w _ _ rfl))
  obtain ⟨k0, k1, k2, -⟩ := a3_start w 0 x
  have HD := Lib.hid hD
  have t1 : decide (d ≤ 0) = false := decide_eq_false (by omega)
  clear hD
  go_enter Try.func95, Try.ntmps95
  go_wp2_with (first
    | (go_at_call 63; refine (strip_any w.heap.size 0 x _ HT.out (by omega) (by omega)).mono ?_; rintro e w2 ⟨rfl, rfl⟩)
    | (go_at_call 110; refine (HD.out _).mono ?_; rintro e w3 ⟨⟨v, rfl⟩, hb3⟩; have H3 := Lib.hid (a3_on hb3 HS.out); obtain ⟨k30, k31, k32, -⟩ := H3.out; clear hb3 k0 k1 k2)
    | (go_at_call 49; refine (Add_whole _ (-s) x _ (by omega) (by omega) (by omega) (by omega) (by omega)).mono ?_; rintro e w4 ⟨rfl, hb4⟩; have H4 := Lib.hid (a3_on hb4 H3.out); obtain ⟨-, -, -, ⟨z0, z1, z2, f0, f1, f2⟩, -⟩ := H4.out; clear hb4 k30 k31 k32))
  obtain ⟨j0, j1, j2⟩ := r3_get (n := 0) (x := x + -s) H4.out.2.2.2.1
  have HE := Lib.hid (a3_set (m := 0) (y := x + -s) H4.out).2.2.2.2.out
  refine bodyPost_ret (v := tmV 0 (x - s)) (by simp [results, Try.results95, go_sem, j0, j1, j2]; omega) rfl ⟨rfl, HE.out⟩
theorem TruncMin_any (x : Int) (w : World) (x0 : 0 ≤ x) (x1 : x ≤ 1000000000000) : Calls Try.prog 95 #[tmV 0 x, .int .i64 60000000000] w fun e w' => e = .returned (tmV 0 (x - x % 60)) ∧ Below w.heap.size w w' := Truncate_any x _ (x % 60) w x0 x1 (by omega) (by omega) (by omega) (fun w => div_60 x w x0 x1)
theorem TruncSec_any (x : Int) (w : World) (x0 : 0 ≤ x) (x1 : x ≤ 1000000000000) : Calls Try.prog 95 #[tmV 0 x, .int .i64 1000000000] w fun e w' => e = .returned (tmV 0 x) ∧ Below w.heap.size w w' := by
  have h := Truncate_any x 1000000000 0 w x0 x1 (by omega) (by omega) (by omega) (fun w => by rw [Int.zero_mul]; exact div_1 x w x0 x1)
  rw [Int.sub_zero] at h
  exact h
end Go.Proofs.Ytdgglkihiibmhaa
