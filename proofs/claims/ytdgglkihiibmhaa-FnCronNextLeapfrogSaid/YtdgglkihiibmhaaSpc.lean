/-
  The specification's tomorrow, clocks of UTC.
-/
import Derived.Test.YtdgglkihiibmhaaRoom
import Derived.Test.YtdgglkihiibmhaaTime6
set_option linter.unusedVariables false
set_option linter.unusedSimpArgs false
namespace Go.Proofs.Ytdgglkihiibmhaa
open Go Go.RowKit Cal Go.Proofs.YtdgglkihiibmhaaW.PrintLast

/-- a date's block, a room for a date -/
abbrev T3 (w : World) (y m d : Int) (W : World) : Prop := (W.cell? ⟨w.heap.size, 0, none⟩ = some (.int .i64 y) ∧ W.cell? ⟨w.heap.size, 1, none⟩ = some (.int .i64 m) ∧ W.cell? ⟨w.heap.size, 2, none⟩ = some (.int .i64 d)) ∧ I3 (w.heap.size + 1) W ∧ Hid (Below w.heap.size w W)
theorem t3_on {w : World} {y m d : Int} {W W' : World} (hb : Below W.heap.size W W') (h : T3 w y m d W) : T3 w y m d W' := by
  obtain ⟨⟨a0, a1, a2⟩, h3, hh⟩ := h
  exact ⟨⟨cell_on hb a0, cell_on hb a1, cell_on hb a2⟩, i3_on hb h3, Lib.hid (bl_on hh.out hb)⟩
theorem t3_start (w : World) (y m d : Int) : T3 w y m d ((w.alloc (.cells #[.int .i64 y, .int .i64 m, .int .i64 d] 80)).alloc (.cells #[.int .i64 0, .int .i64 0, .int .i64 0] 80)) := by
  have b0 := heap_old (o' := .cells #[.int .i64 0, .int .i64 0, .int .i64 0] 80) (heap_new0 w _ (.cells #[.int .i64 y, .int .i64 m, .int .i64 d] 80) rfl)
  exact ⟨⟨(blk_cell b0 0).trans rfl, (blk_cell b0 1).trans rfl, (blk_cell b0 2).trans rfl⟩, i3_start (t := 80) (heap_new0 _ _ _ (by simp)), Lib.hid (bl_alloc (bl_alloc (Below.refl _ _) _) _)⟩
set_option maxHeartbeats 2000000 in
theorem tomorrow_any (n y m d : Int) (w : World) (h : IsDate n y m d) (y0 : 0 < y) (y1 : y ≤ 1000000000) : Calls Try.prog 36 #[dV y m d] w fun e w' => (∃ y' m' d', e = .returned (dV y' m' d') ∧ IsDate (n + 1) y' m' d' ∧ 0 < y') ∧ Below w.heap.size w w' := by
  have HI := Lib.hid h
  have HB := Lib.hid (t3_start w y m d)
  have HM1 : Hid (1 ≤ MD y m ∧ MD y m ≤ 31) := Lib.hid (by unfold MD; have := lp_01 y; (repeat' split) <;> omega)
  have hw1 : wrap64 (d + 1) = d + 1 := by have := h.d1; have := h.dm; have := HM1.out; exact wi (by omega) (by omega)
  have hw2 : wrap64 (m + 1) = m + 1 := by have := h.m1; have := h.m12; exact wi (by omega) (by omega)
  have hw3 : wrap64 (y + 1) = y + 1 := wi (by omega) (by omega)
  clear h
  have HC : Hid ((d < MD y m → IsDate (n + 1) y m (d + 1) ∧ 0 < y) ∧ (MD y m ≤ d → m < 12 → IsDate (n + 1) y (m + 1) 1 ∧ 0 < y) ∧ (MD y m ≤ d → 12 ≤ m → IsDate (n + 1) (y + 1) 1 1 ∧ 0 < y + 1)) := Lib.hid (by
    have h := HI.out
    have hn := CM_next y m h.m1 h.m12
    have e := h.eq
    have hdm := h.dm
    have hm1 := h.m1
    have hm12 := h.m12
    have hd1 := h.d1
    refine ⟨fun c => ⟨⟨hm1, hm12, by omega, c, by omega⟩, y0⟩, fun c c2 => ?_, fun c c2 => ?_⟩
    · have hp : 1 ≤ MD y (m + 1) := by unfold MD; have := lp_01 y; (repeat' split) <;> omega
      exact ⟨⟨by omega, by omega, Int.le_refl 1, hp, by omega⟩, y0⟩
    · have em : m = 12 := by omega
      subst em
      have h13 : CM y 13 = 365 + lp y := rfl
      have hy := YS_next y
      have h1 : CM (y + 1) 1 = 0 := rfl
      have hp : MD (y + 1) 1 = 31 := rfl
      rw [show (12 : Int) + 1 = 13 from rfl] at hn
      exact ⟨⟨by decide, by decide, Int.le_refl 1, by omega, by omega⟩, by omega⟩)
  go_enter Try.func36, Try.ntmps36
  go_wp2_with fail
  go_region_held3 (fun W => T3 w y m d W) (first | assumption | exact t3_on (bl_drew (Below.refl _ _)) HB.out) (first
    | (go_at_call 55; with_reducible refine (md_any y m _ y0 (by omega) HI.out.m1 HI.out.m12).mono ?_; rintro e w1 ⟨rfl, rfl⟩))
  rename_i hH
  clear hH
  go_wp2_with fail
  all_goals first
    | (refine bodyPost_ret (v := dV y m (d + 1)) ?_ rfl ⟨⟨_, _, _, rfl, HC.out.1 (by omega)⟩, ?_⟩
       · simp [results, Try.results36, go_sem, hw1]
       · repeat (first | exact Below.refl _ _ | apply bl_drew | apply bl_alloc))
    | (refine bodyPost_ret (v := dV y (m + 1) 1) ?_ rfl ⟨⟨_, _, _, rfl, HC.out.2.1 (by omega) (by omega)⟩, ?_⟩
       · simp [results, Try.results36, go_sem, hw2]
       · repeat (first | exact Below.refl _ _ | apply bl_drew | apply bl_alloc))
    | (refine bodyPost_ret (v := dV (y + 1) 1 1) ?_ rfl ⟨⟨_, _, _, rfl, HC.out.2.2 (by omega) (by omega)⟩, ?_⟩
       · simp [results, Try.results36, go_sem, hw3]
       · repeat (first | exact Below.refl _ _ | apply bl_drew | apply bl_alloc))
theorem offset_any (x : Int) (w : World) : Calls Try.prog 41 #[znV, .int .i64 x] w fun e w' => e = .returned (.int .i64 0) ∧ Below w.heap.size w w' := by
  go_enter Try.func41, Try.ntmps41
  go_wp2
  go_loopg [5, 11] 1 (fun g v5 v11 w' => v5 = .int .i64 0 ∧ v11 = .int .i64 0 ∧ w' = w.alloc (.cells #[.slice none 0 0, .slice none 0 0, .slice none 0 0, .slice none 0 0] 35))
  case atStart => exact ⟨rfl, rfl, rfl⟩
  case round =>
    obtain ⟨rfl, rfl, rfl⟩ := hrel
    go_wp2
    go_ret
    exact ⟨rfl, bl_alloc (Below.refl _ _) _⟩
theorem change_any (x : Int) (w : World) : Calls Try.prog 50 #[znV, .int .i64 x] w fun e w' => e = .returned (.tuple #[.int .i64 0, .bool false]) ∧ Below w.heap.size w w' := by
  go_enter Try.func50, Try.ntmps50
  go_wp2
  go_loopg [11] 1 (fun g v11 w' => v11 = .int .i64 0 ∧ w' = w.alloc (.cells #[.slice none 0 0, .slice none 0 0, .slice none 0 0, .slice none 0 0] 35))
  case atStart => exact ⟨rfl, rfl⟩
  case round =>
    obtain ⟨rfl, rfl⟩ := hrel
    go_wp2
    refine bodyPost_ret (v := .tuple #[.int .i64 0, .bool false]) (by simp [results, Try.results50, go_sem]) rfl ⟨rfl, bl_alloc (Below.refl _ _) _⟩
/-- what clocks of UTC show -/
abbrev cV (x n : Int) : Value := .agg #[.int .i64 (Yx x), .int .i64 (Mx x), .int .i64 (Dx x), .int .i64 (x % 86400 / 3600), .int .i64 (x % 3600 / 60), .int .i64 (x % 60), .int .i64 n, .int .i64 (Wx x)]
abbrev K8 (w : World) (b : Nat) (y m d : Int) (W : World) : Prop := W.cell? ⟨b, 0, none⟩ = some (.int .i64 y) ∧ W.cell? ⟨b, 1, none⟩ = some (.int .i64 m) ∧ W.cell? ⟨b, 2, none⟩ = some (.int .i64 d) ∧ I8 w.heap.size W ∧ Hid (Below w.heap.size w W)
theorem k8_on {w : World} {b : Nat} {y m d : Int} {W W' : World} (hb : Below W.heap.size W W') (h : K8 w b y m d W) : K8 w b y m d W' := by
  obtain ⟨a0, a1, a2, h3, hh⟩ := h
  exact ⟨cell_on hb a0, cell_on hb a1, cell_on hb a2, i8_on hb h3, Lib.hid (bl_on hh.out hb)⟩
abbrev z8 : Obj := .cells #[.int .i64 0, .int .i64 0, .int .i64 0, .int .i64 0, .int .i64 0, .int .i64 0, .int .i64 0, .int .i64 0] 56
theorem k8_start (w w1 : World) (y m d : Int) (hb : Below (w.alloc z8).heap.size (w.alloc z8) w1) : K8 w w1.heap.size y m d (w1.alloc (.cells #[.int .i64 y, .int .i64 m, .int .i64 d] 80)) := by
  have b0 := heap_new0 w1 _ (.cells #[.int .i64 y, .int .i64 m, .int .i64 d] 80) rfl
  exact ⟨(blk_cell b0 0).trans rfl, (blk_cell b0 1).trans rfl, (blk_cell b0 2).trans rfl, i8_on (bl_alloc (Below.refl _ _) _) (i8_on hb (i8_start (t := 56) (heap_new0 _ _ _ rfl))), Lib.hid (bl_alloc (bl_on (bl_alloc (Below.refl _ _) _) hb) _)⟩
theorem wday_b (n : Int) (w : World) (a0 : -1000000000 ≤ n) (a1 : n ≤ 1000000000) : Calls Try.prog 38 #[.int .i64 n] w fun e w' => e = .returned (.int .i64 ((n + 4) % 7)) ∧ Below w.heap.size w w' := (wday_any n w a0 a1).mono (by rintro e w' ⟨rfl, rfl⟩; exact ⟨rfl, Below.refl _ _⟩)
theorem k8_set {w : World} {b : Nat} {y m d : Int} {W : World} {a0 a1 a2 a3 a4 a5 a6 a7 : Int} (hb : b ≠ w.heap.size) (h : K8 w b y m d W) : K8 w b y m d (put8i W w.heap.size a0 a1 a2 a3 a4 a5 a6 a7) := by
  obtain ⟨h0, h1, h2, h3, hh⟩ := h
  exact ⟨(put8i_out _ hb).trans h0, (put8i_out _ hb).trans h1, (put8i_out _ hb).trans h2, i8_set h3, Lib.hid (put8i_bl hh.out (Nat.le_refl _))⟩
theorem sz_lt {w w2 : World} {o : Obj} (hb : Below (w.alloc o).heap.size (w.alloc o) w2) : w.heap.size < w2.heap.size := by
  have h := hb.size
  have e : (w.alloc o).heap.size = w.heap.size + 1 := by show (w.heap.push o).size = _; simp
  omega
set_option maxRecDepth 100000 in
set_option maxHeartbeats 2000000 in
theorem specClock_any (x n : Int) (w : World) (x0 : 0 ≤ x) (x1 : x ≤ 1000000000000) : Calls Try.prog 40 #[.int .i64 (x - 62135596800), .int .i64 n] w fun e w' => e = .returned (cV x n) ∧ Below w.heap.size w w' := by
  have hq : (x - 62135596800) / 86400 = x / 86400 - 719162 := by omega
  have hw1 : wrap64 (86400 * (x / 86400 - 719162)) = 86400 * (x / 86400 - 719162) := wi (by omega) (by omega)
  have hw2 : wrap64 (x - 62135596800 - 86400 * (x / 86400 - 719162)) = x % 86400 := by rw [wi (by omega) (by omega)]; omega
  have HE := Lib.hid (show x - 62135596800 - 86400 * (x / 86400 - 719162) = x % 86400 by omega)
  have HQ := Lib.hid hq
  clear hq
  have HX := Lib.hid (And.intro x0 x1)
  go_enter Try.func40, Try.ntmps40
  go_wp2_with (first
    | (go_at_call 34; with_reducible refine (fdiv_any (x - 62135596800) 86400 _ (by decide) (by decide) (by omega) (by omega)).mono ?_; rw [HQ.out]; rintro e w1 ⟨rfl, rfl⟩)
    | (go_at_call 35; with_reducible refine (dateOf_any (x / 86400 - 719162) _ (by omega) (by omega)).mono ?_; rintro e w2 ⟨⟨y, m, d, rfl, hd, hy⟩, hb2⟩; have HS := Lib.hid (k8_start w w2 y m d hb2); have HL := Lib.hid (sz_lt hb2); have HD := Lib.hid hd; clear hd hb2 hy))
  rw [HE.out]
  clear hw1 hw2
  obtain ⟨e1, e2, e3⟩ := x_one HX.out.1 HD.out
  subst e1 e2 e3
  obtain ⟨r, hr⟩ : ∃ r, r = x % 86400 := ⟨_, rfl⟩
  have p0 : 0 ≤ r := by omega
  have p1 : r < 86400 := by omega
  have p2 : 0 ≤ r / 60 := by omega
  rw [← hr]
  have HR := Lib.hid hr
  clear hr
  refine start_ (n := 18) (S := fun w' => K8 w w2.heap.size (Yx x) (Mx x) (Dx x) w') (ds := [17]) #[false, false, false, false, false, false, false, false, false, false, false, false, false, false, false, false, false, false] (by kernel_rfl) rfl rfl (k8_on (bl_drew (Below.refl _ _)) HS.out) (fun hHeld => ?_)
  refine pure_ (i := 0) (N := some 16) (v := ?_) (a' := ?_) #[true, false, false, false, false, false, false, false, false, false, false, false, false, false, false, false, false, false] rfl rfl (by kernel_rfl) (fun _ _ _ h => h) (Or.inl ⟨by rfl, ?_⟩) ?_ ?_
  rotate_left
  · intro w'
    go_simp
    with_reducible rfl
  rotate_left
  · simp only [Act.put, List.setIfInBounds_toArray, List.set_cons_zero, List.set_cons_succ, i64_w, i32_w]
    rfl
  refine pure_ (i := 2) (N := some 18) (v := ?_) (a' := ?_) #[true, false, true, false, false, false, false, false, false, false, false, false, false, false, false, false, false, false] rfl rfl (by kernel_rfl) (fun _ _ _ h => h) (Or.inl ⟨by rfl, ?_⟩) ?_ ?_
  rotate_left
  · intro w'
    go_simp
    with_reducible rfl
  rotate_left
  · simp only [Act.put, List.setIfInBounds_toArray, List.set_cons_zero, List.set_cons_succ, i64_w, i32_w]
    rfl
  refine pure_ (i := 4) (N := some 20) (v := ?_) (a' := ?_) #[true, false, true, false, true, false, false, false, false, false, false, false, false, false, false, false, false, false] rfl rfl (by kernel_rfl) (fun _ _ _ h => h) (Or.inl ⟨by rfl, ?_⟩) ?_ ?_
  rotate_left
  · intro w'
    go_simp
    with_reducible rfl
  rotate_left
  · simp only [Act.put, List.setIfInBounds_toArray, List.set_cons_zero, List.set_cons_succ, i64_w, i32_w]
    rfl
  refine pure_ (i := 6) (N := some 22) (v := ?_) (a' := ?_) #[true, false, true, false, true, false, true, false, false, false, false, false, false, false, false, false, false, false] rfl rfl (by kernel_rfl) (fun _ _ _ h => h) (Or.inl ⟨by rfl, ?_⟩) ?_ ?_
  rotate_left
  · intro w'
    go_simp
    with_reducible rfl
  rotate_left
  · simp only [Act.put, List.setIfInBounds_toArray, List.set_cons_zero, List.set_cons_succ, i64_w, i32_w]
    rfl
  refine pure_ (i := 7) (N := some 23) (v := ?_) (a' := ?_) #[true, false, true, false, true, false, true, true, false, false, false, false, false, false, false, false, false, false] rfl rfl (by kernel_rfl) (fun _ _ _ h => h) (Or.inl ⟨by rfl, ?_⟩) ?_ ?_
  rotate_left
  · intro w'
    go_simp
    with_reducible rfl
  rotate_left
  · simp only [Act.put, List.setIfInBounds_toArray, List.set_cons_zero, List.set_cons_succ, i64_w, i32_w]
    rfl
  refine pure_ (i := 8) (N := some 24) (v := ?_) (a' := ?_) #[true, false, true, false, true, false, true, true, true, false, false, false, false, false, false, false, false, false] rfl rfl (by kernel_rfl) (fun _ _ _ h => h) (Or.inl ⟨by rfl, ?_⟩) ?_ ?_
  rotate_left
  · intro w'
    go_simp
    with_reducible rfl
  rotate_left
  · simp only [Act.put, List.setIfInBounds_toArray, List.set_cons_zero, List.set_cons_succ, i64_w, i32_w]
    rfl
  refine pure_ (i := 9) (N := some 25) (v := ?_) (a' := ?_) #[true, false, true, false, true, false, true, true, true, true, false, false, false, false, false, false, false, false] rfl rfl (by kernel_rfl) (fun _ _ _ h => h) (Or.inl ⟨by rfl, ?_⟩) ?_ ?_
  rotate_left
  · intro w'
    go_simp
    with_reducible rfl
  rotate_left
  · simp only [Act.put, List.setIfInBounds_toArray, List.set_cons_zero, List.set_cons_succ, i64_w, i32_w]
    rfl
  refine pure_ (i := 10) (N := some 26) (v := ?_) (a' := ?_) #[true, false, true, false, true, false, true, true, true, true, true, false, false, false, false, false, false, false] rfl rfl (by kernel_rfl) (fun _ _ _ h => h) (Or.inl ⟨by rfl, ?_⟩) ?_ ?_
  rotate_left
  · intro w'
    go_simp
    with_reducible rfl
  rotate_left
  · simp only [Act.put, List.setIfInBounds_toArray, List.set_cons_zero, List.set_cons_succ, i64_w, i32_w]
    rfl
  refine pure_ (i := 11) (N := some 27) (v := ?_) (a' := ?_) #[true, false, true, false, true, false, true, true, true, true, true, true, false, false, false, false, false, false] rfl rfl (by kernel_rfl) (fun _ _ _ h => h) (Or.inl ⟨by rfl, ?_⟩) ?_ ?_
  rotate_left
  · intro w'
    go_simp
    with_reducible rfl
  rotate_left
  · simp only [Act.put, List.setIfInBounds_toArray, List.set_cons_zero, List.set_cons_succ, i64_w, i32_w]
    rfl
  refine pure_ (i := 12) (N := some 28) (v := ?_) (a' := ?_) #[true, false, true, false, true, false, true, true, true, true, true, true, true, false, false, false, false, false] rfl rfl (by kernel_rfl) (fun _ _ _ h => h) (Or.inl ⟨by rfl, ?_⟩) ?_ ?_
  rotate_left
  · intro w'
    go_simp
    with_reducible rfl
  rotate_left
  · simp only [Act.put, List.setIfInBounds_toArray, List.set_cons_zero, List.set_cons_succ, i64_w, i32_w]
    rfl
  refine pure_ (i := 13) (N := some 29) (v := ?_) (a' := ?_) #[true, false, true, false, true, false, true, true, true, true, true, true, true, true, false, false, false, false] rfl rfl (by kernel_rfl) (fun _ _ _ h => h) (Or.inl ⟨by rfl, ?_⟩) ?_ ?_
  rotate_left
  · intro w'
    go_simp
    with_reducible rfl
  rotate_left
  · simp only [Act.put, List.setIfInBounds_toArray, List.set_cons_zero, List.set_cons_succ, i64_w, i32_w]
    rfl
  refine pure_ (i := 14) (N := some 30) (v := ?_) (a' := ?_) #[true, false, true, false, true, false, true, true, true, true, true, true, true, true, true, false, false, false] rfl rfl (by kernel_rfl) (fun _ _ _ h => h) (Or.inl ⟨by rfl, ?_⟩) ?_ ?_
  rotate_left
  · intro w'
    go_simp
    with_reducible rfl
  rotate_left
  · simp only [Act.put, List.setIfInBounds_toArray, List.set_cons_zero, List.set_cons_succ, i64_w, i32_w]
    rfl
  refine take_ (i := 1) (N := some 17) (v := ?_) (a' := ?_) #[true, true, true, false, true, false, true, true, true, true, true, true, true, true, true, false, false, false] rfl rfl (by kernel_rfl) (fun _ _ _ h => h) (Or.inl ⟨by rfl, ?_⟩) hHeld ?_ ?_
  rotate_left
  · rintro w' ⟨s0, s1, s2, s3, s4⟩
    go_simp
    with_reducible rfl
  rotate_left
  · simp only [Act.put, List.setIfInBounds_toArray, List.set_cons_zero, List.set_cons_succ, i64_w, i32_w]
    rfl
  refine take_ (i := 3) (N := some 19) (v := ?_) (a' := ?_) #[true, true, true, true, true, false, true, true, true, true, true, true, true, true, true, false, false, false] rfl rfl (by kernel_rfl) (fun _ _ _ h => h) (Or.inl ⟨by rfl, ?_⟩) hHeld ?_ ?_
  rotate_left
  · rintro w' ⟨s0, s1, s2, s3, s4⟩
    go_simp
    with_reducible rfl
  rotate_left
  · simp only [Act.put, List.setIfInBounds_toArray, List.set_cons_zero, List.set_cons_succ, i64_w, i32_w]
    rfl
  refine take_ (i := 5) (N := some 21) (v := ?_) (a' := ?_) #[true, true, true, true, true, true, true, true, true, true, true, true, true, true, true, false, false, false] rfl rfl (by kernel_rfl) (fun _ _ _ h => h) (Or.inl ⟨by rfl, ?_⟩) hHeld ?_ ?_
  rotate_left
  · rintro w' ⟨s0, s1, s2, s3, s4⟩
    go_simp
    with_reducible rfl
  rotate_left
  · simp only [Act.put, List.setIfInBounds_toArray, List.set_cons_zero, List.set_cons_succ, i64_w, i32_w]
    rfl
  refine one_ (i := 15) (N := some 31) #[true, true, true, true, true, true, true, true, true, true, true, true, true, true, true, true, false, false] rfl rfl (by kernel_rfl) (by decide) (fun K hK => ?_)
  refine goes_ Try.func38 (by kernel_rfl) rfl #[.int .i64 (x / 86400 - 719162)] (by rfl) rfl rfl (by simp only [List.map_toArray, List.map_cons, List.map_nil]; rfl) ?_
  with_reducible refine (wday_b (x / 86400 - 719162) _ (by omega) (by omega)).mono ?_
  rintro e w4 ⟨rfl, hb⟩
  refine ⟨_, rfl, ?_⟩
  refine hK.out _ _ (k8_on hb hHeld) (fun hHeld => ?_)
  clear hK K
  refine norm_ (a' := ?_) ?_ ?_
  rotate_left
  · show Act.put _ (some 31) _ = _
    simp only [Act.put, List.setIfInBounds_toArray, List.set_cons_zero, List.set_cons_succ, i64_w, i32_w]
    rfl
  refine pure_ (i := 16) (N := some 32) (v := ?_) (a' := ?_) #[true, true, true, true, true, true, true, true, true, true, true, true, true, true, true, true, true, false] rfl rfl (by kernel_rfl) (fun _ _ _ h => h) (Or.inl ⟨by rfl, ?_⟩) ?_ ?_
  rotate_left
  · intro w'
    go_simp
    with_reducible rfl
  rotate_left
  · simp only [Act.put, List.setIfInBounds_toArray, List.set_cons_zero, List.set_cons_succ, i64_w, i32_w]
    rfl
  refine last_ (i := 17) (N := none) #[true, true, true, true, true, true, true, true, true, true, true, true, true, true, true, true, true, true] rfl rfl (by kernel_rfl) (by decide) (fun K hK => ?_)
  have HL := hHeld
  obtain ⟨-, -, -, ⟨⟨z0, z1, z2, z3, z4, z5, z6, z7⟩, ⟨f0, f1, f2, f3, f4, f5, f6, f7⟩⟩, -⟩ := HL
  refine skip_ (w1 := ?_) (by rfl) rfl ?_ ?_
  rotate_left
  · go_simp
    rfl
  refine hK.out _ _ ?_
  clear hK K
  refine done_ (by kernel_rfl) ?_
  have H8 := Lib.hid hHeld
  clear hHeld
  have e3 : wrap64 (r.tdiv 3600) = x % 86400 / 3600 := by rw [Int.tdiv_eq_ediv_of_nonneg p0, HR.out]; exact wi (by omega) (by omega)
  have e4 : (wrap64 (r.tdiv 60)).tmod 60 = x % 3600 / 60 := by rw [Int.tdiv_eq_ediv_of_nonneg p0, wi (x := r / 60) (by omega) (by omega), Int.tmod_eq_emod_of_nonneg p2, HR.out]; omega
  have e5 : r.tmod 60 = x % 60 := by rw [Int.tmod_eq_emod_of_nonneg p0, HR.out]; omega
  have e7 : (x / 86400 - 719162 + 4) % 7 = Wx x := by unfold Wx; omega
  rw [e3, e4, e5, e7]
  clear e3 e4 e5 e7
  obtain ⟨q0, q1, q2, q3, q4, q5, q6, q7⟩ := i8_get (a0 := Yx x) (a1 := Mx x) (a2 := Dx x) (a3 := x % 86400 / 3600) (a4 := x % 3600 / 60) (a5 := x % 60) (a6 := n) (a7 := Wx x) H8.out.2.2.2.1
  have HBL := Lib.hid (put8i_bl (a0 := Yx x) (a1 := Mx x) (a2 := Dx x) (a3 := x % 86400 / 3600) (a4 := x % 3600 / 60) (a5 := x % 60) (a6 := n) (a7 := Wx x) H8.out.2.2.2.2.out (Nat.le_refl _))
  go_wp2_with fail
  refine bodyPost_ret (v := cV x n) ?_ rfl ⟨rfl, HBL.out⟩
  simp [results, Try.results40, go_sem, q0, q1, q2, q3, q4, q5, q6, q7]
abbrev C8 (w : World) (s n : Int) (W : World) : Prop := W.cell? ⟨w.heap.size, 0, none⟩ = some (.int .i64 s) ∧ W.cell? ⟨w.heap.size, 1, none⟩ = some (.int .i64 n) ∧ W.cell? ⟨w.heap.size + 1, 0, none⟩ = some (.slice none 0 0) ∧ W.cell? ⟨w.heap.size + 1, 1, none⟩ = some (.slice none 0 0) ∧ W.cell? ⟨w.heap.size + 1, 2, none⟩ = some (.slice none 0 0) ∧ W.cell? ⟨w.heap.size + 1, 3, none⟩ = some (.slice none 0 0) ∧ I8 (w.heap.size + 1 + 1) W ∧ Hid (Below w.heap.size w W)
theorem c8_on {w : World} {s n : Int} {W W' : World} (hb : Below W.heap.size W W') (h : C8 w s n W) : C8 w s n W' := by
  obtain ⟨a0, a1, a2, a3, a4, a5, h3, hh⟩ := h
  exact ⟨cell_on hb a0, cell_on hb a1, cell_on hb a2, cell_on hb a3, cell_on hb a4, cell_on hb a5, i8_on hb h3, Lib.hid (bl_on hh.out hb)⟩
theorem c8_start (w : World) (s n : Int) : C8 w s n (((w.alloc (.cells #[.int .i64 s, .int .i64 n] 23)).alloc (.cells #[.slice none 0 0, .slice none 0 0, .slice none 0 0, .slice none 0 0] 35)).alloc z8) := by
  have b0 := heap_old (o' := z8) (heap_old (o' := .cells #[.slice none 0 0, .slice none 0 0, .slice none 0 0, .slice none 0 0] 35) (heap_new0 w _ (.cells #[.int .i64 s, .int .i64 n] 23) rfl))
  have b1 := heap_old (o' := z8) (heap_new0 (w.alloc (.cells #[.int .i64 s, .int .i64 n] 23)) (w.heap.size + 1) (.cells #[.slice none 0 0, .slice none 0 0, .slice none 0 0, .slice none 0 0] 35) (by simp))
  exact ⟨(blk_cell b0 0).trans rfl, (blk_cell b0 1).trans rfl, (blk_cell b1 0).trans rfl, (blk_cell b1 1).trans rfl, (blk_cell b1 2).trans rfl, (blk_cell b1 3).trans rfl, i8_start (t := 56) (heap_new0 _ _ _ (by simp)), Lib.hid (by repeat (first | exact Below.refl _ _ | apply bl_alloc))⟩
set_option maxRecDepth 100000 in
set_option maxHeartbeats 2000000 in
theorem civil_any (s n : Int) (w : World) (x0 : -62135596800 ≤ s) (x1 : s ≤ 900000000000) : Calls Try.prog 23 #[inV s n, znV] w fun e w' => e = .returned (cV (s + 62135596800) n) ∧ Below w.heap.size w w' := by
  have HS := Lib.hid (c8_start w s n)
  obtain ⟨x, hx⟩ : ∃ x, x = s + 62135596800 := ⟨_, rfl⟩
  have hx0 : 0 ≤ x := by omega
  have hx1 : x ≤ 1000000000000 := by omega
  obtain rfl : s = x - 62135596800 := by omega
  have HC := Lib.hid hx
  clear hx
  rw [← HC.out]
  have HK : Hid (∀ w, Calls Try.prog 40 #[.int .i64 (wrap64 (x - 62135596800)), .int .i64 n] w fun e w' => e = .returned (cV x n) ∧ Below w.heap.size w w') := Lib.hid (fun w => by rw [wi (by omega) (by omega)]; exact specClock_any x n w hx0 hx1)
  go_enter Try.func23, Try.ntmps23
  go_wp2_with fail
  refine start_ (n := 11) (S := fun w' => C8 w (x - 62135596800) n w') (ds := [10]) #[false, false, false, false, false, false, false, false, false, false, false] (by kernel_rfl) rfl rfl (c8_on (bl_drew (Below.refl _ _)) HS.out) (fun hHeld => ?_)
  refine pure_ (i := 0) (N := some 5) (v := ?_) (a' := ?_) #[true, false, false, false, false, false, false, false, false, false, false] rfl rfl (by kernel_rfl) (fun _ _ _ h => h) (Or.inl ⟨by rfl, ?_⟩) ?_ ?_
  rotate_left
  · intro w'
    go_simp
    with_reducible rfl
  rotate_left
  · simp only [Act.put, List.setIfInBounds_toArray, List.set_cons_zero, List.set_cons_succ, i64_w, i32_w]
    rfl
  refine pure_ (i := 3) (N := some 8) (v := ?_) (a' := ?_) #[true, false, false, true, false, false, false, false, false, false, false] rfl rfl (by kernel_rfl) (fun _ _ _ h => h) (Or.inl ⟨by rfl, ?_⟩) ?_ ?_
  rotate_left
  · intro w'
    go_simp
    with_reducible rfl
  rotate_left
  · simp only [Act.put, List.setIfInBounds_toArray, List.set_cons_zero, List.set_cons_succ, i64_w, i32_w]
    rfl
  refine pure_ (i := 7) (N := some 12) (v := ?_) (a' := ?_) #[true, false, false, true, false, false, false, true, false, false, false] rfl rfl (by kernel_rfl) (fun _ _ _ h => h) (Or.inl ⟨by rfl, ?_⟩) ?_ ?_
  rotate_left
  · intro w'
    go_simp
    with_reducible rfl
  rotate_left
  · simp only [Act.put, List.setIfInBounds_toArray, List.set_cons_zero, List.set_cons_succ, i64_w, i32_w]
    rfl
  refine take_ (i := 1) (N := some 6) (v := ?_) (a' := ?_) #[true, true, false, true, false, false, false, true, false, false, false] rfl rfl (by kernel_rfl) (fun _ _ _ h => h) (Or.inl ⟨by rfl, ?_⟩) hHeld ?_ ?_
  rotate_left
  · rintro w' ⟨s0, s1, s2, s3, s4, s5, s6, s7⟩
    go_simp
    with_reducible rfl
  rotate_left
  · simp only [Act.put, List.setIfInBounds_toArray, List.set_cons_zero, List.set_cons_succ, i64_w, i32_w]
    rfl
  refine take_ (i := 2) (N := some 7) (v := ?_) (a' := ?_) #[true, true, true, true, false, false, false, true, false, false, false] rfl rfl (by kernel_rfl) (fun _ _ _ h => h) (Or.inl ⟨by rfl, ?_⟩) hHeld ?_ ?_
  rotate_left
  · rintro w' ⟨s0, s1, s2, s3, s4, s5, s6, s7⟩
    go_simp
    with_reducible rfl
  rotate_left
  · simp only [Act.put, List.setIfInBounds_toArray, List.set_cons_zero, List.set_cons_succ, i64_w, i32_w]
    rfl
  refine take_ (i := 4) (N := some 9) (v := ?_) (a' := ?_) #[true, true, true, true, true, false, false, true, false, false, false] rfl rfl (by kernel_rfl) (fun _ _ _ h => h) (Or.inl ⟨by rfl, ?_⟩) hHeld ?_ ?_
  rotate_left
  · rintro w' ⟨s0, s1, s2, s3, s4, s5, s6, s7⟩
    go_simp
    with_reducible rfl
  rotate_left
  · simp only [Act.put, List.setIfInBounds_toArray, List.set_cons_zero, List.set_cons_succ, i64_w, i32_w]
    rfl
  refine take_ (i := 8) (N := some 13) (v := ?_) (a' := ?_) #[true, true, true, true, true, false, false, true, true, false, false] rfl rfl (by kernel_rfl) (fun _ _ _ h => h) (Or.inl ⟨by rfl, ?_⟩) hHeld ?_ ?_
  rotate_left
  · rintro w' ⟨s0, s1, s2, s3, s4, s5, s6, s7⟩
    go_simp
    with_reducible rfl
  rotate_left
  · simp only [Act.put, List.setIfInBounds_toArray, List.set_cons_zero, List.set_cons_succ, i64_w, i32_w]
    rfl
  refine one_ (i := 5) (N := some 10) #[true, true, true, true, true, true, false, true, true, false, false] rfl rfl (by kernel_rfl) (by decide) (fun K hK => ?_)
  refine goes_ Try.func41 (by kernel_rfl) rfl #[znV, .int .i64 (x - 62135596800)] (by rfl) rfl rfl (by simp only [List.map_toArray, List.map_cons, List.map_nil]; rfl) ?_
  with_reducible refine (offset_any (x - 62135596800) _).mono ?_
  rintro e w4 ⟨rfl, hb⟩
  refine ⟨_, rfl, ?_⟩
  refine hK.out _ _ (c8_on hb hHeld) (fun hHeld => ?_)
  clear hK K
  refine norm_ (a' := ?_) ?_ ?_
  rotate_left
  · show Act.put _ (some 10) _ = _
    simp only [Act.put, List.setIfInBounds_toArray, List.set_cons_zero, List.set_cons_succ, i64_w, i32_w]
    rfl
  refine pure_ (i := 6) (N := some 11) (v := ?_) (a' := ?_) #[true, true, true, true, true, true, true, true, true, false, false] rfl rfl (by kernel_rfl) (fun _ _ _ h => h) (Or.inl ⟨by rfl, ?_⟩) ?_ ?_
  rotate_left
  · intro w'
    go_simp
    with_reducible rfl
  rotate_left
  · simp only [Act.put, List.setIfInBounds_toArray, List.set_cons_zero, List.set_cons_succ, i64_w, i32_w]
    rfl
  refine one_ (i := 9) (N := some 14) #[true, true, true, true, true, true, true, true, true, true, false] rfl rfl (by kernel_rfl) (by decide) (fun K hK => ?_)
  refine goes_ Try.func40 (by kernel_rfl) rfl #[.int .i64 (wrap64 (x - 62135596800)), .int .i64 n] (by rfl) rfl rfl (by simp only [List.map_toArray, List.map_cons, List.map_nil]; rfl) ?_
  with_reducible refine (HK.out _).mono ?_
  rintro e w4 ⟨rfl, hb⟩
  refine ⟨_, rfl, ?_⟩
  refine hK.out _ _ (c8_on hb hHeld) (fun hHeld => ?_)
  clear hK K
  refine norm_ (a' := ?_) ?_ ?_
  rotate_left
  · show Act.put _ (some 14) _ = _
    simp only [Act.put, List.setIfInBounds_toArray, List.set_cons_zero, List.set_cons_succ, i64_w, i32_w]
    rfl
  refine last_ (i := 10) (N := none) #[true, true, true, true, true, true, true, true, true, true, true] rfl rfl (by kernel_rfl) (by decide) (fun K hK => ?_)
  have HL := hHeld
  obtain ⟨-, -, -, -, -, -, ⟨⟨z0, z1, z2, z3, z4, z5, z6, z7⟩, ⟨f0, f1, f2, f3, f4, f5, f6, f7⟩⟩, -⟩ := HL
  refine skip_ (w1 := ?_) (by rfl) rfl ?_ ?_
  rotate_left
  · go_simp
    rfl
  refine hK.out _ _ ?_
  clear hK K
  refine done_ (by kernel_rfl) ?_
  have H8 := Lib.hid hHeld
  clear hHeld
  obtain ⟨q0, q1, q2, q3, q4, q5, q6, q7⟩ := i8_get (a0 := Yx x) (a1 := Mx x) (a2 := Dx x) (a3 := x % 86400 / 3600) (a4 := x % 3600 / 60) (a5 := x % 60) (a6 := n) (a7 := Wx x) H8.out.2.2.2.2.2.2.1
  have HBL := Lib.hid (put8i_bl (a0 := Yx x) (a1 := Mx x) (a2 := Dx x) (a3 := x % 86400 / 3600) (a4 := x % 3600 / 60) (a5 := x % 60) (a6 := n) (a7 := Wx x) H8.out.2.2.2.2.2.2.2.out (Nat.le_add_right _ 2))
  go_wp2_with fail
  refine bodyPost_ret (v := cV x n) ?_ rfl ⟨rfl, HBL.out⟩
  simp [results, Try.results23, go_sem, q0, q1, q2, q3, q4, q5, q6, q7]
end Go.Proofs.Ytdgglkihiibmhaa
