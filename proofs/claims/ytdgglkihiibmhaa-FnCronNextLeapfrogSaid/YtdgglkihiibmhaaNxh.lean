/-
  SpecSchedule.Next: whole.
-/
import Derived.Test.YtdgglkihiibmhaaNxg
set_option linter.unusedVariables false
set_option linter.unusedSimpArgs false
namespace Go.Proofs.Ytdgglkihiibmhaa
open Go Go.RowKit Cal Go.Proofs.YtdgglkihiibmhaaW.PrintLast

abbrev NP (w : World) (p a5 q : Nat) (f : Six) (n x : Int) (w' : World) : Prop :=
  w'.cell? ⟨p, 0, none⟩ = some (.int .u64 f.se) ∧ w'.cell? ⟨p, 1, none⟩ = some (.int .u64 f.mi) ∧ w'.cell? ⟨p, 2, none⟩ = some (.int .u64 f.ho) ∧ w'.cell? ⟨p, 3, none⟩ = some (.int .u64 f.dom) ∧ w'.cell? ⟨p, 4, none⟩ = some (.int .u64 f.mo) ∧ w'.cell? ⟨p, 5, none⟩ = some (.int .u64 f.dow) ∧ w'.cell? ⟨p, 6, none⟩ = some (.pointer none) ∧ w'.cell? ⟨w.heap.size, 0, none⟩ = some (.int .u64 n) ∧ w'.cell? ⟨w.heap.size, 1, none⟩ = some (.int .i64 x) ∧ w'.cell? ⟨w.heap.size, 2, none⟩ = some (.pointer none) ∧ w'.frozen? ⟨w.heap.size, 0, none⟩ = false ∧ w'.frozen? ⟨w.heap.size, 1, none⟩ = false ∧ w'.frozen? ⟨w.heap.size, 2, none⟩ = false ∧ R3 (w.heap.size + 1) w' ∧ w'.cell? ⟨a5, 0, none⟩ = some (.bool true) ∧ w'.heap[q]? = some utcO ∧ Hid (p < w.heap.size ∧ w.heap.size + 1 < a5 ∧ w.heap.size + 1 < q) ∧ Hid (Below w.heap.size w w')
theorem np_on {w : World} {p a5 q : Nat} {f : Six} {n x : Int} {W W' : World} (hb : Below W.heap.size W W') (h : NP w p a5 q f n x W) : NP w p a5 q f n x W' := by
  obtain ⟨a0, a1, a2, a3, a4, a5, a6, a7, a8, a9, a10, a11, a12, a13, a14, a15, a16, a17⟩ := h
  exact ⟨cell_on hb a0, cell_on hb a1, cell_on hb a2, cell_on hb a3, cell_on hb a4, cell_on hb a5, cell_on hb a6, cell_on hb a7, cell_on hb a8, cell_on hb a9, frozen_on hb (World.block_lt_of_cell? _ _ a7) a10, frozen_on hb (World.block_lt_of_cell? _ _ a8) a11, frozen_on hb (World.block_lt_of_cell? _ _ a9) a12, r3_on hb a13, cell_on hb a14, blk_on hb a15, a16, Lib.hid (bl_on a17.out hb)⟩
theorem np_set {w : World} {p a5 q : Nat} {f : Six} {n x y : Int} {W : World} (h : NP w p a5 q f n x W) : NW w p a5 q f y (put3 W w.heap.size 0 y) := by
  obtain ⟨a0, a1, a2, a3, a4, a5, a6, a7, a8, a9, a10, a11, a12, a13, a14, a15, a16, a17⟩ := h
  obtain ⟨h1, h2, h3⟩ := a16.out
  obtain ⟨j0, j1, j2⟩ := put3_get (n := .int .u64 0) (x := .int .i64 y) (e := .pointer none) a7 a8 a9
  obtain ⟨r0, r1, r2, g0, g1, g2⟩ := a13
  have fz : ∀ i, W.frozen? ⟨w.heap.size, i, none⟩ = false → (put3 W w.heap.size 0 y).frozen? ⟨w.heap.size, i, none⟩ = false := by
    intro i hi
    unfold put3
    go_simp
  have fr : ∀ i, W.frozen? ⟨w.heap.size + 1, i, none⟩ = false → (put3 W w.heap.size 0 y).frozen? ⟨w.heap.size + 1, i, none⟩ = false := by
    intro i hi
    unfold put3
    go_simp
  have hq : (put3 W w.heap.size 0 y).heap[q]? = W.heap[q]? := by
    unfold put3
    rw [Below.heap_setCell _ _ _ _ (by show q ≠ w.heap.size; omega), Below.heap_setCell _ _ _ _ (by show q ≠ w.heap.size; omega), Below.heap_setCell _ _ _ _ (by show q ≠ w.heap.size; omega)]
  exact ⟨cell_room3 (by simp; omega) a0, cell_room3 (by simp; omega) a1, cell_room3 (by simp; omega) a2, cell_room3 (by simp; omega) a3, cell_room3 (by simp; omega) a4, cell_room3 (by simp; omega) a5, cell_room3 (by simp; omega) a6, j0, j1, j2, fz 0 a10, fz 1 a11, fz 2 a12, ⟨i0_of (cell_room3 (by simp) r0), i0_of (cell_room3 (by simp) r1), cell_room3 (by simp) r2, fr 0 g0, fr 1 g1, fr 2 g2⟩, cell_room3 (by simp; omega) a14, hq.trans a15, a16, Lib.hid (bl_set (bl_set (bl_set a17.out (Nat.le_refl _) _) (Nat.le_refl _) _) (Nat.le_refl _) _)⟩

theorem nw_bel {w : World} {p a5 q : Nat} {f : Six} {x : Int} {W : World} (h : NW w p a5 q f x W) : Below w.heap.size w W := h.2.2.2.2.2.2.2.2.2.2.2.2.2.2.2.2.2.out
theorem nw_put {w : World} {p a5 q : Nat} {f : Six} {x : Int} {W : World} (n y : Int) (h : NW w p a5 q f x W) : Below w.heap.size w (put3 W (w.heap.size + 1) n y) := bl_set (p := ⟨w.heap.size + 1, 2, none⟩) (bl_set (p := ⟨w.heap.size + 1, 1, none⟩) (bl_set (p := ⟨w.heap.size + 1, 0, none⟩) (nw_bel h) (Nat.le_add_right _ 1) _) (Nat.le_add_right _ 1) _) (Nat.le_add_right _ 1) _
theorem utc3_any (w : World) : Calls Try.prog 31 #[] w fun e w' => ∃ q, e = .returned (.pointer (some ⟨q, 0, none⟩)) ∧ w'.heap[q]? = some utcO ∧ w.heap.size ≤ q ∧ Below w.heap.size w w' := by
  go_enter Try.func31, Try.ntmps31
  go_wp2
  go_ret
  refine ⟨_, rfl, ?_, Nat.le_refl _, ?_⟩
  · exact heap_new0 _ _ _ rfl
  · repeat (first | exact Below.refl _ _ | apply bl_alloc)
theorem Location3_any (n x : Int) (w : World) : Calls Try.prog 87 #[tmV n x] w fun e w' => ∃ q, e = .returned (.pointer (some ⟨q, 0, none⟩)) ∧ w'.heap[q]? = some utcO ∧ w.heap.size < q ∧ Below w.heap.size w w' := by
  obtain ⟨k0, k1, k2, -⟩ := res3 (heap_new0 w _ (.cells #[.int .u64 n, .int .i64 x, .pointer none] 66) rfl)
  go_enter Try.func87, Try.ntmps87
  go_wp2_with (go_at_call 31; refine (utc3_any _).mono ?_; rintro e w1 ⟨q, rfl, hq, hs, hb⟩; have HQ := Lib.hid hq; have HB := Lib.hid hb; have HZ := Lib.hid (show w.heap.size < q by simp at hs; omega); clear hq hb hs)
  go_ret
  exact ⟨q, rfl, HQ.out, HZ.out, bl_on (bl_alloc (Below.refl _ _) _) HB.out⟩
theorem np_mk {w : World} {p a5 q : Nat} {f : Six} {n x : Int} {W : World} (h : M3 w p f n x W) (hf : ∀ i, i < 3 → W.frozen? ⟨w.heap.size, i, none⟩ = false) (hr : R3 (w.heap.size + 1) W) (ha : W.heap[a5]? = some utcO) (hq : W.heap[q]? = some utcO) (h3 : p < w.heap.size ∧ w.heap.size + 1 < a5 ∧ w.heap.size + 1 < q) : NP w p a5 q f n x W :=
  ⟨h.1.1, h.1.2.1, h.1.2.2.1, h.1.2.2.2.1, h.1.2.2.2.2.1, h.1.2.2.2.2.2.1, h.1.2.2.2.2.2.2, h.2.1.1, h.2.1.2.1, h.2.1.2.2, hf 0 (by decide), hf 1 (by decide), hf 2 (by decide), hr, (blk_cell ha 0).trans rfl, hq, Lib.hid h3, h.2.2⟩
/-- what the search finds: no second, or the first that fits -/
def Finds (f : Six) (s l r : Int) : Prop := (r = 0 ∧ ∀ z, s ≤ z → z < BY l → fits f z = false) ∨ (s ≤ r ∧ r < BY l ∧ fits f r = true ∧ ∀ z, s ≤ z → z < r → fits f z = false)
theorem u0_start (w : World) (p : Nat) (f : Six) (n x : Int) (h : SC w p f) : M3 w p f n x ((w.alloc (.cells #[.int .u64 n, .int .i64 x, .pointer none] 66)).alloc (.cells #[.int .u64 0, .int .i64 0, .pointer none] 66)) := m3_on (bl_alloc (Below.refl _ _) _) (m3_start w p f n x h)
theorem u1_start (w : World) (n x : Int) : (∀ i, i < 3 → ((w.alloc (.cells #[.int .u64 n, .int .i64 x, .pointer none] 66)).alloc (.cells #[.int .u64 0, .int .i64 0, .pointer none] 66)).frozen? ⟨w.heap.size, i, none⟩ = false) ∧ R3 (w.heap.size + 1) ((w.alloc (.cells #[.int .u64 n, .int .i64 x, .pointer none] 66)).alloc (.cells #[.int .u64 0, .int .i64 0, .pointer none] 66)) := by
  obtain ⟨-, -, -, a, b, c⟩ := res3 (w := (w.alloc (.cells #[.int .u64 n, .int .i64 x, .pointer none] 66)).alloc (.cells #[.int .u64 0, .int .i64 0, .pointer none] 66)) (g := w.heap.size) (heap_old (heap_new0 _ _ _ (by simp)))
  obtain ⟨k3, k4, k5, f3, f4, f5⟩ := res3 (w := (w.alloc (.cells #[.int .u64 n, .int .i64 x, .pointer none] 66)).alloc (.cells #[.int .u64 0, .int .i64 0, .pointer none] 66)) (g := w.heap.size + 1) (heap_new0 _ _ _ (by simp))
  refine ⟨fun i hi => ?_, ⟨i0_of k3, i0_of k4, k5, f3, f4, f5⟩⟩
  have : i = 0 ∨ i = 1 ∨ i = 2 := by omega
  rcases this with rfl | rfl | rfl <;> assumption
set_option maxRecDepth 1000000 in
set_option maxHeartbeats 8000000 in
theorem nextSpec_any (w : World) (p : Nat) (f : Six) (n x : Int) (hp : SC w p f) (h0 : 0 ≤ n) (h1 : n < 1000000000) (x0 : 0 ≤ x) (x1 : x ≤ 400000000000) :
    Calls Try.prog 86 #[.pointer (some ⟨p, 0, none⟩), tmV n x] w fun e w' => (∃ r, e = .returned (tmV 0 r) ∧ Finds f (x + 1) (Yx (x + 1) + 5) r) ∧ Below w.heap.size w w' := by
  have HA := Lib.hid (u0_start w p f n x hp)
  have HF := Lib.hid (u1_start w n x)
  have HPS := Lib.hid (World.block_lt_of_cell? w _ hp.1)
  clear hp
  go_enter Try.func86, Try.ntmps86
  go_wp2_with fail
  obtain ⟨s, hs⟩ : ∃ s, x + 1 = s := ⟨_, rfl⟩
  obtain ⟨l, hl⟩ : ∃ l, Yx s + 5 = l := ⟨_, rfl⟩
  have l1 : l ≤ 20000 := by
    have h := date_in_year (x_date s (by omega))
    have h2 := h.1
    unfold YS at h2
    omega
  refine wp_scope_jumps 0 (fun a W => ∃ a5 q, ∃ i : Nx, a = FN p w.heap.size a5 q (tmV n x) l i ∧ NW w p a5 q f i.x W ∧ At f s l i.ad i.x) (fun _ W => (BY l + 1 - i0 W ⟨w.heap.size, 1, none⟩).toNat) (rest := nxR) (by kernel_rfl) ?_ ?_
  rotate_left
  · rintro a W ⟨a5, q, i, rfl, hW, hA⟩
    have hx := nw_x hW
    show Code.wp Try.prog (.seq .skip (tlC nxR)) _ _ _
    refine wp_seq (wp_skip ?_)
    refine nx_pass w p a5 q f (tmV n x) s l l1 _ i W hW hA (fun u ad W' h hy => ?_) (fun u ad y W' h hI hf => ?_) (fun u y W' h hA2 hlt => ?_)
    · obtain ⟨j0, j1, j2⟩ := r3_get (n := 0) (x := 0) (nw_room h)
      have hb := nw_put 0 0 h
      try simp only [Exit.jump]
      refine bodyPost_ret (v := tmV 0 0) ?_ rfl ⟨⟨0, rfl, ?_⟩, hb⟩
      · unfold FR
        simp [results, Try.results86, go_sem, j0, j1, j2]
      · rw [hs, hl]
        refine .inl ⟨rfl, fun z z0 z1 => hA.none z z0 ?_⟩
        have hx0 : 0 ≤ i.x := by have := hA.lo; have := hA.s0; omega
        have : ¬ i.x < BY l := fun c => by have := (by_iff i.x l hx0).2 c; omega
        omega
    · obtain ⟨j0, j1, j2⟩ := r3_get (n := 0) (x := y) (nw_room h)
      have hb := nw_put 0 y h
      try simp only [Exit.jump]
      refine bodyPost_ret (v := tmV 0 y) ?_ rfl ⟨⟨y, rfl, ?_⟩, hb⟩
      · unfold FR
        simp [results, Try.results86, go_sem, j0, j1, j2]
      · rw [hs, hl]
        exact .inr ⟨hI.lo, hI.lt, hf, hI.none⟩
    · refine ⟨rfl, ⟨a5, q, ⟨u, true, y⟩, rfl, h, hA2⟩, ?_⟩
      rw [nw_x h, hx]
      have := hA2.hi
      omega
  · obtain ⟨⟨-, -, -, -, -, -, k6⟩, ⟨k0, k1, k2⟩, -⟩ := HA.out
    have HSZ := Lib.hid hs
    have HLZ := Lib.hid hl
    clear hs hl
    go_wp2_with (first
      | (go_at_call 87; guard_hyp k6 : _; refine (Location3_any n x _).mono ?_; rintro e w1 ⟨a5, rfl, ha, hg, hb⟩; have H1 := Lib.hid (m3_on hb HA.out); have HG := Lib.hid (And.intro ha hg); have HB1 := Lib.hid hb; clear k6 k0 k1 k2 ha hg hb; obtain ⟨⟨-, -, -, -, -, -, j6⟩, ⟨k0, k1, k2⟩, -⟩ := H1.out)
      | (go_at_call 87; refine (Location3_any n x _).mono ?_; rintro e w2 ⟨q, rfl, hq, hg, hb⟩; have H2 := Lib.hid (m3_on hb H1.out); have HQ := Lib.hid (And.intro hq hg); have HB2 := Lib.hid hb; clear j6 k0 k1 k2 hq hg hb; obtain ⟨⟨-, -, -, -, -, -, l6⟩, ⟨k0, k1, k2⟩, -⟩ := H2.out))
    have HP := Lib.hid (np_mk (a5 := a5) (q := q) H2.out (fun i hi => frozen_on HB2.out (show (⟨w.heap.size, i, none⟩ : Addr).block < w1.heap.size from World.block_lt_of_cell? w1 ⟨w.heap.size, 0, none⟩ H1.out.2.1.1) (frozen_on HB1.out (show (⟨w.heap.size, i, none⟩ : Addr).block < _ from World.block_lt_of_cell? _ ⟨w.heap.size, 0, none⟩ HA.out.2.1.1) (HF.out.1 i hi))) (r3_on HB2.out (r3_on HB1.out HF.out.2)) (blk_on HB2.out HG.out.1) HQ.out.1 ⟨HPS.out, by have := HG.out.2; simp at this; omega, by have a := HG.out.2; have b := HB1.out.size; have c := HQ.out.2; simp at a b; omega⟩)
    clear l6 k0 k1 k2
    refine start_ (n := 7) (S := fun w' => NP w p a5 q f n x w') (ds := [6]) #[false, false, false, false, false, false, false] (by kernel_rfl) rfl rfl (np_on (bl_drew (Below.refl _ _)) HP.out) (fun hHeld => ?_)
    refine take_ (i := 0) (N := some 30) (v := ?_) (a' := ?_) #[true, false, false, false, false, false, false] rfl rfl (by kernel_rfl) (fun _ _ _ h => h) (Or.inl ⟨by rfl, ?_⟩) hHeld ?_ ?_
    rotate_left
    · rintro w' ⟨s0, s1, s2, s3, s4, s5, s6, s7, s8, s9, s10, s11, s12, s13, s14, s15, s16, s17⟩
      go_simp
      with_reducible rfl
    rotate_left
    · simp only [Act.put, List.setIfInBounds_toArray, List.set_cons_zero, List.set_cons_succ, i64_w, i32_w]
      rfl
    refine take_ (i := 1) (N := some 31) (v := ?_) (a' := ?_) #[true, true, false, false, false, false, false] rfl rfl (by kernel_rfl) (fun _ _ _ h => h) (Or.inl ⟨by rfl, ?_⟩) hHeld ?_ ?_
    rotate_left
    · rintro w' ⟨s0, s1, s2, s3, s4, s5, s6, s7, s8, s9, s10, s11, s12, s13, s14, s15, s16, s17⟩
      go_simp
      with_reducible rfl
    rotate_left
    · simp only [Act.put, List.setIfInBounds_toArray, List.set_cons_zero, List.set_cons_succ, i64_w, i32_w]
      rfl
    refine one_ (i := 2) (N := some 32) #[true, true, true, false, false, false, false] rfl rfl (by kernel_rfl) (by decide) (fun K hK => ?_)
    refine goes_ Try.func48 (by kernel_rfl) rfl #[tmV n x] (by rfl) rfl rfl (by simp only [List.map_toArray, List.map_cons, List.map_nil]; rfl) ?_
    with_reducible refine (Nano_any n x _ h0 (by omega)).mono ?_
    rintro e w4 ⟨rfl, hb⟩
    refine ⟨_, rfl, ?_⟩
    refine hK.out _ _ (np_on hb hHeld) (fun hHeld => ?_)
    clear hK K
    refine norm_ (a' := ?_) ?_ ?_
    rotate_left
    · show Act.put _ (some 32) _ = _
      simp only [Act.put, List.setIfInBounds_toArray, List.set_cons_zero, List.set_cons_succ, i64_w, i32_w]
      rfl
    refine pure_ (i := 3) (N := some 33) (v := ?_) (a' := ?_) #[true, true, true, true, false, false, false] rfl rfl (by kernel_rfl) (fun _ _ _ h => h) (Or.inl ⟨by rfl, ?_⟩) ?_ ?_
    rotate_left
    · intro w'
      go_simp
      with_reducible rfl
    rotate_left
    · simp only [Act.put, List.setIfInBounds_toArray, List.set_cons_zero, List.set_cons_succ, i64_w, i32_w]
      rfl
    refine pure_ (i := 4) (N := some 34) (v := ?_) (a' := ?_) #[true, true, true, true, true, false, false] rfl rfl (by kernel_rfl) (fun _ _ _ h => h) (Or.inl ⟨by rfl, ?_⟩) ?_ ?_
    rotate_left
    · intro w'
      go_simp
      with_reducible rfl
    rotate_left
    · simp only [Act.put, List.setIfInBounds_toArray, List.set_cons_zero, List.set_cons_succ, i64_w, i32_w]
      rfl
    refine one_ (i := 5) (N := some 35) #[true, true, true, true, true, true, false] rfl rfl (by kernel_rfl) (by decide) (fun K hK => ?_)
    skip
    refine goes_ Try.func49 (by kernel_rfl) rfl #[tmV n x, .int .i64 (wrap64 (1000000000 - wrap64 n))] (by rfl) rfl rfl (by simp only [List.map_toArray, List.map_cons, List.map_nil]; rfl) ?_
    with_reducible refine (Add_all _ 1 n x _ (by rw [w64_id n (by omega) (by omega), w64_id _ (by omega) (by omega)]; omega) h0 h1 (by omega) (by omega) (by omega) (by omega)).mono ?_
    rintro e w4 ⟨rfl, hb⟩
    refine ⟨_, rfl, ?_⟩
    refine hK.out _ _ (np_on hb hHeld) (fun hHeld => ?_)
    clear hK K
    refine norm_ (a' := ?_) ?_ ?_
    rotate_left
    · show Act.put _ (some 35) _ = _
      simp only [Act.put, List.setIfInBounds_toArray, List.set_cons_zero, List.set_cons_succ, i64_w, i32_w]
      rfl
    refine last_ (i := 6) (N := none) #[true, true, true, true, true, true, true] rfl rfl (by kernel_rfl) (by decide) (fun K hK => ?_)
    have HL := hHeld
    obtain ⟨-, -, -, -, -, -, -, k0, k1, k2, z0, z1, z2, -⟩ := HL
    refine skip_ (w1 := ?_) (by rfl) rfl ?_ ?_
    rotate_left
    · go_simp
      rfl
    refine hK.out _ _ ?_
    clear hK K
    refine done_ (by kernel_rfl) ?_
    have HN := Lib.hid (np_set (y := x + 1) hHeld)
    obtain ⟨-, -, -, -, -, -, -, k0, k1, k2, -⟩ := HN.out
    clear hHeld
    obtain ⟨yb0, yb1, -⟩ := date_b (x + 1) (by omega) (by omega)
    go_wp2_with (go_at_call 88; refine (Year_any 0 (x + 1) _ (by omega) (by omega) (by omega) (by omega)).mono ?_; rintro e w8 ⟨rfl, hb⟩; have H8 := Lib.hid (nw_on hb HN.out); clear hb)
    go_step3
    rename_i hK
    refine hK _ _ ?_
    show Code.wp Try.prog (tlC nxR) _ _ _
    refine fr_q (R := fun a W => Code.wp Try.prog (tlC nxR) _ a W) (p := p) (T := w.heap.size) (a5 := a5) (q := q) (tv := tmV n x) (yl := Yx (x + 1) + 5) (ad := false) (by kernel_rfl) (fun u => ?_)
    have h8 := H8.out
    have e1 := HSZ.out
    have e2 := HLZ.out
    clear hK
    rw [e1] at h8
    rw [e1, e2]
    have hA8 : At f s l false s := ⟨Int.le_refl _, by omega, fun z z0 z1 => by omega, fun h => absurd h (by decide), by have := (by_iff s l (by omega)).1 (by omega); omega⟩
    refine nx_pass w p a5 q f (tmV n x) s l l1 _ ⟨u, false, s⟩ w8 h8 hA8 (fun u ad W' h hy => ?_) (fun u ad y W' h hI hf => ?_) (fun u y W' h hA2 hlt => ?_)
    · obtain ⟨j0, j1, j2⟩ := r3_get (n := 0) (x := 0) (nw_room h)
      have hb := nw_put 0 0 h
      change bodyPost Try.prog Try.f86 (fun e w' => (∃ r, e = Ending.returned (tmV 0 r) ∧ Finds f (x + 1) (Yx (x + 1) + 5) r) ∧ Below w.heap.size w w') Exit.ret _ _
      refine bodyPost_ret (v := tmV 0 0) ?_ rfl ⟨⟨0, rfl, ?_⟩, hb⟩
      · unfold FR
        simp [results, Try.results86, go_sem, j0, j1, j2]
      · rw [HSZ.out, HLZ.out]
        refine .inl ⟨rfl, fun z z0 z1 => hA8.none z z0 ?_⟩
        have hx0 : 0 ≤ s := by have := hA8.lo; have := hA8.s0; omega
        have hy2 : l < Yx s := hy
        have : ¬ s < BY l := fun c => by have := (by_iff s l hx0).2 c; omega
        omega
    · obtain ⟨j0, j1, j2⟩ := r3_get (n := 0) (x := y) (nw_room h)
      have hb := nw_put 0 y h
      change bodyPost Try.prog Try.f86 (fun e w' => (∃ r, e = Ending.returned (tmV 0 r) ∧ Finds f (x + 1) (Yx (x + 1) + 5) r) ∧ Below w.heap.size w w') Exit.ret _ _
      refine bodyPost_ret (v := tmV 0 y) ?_ rfl ⟨⟨y, rfl, ?_⟩, hb⟩
      · unfold FR
        simp [results, Try.results86, go_sem, j0, j1, j2]
      · rw [HSZ.out, HLZ.out]
        exact .inr ⟨hI.lo, hI.lt, hf, hI.none⟩
    · exact ⟨rfl, ⟨a5, q, ⟨u, true, y⟩, rfl, h, hA2⟩⟩
end Go.Proofs.Ytdgglkihiibmhaa
