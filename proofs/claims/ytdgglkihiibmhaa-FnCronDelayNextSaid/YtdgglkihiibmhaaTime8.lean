/-
  laws.FnCronDelayNext: it returns true.
-/
import Derived.Test.YtdgglkihiibmhaaTime7
import Derived.Test.YtdgglkihiibmhaaWLast
import Derived.Deep.Cut
set_option linter.unusedVariables false
set_option linter.unusedSimpArgs false
namespace Go.Proofs.Ytdgglkihiibmhaa
open Go Go.RowKit Go.Proofs.YtdgglkihiibmhaaW.PrintLast

theorem law_bad (d s n : Int) (w : World) (hg : (decide (-62135596800 ≤ s) && decide (s ≤ 253402300799) && decide (0 ≤ n) && decide (n < 1000000000)) = false) : Calls Try.prog 3 #[.int .i64 d, inV s n] w fun e w' => e = .returned (.bool true) ∧ Below w.heap.size w w' := by
  have HG := Lib.hid hg
  clear hg
  go_enter Try.func3, Try.ntmps3
  go_wp2_with (go_at_call 8; refine (good_any s n _).mono ?_; rintro e w1 ⟨he, hb1⟩; rw [HG.out] at he; subst he; have HB := Lib.hid (bl_on (bl_alloc (Below.refl _ _) _) hb1); clear hb1)
  go_ret
  exact ⟨rfl, HB.out⟩
abbrev E2 (w : World) (b : Nat) (D s n : Int) (W : World) : Prop :=
  (W.cell? ⟨w.heap.size, 0, none⟩ = some (.int .i64 s) ∧ W.cell? ⟨w.heap.size, 1, none⟩ = some (.int .i64 n)) ∧
  (W.cell? ⟨b, 0, none⟩ = some (.bool true) ∧ W.cell? ⟨b, 1, none⟩ = some (.int .i64 D) ∧ W.cell? ⟨b, 2, none⟩ = some (.int .u64 0) ∧ W.cell? ⟨b, 3, none⟩ = some (.int .u64 0) ∧ W.cell? ⟨b, 4, none⟩ = some (.int .u64 0) ∧ W.cell? ⟨b, 5, none⟩ = some (.int .u64 0) ∧ W.cell? ⟨b, 6, none⟩ = some (.int .u64 0) ∧ W.cell? ⟨b, 7, none⟩ = some (.int .u64 0)) ∧
  Hid (Below w.heap.size w W)
theorem e2_on {w : World} {b : Nat} {D s n : Int} {W W' : World} (hb : Below W.heap.size W W') (h : E2 w b D s n W) : E2 w b D s n W' := by
  obtain ⟨⟨h0, h1⟩, ⟨a0, a1, a2, a3, a4, a5, a6, a7⟩, hh⟩ := h
  exact ⟨⟨cell_on hb h0, cell_on hb h1⟩, ⟨cell_on hb a0, cell_on hb a1, cell_on hb a2, cell_on hb a3, cell_on hb a4, cell_on hb a5, cell_on hb a6, cell_on hb a7⟩, Lib.hid (bl_on hh.out hb)⟩
theorem e2_set {w : World} {b r : Nat} {D s n u v : Int} {W : World} (hr : w.heap.size < r) (hb : b < r) (h : E2 w b D s n W) : E2 w b D s n ((W.setCell ⟨r, 0, none⟩ (.int .i64 u)).setCell ⟨r, 1, none⟩ (.int .i64 v)) := by
  obtain ⟨⟨h0, h1⟩, ⟨a0, a1, a2, a3, a4, a5, a6, a7⟩, hh⟩ := h
  have o : w.heap.size ≠ r := by omega
  have p : b ≠ r := by omega
  exact ⟨⟨cell_room o h0, cell_room o h1⟩, ⟨cell_room p a0, cell_room p a1, cell_room p a2, cell_room p a3, cell_room p a4, cell_room p a5, cell_room p a6, cell_room p a7⟩, Lib.hid (bl_set (bl_set hh.out (by show _ ≤ r; omega) _) (by show _ ≤ r; omega) _)⟩
theorem e2_start {w w1 : World} {D s n : Int} (hb : Below (w.alloc (.cells #[.int .i64 s, .int .i64 n] 23)).heap.size (w.alloc (.cells #[.int .i64 s, .int .i64 n] 23)) w1) : E2 w w1.heap.size D s n (w1.alloc (.cells #[.bool true, .int .i64 D, .int .u64 0, .int .u64 0, .int .u64 0, .int .u64 0, .int .u64 0, .int .u64 0] 27)) := by
  have b1 := heap_old (o' := .cells #[.bool true, .int .i64 D, .int .u64 0, .int .u64 0, .int .u64 0, .int .u64 0, .int .u64 0, .int .u64 0] 27) (blk_on hb (heap_new0 w _ _ rfl))
  have b0 := heap_new0 w1 _ (.cells #[.bool true, .int .i64 D, .int .u64 0, .int .u64 0, .int .u64 0, .int .u64 0, .int .u64 0, .int .u64 0] 27) rfl
  exact ⟨⟨(blk_cell b1 0).trans rfl, (blk_cell b1 1).trans rfl⟩, ⟨(blk_cell b0 0).trans rfl, (blk_cell b0 1).trans rfl, (blk_cell b0 2).trans rfl, (blk_cell b0 3).trans rfl, (blk_cell b0 4).trans rfl, (blk_cell b0 5).trans rfl, (blk_cell b0 6).trans rfl, (blk_cell b0 7).trans rfl⟩, Lib.hid (bl_alloc (bl_on (bl_alloc (Below.refl _ _) _) hb) _)⟩
def T5 (w : World) (b r : Nat) (D q s n : Int) (w' : World) : Prop :=
  w'.cell? ⟨w.heap.size, 0, none⟩ = some (.int .i64 s) ∧ w'.cell? ⟨w.heap.size, 1, none⟩ = some (.int .i64 n) ∧ w'.cell? ⟨b, 0, none⟩ = some (.bool true) ∧ w'.cell? ⟨b, 1, none⟩ = some (.int .i64 D) ∧ w'.cell? ⟨b, 2, none⟩ = some (.int .u64 0) ∧ w'.cell? ⟨b, 3, none⟩ = some (.int .u64 0) ∧ w'.cell? ⟨b, 4, none⟩ = some (.int .u64 0) ∧ w'.cell? ⟨b, 5, none⟩ = some (.int .u64 0) ∧ w'.cell? ⟨b, 6, none⟩ = some (.int .u64 0) ∧ w'.cell? ⟨b, 7, none⟩ = some (.int .u64 0) ∧ w'.cell? ⟨r, 0, none⟩ = some (.int .i64 (s + q)) ∧ w'.cell? ⟨r, 1, none⟩ = some (.int .i64 0) ∧ Hid (Below w.heap.size w w')
theorem t5_on {w : World} {b r : Nat} {D q s n : Int} {W W' : World} (hb : Below W.heap.size W W') (h : T5 w b r D q s n W) : T5 w b r D q s n W' := by
  obtain ⟨a0, a1, a2, a3, a4, a5, a6, a7, a8, a9, a10, a11, a12⟩ := h
  exact ⟨cell_on hb a0, cell_on hb a1, cell_on hb a2, cell_on hb a3, cell_on hb a4, cell_on hb a5, cell_on hb a6, cell_on hb a7, cell_on hb a8, cell_on hb a9, cell_on hb a10, cell_on hb a11, Lib.hid (bl_on a12.out hb)⟩
theorem t5_mk {w : World} {b r : Nat} {D q s n : Int} {W : World} (h : E2 w b D s n W) (g : W.cell? ⟨r, 0, none⟩ = some (.int .i64 (s + q)) ∧ W.cell? ⟨r, 1, none⟩ = some (.int .i64 0)) : T5 w b r D q s n W :=
  ⟨h.1.1, h.1.2, h.2.1.1, h.2.1.2.1, h.2.1.2.2.1, h.2.1.2.2.2.1, h.2.1.2.2.2.2.1, h.2.1.2.2.2.2.2.1, h.2.1.2.2.2.2.2.2.1, h.2.1.2.2.2.2.2.2.2, g.1, g.2, h.2.2⟩
theorem t5_bel {w : World} {b r : Nat} {D q s n : Int} {W : World} (h : T5 w b r D q s n W) : Below w.heap.size w W := by
  obtain ⟨-, -, -, -, -, -, -, -, -, -, -, -, h⟩ := h
  exact h.out
theorem set2_get {r : Nat} {W : World} {s n u v : Int} (h : W.cell? ⟨r, 0, none⟩ = some (.int .i64 u)) (h' : W.cell? ⟨r, 1, none⟩ = some (.int .i64 v)) : ((W.setCell ⟨r, 0, none⟩ (.int .i64 s)).setCell ⟨r, 1, none⟩ (.int .i64 n)).cell? ⟨r, 0, none⟩ = some (.int .i64 s) ∧ ((W.setCell ⟨r, 0, none⟩ (.int .i64 s)).setCell ⟨r, 1, none⟩ (.int .i64 n)).cell? ⟨r, 1, none⟩ = some (.int .i64 n) := by
  constructor <;> go_simp
theorem before_true (s n s' n' : Int) (w : World) (h : s < s') : Calls Try.prog 13 #[inV s n, inV s' n'] w fun e w' => e = .returned (.bool true) ∧ Below w.heap.size w w' := by
  have h1 := before_any s n s' n' w
  rw [decide_eq_true h, Bool.true_or] at h1
  exact h1
set_option maxRecDepth 100000 in
set_option maxHeartbeats 8000000 in
theorem law_good (d D q s n : Int) (w : World) (hE : ∀ w, Calls Try.prog 9 #[.int .i64 d] w fun e w' => e = .returned (scV D) ∧ Below w.heap.size w w') (hD : D = 1000000000 * q) (q0 : 1 ≤ q) (q1 : q ≤ 9223372036) (h0 : 0 ≤ n) (h1 : n < 1000000000) (x0 : -62135596800 ≤ s) (x1 : s ≤ 253402300799) : Calls Try.prog 3 #[.int .i64 d, inV s n] w fun e w' => e = .returned (.bool true) ∧ Below w.heap.size w w' := by
  have HG := Lib.hid (show (decide (-62135596800 ≤ s) && decide (s ≤ 253402300799) && decide (0 ≤ n) && decide (n < 1000000000)) = true by simp; omega)
  have HE := Lib.hid hE
  have HD := Lib.hid hD
  clear hE hD
  go_enter Try.func3, Try.ntmps3
  go_wp2_with (first
    | (go_at_call 8; refine (good_any s n _).mono ?_; rintro e w1 ⟨he, hb1⟩; rw [HG.out] at he; subst he)
    | (go_at_call 9; refine (HE.out _).mono ?_; rintro e w2 ⟨rfl, hb2⟩; have H2 := Lib.hid (e2_start (D := D) (bl_on hb1 hb2)); have HS := Lib.hid (show w.heap.size + 1 ≤ w2.heap.size by have h8 := (bl_on hb1 hb2).size; simpa using h8); clear hb1 hb2))
  go_region_held3 (fun W => E2 w w2.heap.size D s n W) (first | assumption | exact e2_on (bl_drew (Below.refl _ _)) H2.out | exact e2_on hb4 (by assumption) | exact e2_on hb3 (by assumption) | exact e2_on (bl_alloc (Below.refl _ _) _) (by assumption) | exact e2_on (bl_alloc (Below.refl _ _) _) (e2_on hb4 (e2_on hb3 (e2_on (bl_drew (Below.refl _ _)) H2.out))) | exact e2_set (by have h8 := HS.out; have h9 := hb3.size; simp at h9; omega) (by have h8 := HS.out; have h9 := hb3.size; simp at h9; omega) (by assumption) | fail) (first
    | (go_at_call 11; refine (cronUTC_any _).mono ?_; rintro e w3 ⟨rfl, hb3⟩; try (have HK := blk_on hb3 (heap_new0 _ (w2.heap.size + 1) (.cells #[.int .i64 0, .int .i64 0] 23) (by simp)); obtain ⟨r0, r1, f0, f1⟩ := res2 HK))
    | (go_at_call 10; refine (next_any D q s n _ HD.out q0 q1 h0 h1 x0 x1).mono ?_; rintro e w4 ⟨rfl, hb4⟩; first | (have HK := blk_on hb4 (heap_new0 _ w3.heap.size (.cells #[.int .i64 0, .int .i64 0] 23) rfl); obtain ⟨r0, r1, f0, f1⟩ := res2 HK) | (have HK := blk_on hb4 HK; obtain ⟨r0, r1, f0, f1⟩ := res2 HK) | skip))
  all_goals
    rename_i hH
    first
      | (have F := t5_mk hH (set2_get (r := w3.heap.size) (s := s + q) (n := 0) r0 r1); clear hH HK r0 r1 f0 f1 hb3 hb4; generalize ((w4.setCell ⟨w3.heap.size, 0, none⟩ (.int .i64 (s + q))).setCell ⟨w3.heap.size, 1, none⟩ (.int .i64 0)) = W at F ⊢; generalize w3.heap.size = r at F ⊢)
      | (have F := t5_mk hH (set2_get (r := w2.heap.size + 1) (s := s + q) (n := 0) r0 r1); clear hH HK r0 r1 f0 f1 hb3 hb4; generalize ((w4.setCell ⟨w2.heap.size + 1, 0, none⟩ (.int .i64 (s + q))).setCell ⟨w2.heap.size + 1, 1, none⟩ (.int .i64 0)) = W at F ⊢; generalize w2.heap.size + 1 = r at F ⊢)
      | (have hk := res2 (heap_new0 w4 _ (.cells #[.int .i64 (s + q), .int .i64 0] 23) rfl); have F := t5_mk hH ⟨hk.1, hk.2.1⟩; clear hk hH hb3 hb4; generalize w4.alloc (.cells #[.int .i64 (s + q), .int .i64 0] 23) = W at F ⊢; generalize w4.heap.size = r at F ⊢)
      | fail
    generalize w2.heap.size = b at F ⊢
    have HT := Lib.hid F
    clear F
    go_upto_region 5 with fail
    refine start_ (n := 23) (S := fun w' => T5 w b r D q s n w') (ds := []) #[false, false, false, false, false, false, false, false, false, false, false, false, false, false, false, false, false, false, false, false, false, false, false] (by kernel_rfl) rfl rfl (t5_on (bl_drew (Below.refl _ _)) HT.out) (fun hHeld => ?_)
    refine pure_ (i := 0) (N := some 20) (v := ?_) (a' := ?_) #[true, false, false, false, false, false, false, false, false, false, false, false, false, false, false, false, false, false, false, false, false, false, false] rfl rfl (by kernel_rfl) (fun _ _ _ h => h) (Or.inl ⟨by rfl, ?_⟩) ?_ ?_
    rotate_left
    · intro w'
      go_simp
      with_reducible rfl
    rotate_left
    · simp only [Act.put, List.setIfInBounds_toArray, List.set_cons_zero, List.set_cons_succ, i64_w, i32_w]
      rfl
    refine pure_ (i := 1) (N := some 21) (v := ?_) (a' := ?_) #[true, true, false, false, false, false, false, false, false, false, false, false, false, false, false, false, false, false, false, false, false, false, false] rfl rfl (by kernel_rfl) (fun _ _ _ h => h) (Or.inl ⟨by rfl, ?_⟩) ?_ ?_
    rotate_left
    · intro w'
      go_simp
      with_reducible rfl
    rotate_left
    · simp only [Act.put, List.setIfInBounds_toArray, List.set_cons_zero, List.set_cons_succ, i64_w, i32_w]
      rfl
    refine pure_ (i := 3) (N := some 23) (v := ?_) (a' := ?_) #[true, true, false, true, false, false, false, false, false, false, false, false, false, false, false, false, false, false, false, false, false, false, false] rfl rfl (by kernel_rfl) (fun _ _ _ h => h) (Or.inl ⟨by rfl, ?_⟩) ?_ ?_
    rotate_left
    · intro w'
      go_simp
      with_reducible rfl
    rotate_left
    · simp only [Act.put, List.setIfInBounds_toArray, List.set_cons_zero, List.set_cons_succ, i64_w, i32_w]
      rfl
    refine take_ (i := 2) (N := some 22) (v := ?_) (a' := ?_) #[true, true, true, true, false, false, false, false, false, false, false, false, false, false, false, false, false, false, false, false, false, false, false] rfl rfl (by kernel_rfl) (fun _ _ _ h => h) (Or.inl ⟨by rfl, ?_⟩) hHeld ?_ ?_
    rotate_left
    · rintro w' ⟨s0, s1, s2, s3, s4, s5, s6, s7, s8, s9, s10, s11, s12⟩
      go_simp
      with_reducible rfl
    rotate_left
    · simp only [Act.put, List.setIfInBounds_toArray, List.set_cons_zero, List.set_cons_succ, i64_w, i32_w]
      rfl
    refine take_ (i := 4) (N := some 24) (v := ?_) (a' := ?_) #[true, true, true, true, true, false, false, false, false, false, false, false, false, false, false, false, false, false, false, false, false, false, false] rfl rfl (by kernel_rfl) (fun _ _ _ h => h) (Or.inl ⟨by rfl, ?_⟩) hHeld ?_ ?_
    rotate_left
    · rintro w' ⟨s0, s1, s2, s3, s4, s5, s6, s7, s8, s9, s10, s11, s12⟩
      go_simp
      with_reducible rfl
    rotate_left
    · simp only [Act.put, List.setIfInBounds_toArray, List.set_cons_zero, List.set_cons_succ, i64_w, i32_w]
      rfl
    refine take_ (i := 5) (N := some 25) (v := ?_) (a' := ?_) #[true, true, true, true, true, true, false, false, false, false, false, false, false, false, false, false, false, false, false, false, false, false, false] rfl rfl (by kernel_rfl) (fun _ _ _ h => h) (Or.inl ⟨by rfl, ?_⟩) hHeld ?_ ?_
    rotate_left
    · rintro w' ⟨s0, s1, s2, s3, s4, s5, s6, s7, s8, s9, s10, s11, s12⟩
      go_simp
      with_reducible rfl
    rotate_left
    · simp only [Act.put, List.setIfInBounds_toArray, List.set_cons_zero, List.set_cons_succ, i64_w, i32_w]
      rfl
    refine one_ (i := 6) (N := some 26) #[true, true, true, true, true, true, true, false, false, false, false, false, false, false, false, false, false, false, false, false, false, false, false] rfl rfl (by kernel_rfl) (by decide) (fun K hK => ?_)
    refine goes_ Try.func12 (by kernel_rfl) rfl #[.int .i64 D, .agg #[.int .i64 s, .int .i64 n]] (by rfl) rfl rfl (by simp only [List.map_toArray, List.map_cons, List.map_nil]; rfl) ?_
    with_reducible refine (specNext_any D q s n _ HD.out q0 q1 (by omega) (by omega)).mono ?_
    rintro e w3 ⟨rfl, hb⟩
    refine ⟨_, rfl, ?_⟩
    refine hK.out _ _ (t5_on hb hHeld) (fun hHeld => ?_)
    clear hK K
    refine norm_ (a' := ?_) ?_ ?_
    rotate_left
    · show Act.put _ (some 26) _ = _
      simp only [Act.put, List.setIfInBounds_toArray, List.set_cons_zero, List.set_cons_succ, i64_w, i32_w]
      rfl
    refine pure_ (i := 7) (N := some 27) (v := ?_) (a' := ?_) #[true, true, true, true, true, true, true, true, false, false, false, false, false, false, false, false, false, false, false, false, false, false, false] rfl rfl (by kernel_rfl) (fun _ _ _ h => h) (Or.inl ⟨by rfl, ?_⟩) ?_ ?_
    rotate_left
    · intro w'
      go_simp
      with_reducible rfl
    rotate_left
    · simp only [Act.put, List.setIfInBounds_toArray, List.set_cons_zero, List.set_cons_succ, i64_w, i32_w]
      rfl
    refine pure_ (i := 8) (N := some 28) (v := ?_) (a' := ?_) #[true, true, true, true, true, true, true, true, true, false, false, false, false, false, false, false, false, false, false, false, false, false, false] rfl rfl (by kernel_rfl) (fun _ _ _ h => h) (Or.inl ⟨by rfl, ?_⟩) ?_ ?_
    rotate_left
    · intro w'
      go_simp
      with_reducible rfl
    rotate_left
    · simp only [Act.put, List.setIfInBounds_toArray, List.set_cons_zero, List.set_cons_succ, i64_w, i32_w]
      rfl
    refine pure_ (i := 9) (N := some 29) (v := ?_) (a' := ?_) #[true, true, true, true, true, true, true, true, true, true, false, false, false, false, false, false, false, false, false, false, false, false, false] rfl rfl (by kernel_rfl) (fun _ _ _ h => h) (Or.inl ⟨by rfl, ?_⟩) ?_ ?_
    rotate_left
    · intro w'
      go_simp
      with_reducible rfl
    rotate_left
    · simp only [Act.put, List.setIfInBounds_toArray, List.set_cons_zero, List.set_cons_succ, i64_w, i32_w]
      rfl
    refine take_ (i := 10) (N := some 30) (v := ?_) (a' := ?_) #[true, true, true, true, true, true, true, true, true, true, true, false, false, false, false, false, false, false, false, false, false, false, false] rfl rfl (by kernel_rfl) (fun _ _ _ h => h) (Or.inl ⟨by rfl, ?_⟩) hHeld ?_ ?_
    rotate_left
    · rintro w' ⟨s0, s1, s2, s3, s4, s5, s6, s7, s8, s9, s10, s11, s12⟩
      go_simp
      with_reducible rfl
    rotate_left
    · simp only [Act.put, List.setIfInBounds_toArray, List.set_cons_zero, List.set_cons_succ, i64_w, i32_w]
      rfl
    refine take_ (i := 11) (N := some 31) (v := ?_) (a' := ?_) #[true, true, true, true, true, true, true, true, true, true, true, true, false, false, false, false, false, false, false, false, false, false, false] rfl rfl (by kernel_rfl) (fun _ _ _ h => h) (Or.inl ⟨by rfl, ?_⟩) hHeld ?_ ?_
    rotate_left
    · rintro w' ⟨s0, s1, s2, s3, s4, s5, s6, s7, s8, s9, s10, s11, s12⟩
      go_simp
      with_reducible rfl
    rotate_left
    · simp only [Act.put, List.setIfInBounds_toArray, List.set_cons_zero, List.set_cons_succ, i64_w, i32_w]
      rfl
    refine one_ (i := 12) (N := some 32) #[true, true, true, true, true, true, true, true, true, true, true, true, true, false, false, false, false, false, false, false, false, false, false] rfl rfl (by kernel_rfl) (by decide) (fun K hK => ?_)
    refine goes_ Try.func13 (by kernel_rfl) rfl #[.agg #[.int .i64 s, .int .i64 n], .agg #[.int .i64 (s + q), .int .i64 0]] (by rfl) rfl rfl (by simp only [List.map_toArray, List.map_cons, List.map_nil]; rfl) ?_
    with_reducible refine (before_true s n (s + q) 0 _ (by omega)).mono ?_
    rintro e w3 ⟨rfl, hb⟩
    refine ⟨_, rfl, ?_⟩
    refine hK.out _ _ (t5_on hb hHeld) (fun hHeld => ?_)
    clear hK K
    refine norm_ (a' := ?_) ?_ ?_
    rotate_left
    · show Act.put _ (some 32) _ = _
      simp only [Act.put, List.setIfInBounds_toArray, List.set_cons_zero, List.set_cons_succ, i64_w, i32_w]
      rfl
    refine pure_ (i := 13) (N := some 33) (v := ?_) (a' := ?_) #[true, true, true, true, true, true, true, true, true, true, true, true, true, true, false, false, false, false, false, false, false, false, false] rfl rfl (by kernel_rfl) (fun _ _ _ h => h) (Or.inl ⟨by rfl, ?_⟩) ?_ ?_
    rotate_left
    · intro w'
      go_simp
      with_reducible rfl
    rotate_left
    · simp only [Act.put, List.setIfInBounds_toArray, List.set_cons_zero, List.set_cons_succ, i64_w, i32_w]
      rfl
    refine pure_ (i := 14) (N := some 34) (v := ?_) (a' := ?_) #[true, true, true, true, true, true, true, true, true, true, true, true, true, true, true, false, false, false, false, false, false, false, false] rfl rfl (by kernel_rfl) (fun _ _ _ h => h) (Or.inl ⟨by rfl, ?_⟩) ?_ ?_
    rotate_left
    · intro w'
      go_simp
      with_reducible rfl
    rotate_left
    · simp only [Act.put, List.setIfInBounds_toArray, List.set_cons_zero, List.set_cons_succ, i64_w, i32_w]
      rfl
    refine pure_ (i := 16) (N := some 36) (v := ?_) (a' := ?_) #[true, true, true, true, true, true, true, true, true, true, true, true, true, true, true, false, true, false, false, false, false, false, false] rfl rfl (by kernel_rfl) (fun _ _ _ h => h) (Or.inl ⟨by rfl, ?_⟩) ?_ ?_
    rotate_left
    · intro w'
      go_simp
      with_reducible rfl
    rotate_left
    · simp only [Act.put, List.setIfInBounds_toArray, List.set_cons_zero, List.set_cons_succ, i64_w, i32_w]
      rfl
    refine take_ (i := 15) (N := some 35) (v := ?_) (a' := ?_) #[true, true, true, true, true, true, true, true, true, true, true, true, true, true, true, true, true, false, false, false, false, false, false] rfl rfl (by kernel_rfl) (fun _ _ _ h => h) (Or.inl ⟨by rfl, ?_⟩) hHeld ?_ ?_
    rotate_left
    · rintro w' ⟨s0, s1, s2, s3, s4, s5, s6, s7, s8, s9, s10, s11, s12⟩
      go_simp
      with_reducible rfl
    rotate_left
    · simp only [Act.put, List.setIfInBounds_toArray, List.set_cons_zero, List.set_cons_succ, i64_w, i32_w]
      rfl
    refine take_ (i := 17) (N := some 37) (v := ?_) (a' := ?_) #[true, true, true, true, true, true, true, true, true, true, true, true, true, true, true, true, true, true, false, false, false, false, false] rfl rfl (by kernel_rfl) (fun _ _ _ h => h) (Or.inl ⟨by rfl, ?_⟩) hHeld ?_ ?_
    rotate_left
    · rintro w' ⟨s0, s1, s2, s3, s4, s5, s6, s7, s8, s9, s10, s11, s12⟩
      go_simp
      with_reducible rfl
    rotate_left
    · simp only [Act.put, List.setIfInBounds_toArray, List.set_cons_zero, List.set_cons_succ, i64_w, i32_w]
      rfl
    refine take_ (i := 18) (N := some 38) (v := ?_) (a' := ?_) #[true, true, true, true, true, true, true, true, true, true, true, true, true, true, true, true, true, true, true, false, false, false, false] rfl rfl (by kernel_rfl) (fun _ _ _ h => h) (Or.inl ⟨by rfl, ?_⟩) hHeld ?_ ?_
    rotate_left
    · rintro w' ⟨s0, s1, s2, s3, s4, s5, s6, s7, s8, s9, s10, s11, s12⟩
      go_simp
      with_reducible rfl
    rotate_left
    · simp only [Act.put, List.setIfInBounds_toArray, List.set_cons_zero, List.set_cons_succ, i64_w, i32_w]
      rfl
    refine one_ (i := 19) (N := some 39) #[true, true, true, true, true, true, true, true, true, true, true, true, true, true, true, true, true, true, true, true, false, false, false] rfl rfl (by kernel_rfl) (by decide) (fun K hK => ?_)
    refine goes_ Try.func14 (by kernel_rfl) rfl #[.int .i64 D, .agg #[.int .i64 s, .int .i64 n]] (by rfl) rfl rfl (by simp only [List.map_toArray, List.map_cons, List.map_nil]; rfl) ?_
    with_reducible refine (implDelay_any D q s n _ HD.out q0 q1 h0 h1 x0 x1).mono ?_
    rintro e w3 ⟨rfl, hb⟩
    refine ⟨_, rfl, ?_⟩
    refine hK.out _ _ (t5_on hb hHeld) (fun hHeld => ?_)
    clear hK K
    refine norm_ (a' := ?_) ?_ ?_
    rotate_left
    · show Act.put _ (some 39) _ = _
      simp only [Act.put, List.setIfInBounds_toArray, List.set_cons_zero, List.set_cons_succ, i64_w, i32_w]
      rfl
    refine pure_ (i := 20) (N := some 40) (v := ?_) (a' := ?_) #[true, true, true, true, true, true, true, true, true, true, true, true, true, true, true, true, true, true, true, true, true, false, false] rfl rfl (by kernel_rfl) (fun _ _ _ h => h) (Or.inl ⟨by rfl, ?_⟩) ?_ ?_
    rotate_left
    · intro w'
      go_simp
      with_reducible rfl
    rotate_left
    · simp only [Act.put, List.setIfInBounds_toArray, List.set_cons_zero, List.set_cons_succ, i64_w, i32_w]
      rfl
    refine pure_ (i := 21) (N := some 41) (v := ?_) (a' := ?_) #[true, true, true, true, true, true, true, true, true, true, true, true, true, true, true, true, true, true, true, true, true, true, false] rfl rfl (by kernel_rfl) (fun _ _ _ h => h) (Or.inl ⟨by rfl, ?_⟩) ?_ ?_
    rotate_left
    · intro w'
      go_simp
      with_reducible rfl
    rotate_left
    · simp only [Act.put, List.setIfInBounds_toArray, List.set_cons_zero, List.set_cons_succ, i64_w, i32_w]
      rfl
    refine pure_ (i := 22) (N := some 4) (v := ?_) (a' := ?_) #[true, true, true, true, true, true, true, true, true, true, true, true, true, true, true, true, true, true, true, true, true, true, true] rfl rfl (by kernel_rfl) (fun _ _ _ h => h) (Or.inl ⟨by rfl, ?_⟩) ?_ ?_
    rotate_left
    · intro w'
      go_simp
      with_reducible rfl
    rotate_left
    · simp only [Act.put, List.setIfInBounds_toArray, List.set_cons_zero, List.set_cons_succ, i64_w, i32_w]
      rfl
    refine done_ (by kernel_rfl) ?_
    go_wp2
    go_ret
    exact ⟨rfl, t5_bel hHeld⟩
theorem law_any (d s n : Int) (w : World) (d0 : -9223372036854775808 ≤ d) (d1 : d ≤ 9223372036854775807) : Calls Try.prog 3 #[.int .i64 d, inV s n] w fun e w' => e = .returned (.bool true) ∧ Below w.heap.size w w' := by
  cases hg : (decide (-62135596800 ≤ s) && decide (s ≤ 253402300799) && decide (0 ≤ n) && decide (n < 1000000000))
  · exact law_bad d s n w hg
  · simp only [Bool.and_eq_true, decide_eq_true_eq] at hg
    obtain ⟨⟨⟨g0, g1⟩, g2⟩, g3⟩ := hg
    by_cases h : d < 1000000000
    · exact law_good d 1000000000 1 s n w (fun w => every_any0 d w h d0) (by omega) (by omega) (by omega) g2 g3 g0 g1
    · exact law_good d (d - d.tmod 1000000000) (d / 1000000000) s n w (fun w => every_any1 d _ w (by omega) d1 rfl (by rw [Int.tmod_eq_emod_of_nonneg (by omega)]; omega) (by rw [Int.tmod_eq_emod_of_nonneg (by omega)]; omega)) (by rw [Int.tmod_eq_emod_of_nonneg (by omega)]; omega) (by omega) (by omega) g2 g3 g0 g1
end Go.Proofs.Ytdgglkihiibmhaa
