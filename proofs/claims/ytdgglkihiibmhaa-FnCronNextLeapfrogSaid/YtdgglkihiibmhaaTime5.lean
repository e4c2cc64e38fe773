/-
  A constant delay's next time; the functions of impl over it.
-/
import Derived.Test.YtdgglkihiibmhaaTime3
import Derived.Test.YtdgglkihiibmhaaTime4
set_option linter.unusedVariables false
set_option linter.unusedSimpArgs false
namespace Go.Proofs.Ytdgglkihiibmhaa
open Go Go.RowKit

theorem Add_all (D q n x : Int) (w : World) (hD : D = 1000000000 * q - n) (n0 : 0 ≤ n) (n1 : n < 1000000000) (q0 : 1 ≤ q) (q1 : q ≤ 9223372036) (x0 : -4611686018427387904 ≤ x) (x1 : x ≤ 4611686018427387904) : Calls Try.prog 49 #[tmV n x, .int .i64 D] w fun e w' => e = .returned (tmV 0 (x + q)) ∧ Below w.heap.size w w' := by
  by_cases h : n = 0
  · subst h
    exact Add_any0 D q x w (by omega) q0 q1 x0 x1
  · exact Add_any1 D q n x w hD (by omega) n1 q0 q1 x0 x1
theorem plain_at (n x y : Int) (w : World) (hy : y = x + -62135596800) (h0 : 0 ≤ n) (h1 : n < 1073741824) (x0 : -4611686018427387904 ≤ x) (x1 : x ≤ 4611686018427387904) : Calls Try.prog 29 #[tmV n x] w fun e w' => e = .returned (inV y n) ∧ Below w.heap.size w w' := by
  subst hy
  exact plain_any n x w h0 h1 x0 x1
/-- a time's room -/
abbrev R3 (r : Nat) (W : World) : Prop := W.cell? ⟨r, 0, none⟩ = some (.int .u64 (i0 W ⟨r, 0, none⟩)) ∧ W.cell? ⟨r, 1, none⟩ = some (.int .i64 (i0 W ⟨r, 1, none⟩)) ∧ W.cell? ⟨r, 2, none⟩ = some (.pointer none) ∧ W.frozen? ⟨r, 0, none⟩ = false ∧ W.frozen? ⟨r, 1, none⟩ = false ∧ W.frozen? ⟨r, 2, none⟩ = false
abbrev put3 (W : World) (r : Nat) (n x : Int) : World := ((W.setCell ⟨r, 0, none⟩ (.int .u64 n)).setCell ⟨r, 1, none⟩ (.int .i64 x)).setCell ⟨r, 2, none⟩ (.pointer none)
theorem r3_on {r : Nat} {W W' : World} (hb : Below W.heap.size W W') (h : R3 r W) : R3 r W' := by
  obtain ⟨h3, h4, h5, f0, f1, f2⟩ := h
  exact ⟨i0_of (cell_on hb h3), i0_of (cell_on hb h4), cell_on hb h5, frozen_on hb (World.block_lt_of_cell? _ _ h3) f0, frozen_on hb (World.block_lt_of_cell? _ _ h4) f1, frozen_on hb (World.block_lt_of_cell? _ _ h5) f2⟩
theorem r3_set {r : Nat} {W : World} {n x : Int} (h : R3 r W) : R3 r (put3 W r n x) := by
  obtain ⟨h3, h4, h5, f0, f1, f2⟩ := h
  refine ⟨i0_of (k := .u64) (v := n) ?_, i0_of (k := .i64) (v := x) ?_, ?_, ?_, ?_, ?_⟩ <;> go_simp
theorem r3_get {r : Nat} {W : World} {n x : Int} (h : R3 r W) : (put3 W r n x).cell? ⟨r, 0, none⟩ = some (.int .u64 n) ∧ (put3 W r n x).cell? ⟨r, 1, none⟩ = some (.int .i64 x) ∧ (put3 W r n x).cell? ⟨r, 2, none⟩ = some (.pointer none) := by
  obtain ⟨h3, h4, h5, f0, f1, f2⟩ := h
  refine ⟨?_, ?_, ?_⟩ <;> go_simp
theorem cell_room3 {r : Nat} {x : Addr} {v : Value} {W : World} {n s : Int} (hne : x.block ≠ r) (h : W.cell? x = some v) : (put3 W r n s).cell? x = some v := by
  unfold put3
  rw [World.cell?_setCell_other _ _ _ _ (by rintro rfl; exact hne rfl), World.cell?_setCell_other _ _ _ _ (by rintro rfl; exact hne rfl), World.cell?_setCell_other _ _ _ _ (by rintro rfl; exact hne rfl)]; exact h
abbrev C3 (w : World) (d n x : Int) (W : World) : Prop := W.cell? ⟨w.heap.size, 0, none⟩ = some (.int .i64 d) ∧ W.cell? ⟨w.heap.size + 1, 0, none⟩ = some (.int .u64 n) ∧ W.cell? ⟨w.heap.size + 1, 1, none⟩ = some (.int .i64 x) ∧ W.cell? ⟨w.heap.size + 1, 2, none⟩ = some (.pointer none) ∧ R3 (w.heap.size + 1 + 1) W ∧ Hid (Below w.heap.size w W)
theorem c3_on {w : World} {d n x : Int} {W W' : World} (hb : Below W.heap.size W W') (h : C3 w d n x W) : C3 w d n x W' := by
  obtain ⟨h, h0, h1, h2, h3, hh⟩ := h
  exact ⟨cell_on hb h, cell_on hb h0, cell_on hb h1, cell_on hb h2, r3_on hb h3, Lib.hid (bl_on hh.out hb)⟩
theorem c3_set {w : World} {d n x m y : Int} {W : World} (h : C3 w d n x W) : C3 w d n x (put3 W (w.heap.size + 1 + 1) m y) := by
  obtain ⟨h, h0, h1, h2, h3, hh⟩ := h
  exact ⟨cell_room3 (by simp; omega) h, cell_room3 (by simp) h0, cell_room3 (by simp) h1, cell_room3 (by simp) h2, r3_set h3, Lib.hid (bl_set (bl_set (bl_set hh.out (Nat.le_add_right _ 2) _) (Nat.le_add_right _ 2) _) (Nat.le_add_right _ 2) _)⟩
theorem c3_start (w : World) (d n x : Int) : C3 w d n x (((w.alloc (.cells #[.int .i64 d] 61)).alloc (.cells #[.int .u64 n, .int .i64 x, .pointer none] 66)).alloc (.cells #[.int .u64 0, .int .i64 0, .pointer none] 66)) := by
  have k : (((w.alloc (.cells #[.int .i64 d] 61)).alloc (.cells #[.int .u64 n, .int .i64 x, .pointer none] 66)).alloc (.cells #[.int .u64 0, .int .i64 0, .pointer none] 66)).cell? ⟨w.heap.size, 0, none⟩ = some (.int .i64 d) := (blk_cell (heap_old (heap_old (heap_new0 w _ _ rfl))) 0).trans rfl
  obtain ⟨k0, k1, k2, -⟩ := res3 (w := ((w.alloc (.cells #[.int .i64 d] 61)).alloc (.cells #[.int .u64 n, .int .i64 x, .pointer none] 66)).alloc (.cells #[.int .u64 0, .int .i64 0, .pointer none] 66)) (g := w.heap.size + 1) (heap_old (heap_new0 _ _ _ (by simp)))
  obtain ⟨k3, k4, k5, f3, f4, f5⟩ := res3 (w := ((w.alloc (.cells #[.int .i64 d] 61)).alloc (.cells #[.int .u64 n, .int .i64 x, .pointer none] 66)).alloc (.cells #[.int .u64 0, .int .i64 0, .pointer none] 66)) (g := w.heap.size + 1 + 1) (heap_new0 _ _ _ (by simp))
  exact ⟨k, k0, k1, k2, ⟨i0_of k3, i0_of k4, k5, f3, f4, f5⟩, Lib.hid (by repeat (first | exact Below.refl _ _ | apply bl_alloc))⟩
set_option maxHeartbeats 4000000 in
theorem delayNext_any (d q n x : Int) (w : World) (hd : d = 1000000000 * q) (q0 : 1 ≤ q) (q1 : q ≤ 9223372036) (h0 : 0 ≤ n) (h1 : n < 1000000000) (x0 : -4611686018427387904 ≤ x) (x1 : x ≤ 4611686018427387904) : Calls Try.prog 30 #[.agg #[.int .i64 d], tmV n x] w fun e w' => e = .returned (tmV 0 (x + q)) ∧ Below w.heap.size w w' := by
  have HB := Lib.hid (c3_start w d n x)
  have d0 : 1000000000 ≤ d := by omega
  have d1 : d ≤ 9223372036000000000 := by omega
  have HD := Lib.hid hd
  clear hd
  go_enter Try.func30, Try.ntmps30
  go_wp2_with fail
  first | go_region_held3 (fun W => C3 w d n x W) (first | assumption | exact c3_on (bl_drew (Below.refl _ _)) HB.out | (refine c3_on (by assumption) ?_; first | assumption | exact c3_on (bl_drew (Below.refl _ _)) HB.out) | (refine c3_set ?_; assumption)) (first
    | (go_at_call 48; refine (Nano_any n x _ h0 (by omega)).mono ?_; rintro e w1 ⟨rfl, hb1⟩)
    | (go_at_call 49; refine (Add_all _ q n x _ (by have := HD.out; rw [IntWalk.i64_in n (by omega), IntWalk.i64_in _ (by omega)]; omega) h0 h1 q0 q1 x0 x1).mono ?_; rintro e w2 ⟨rfl, hb2⟩)) | fail
  all_goals
    have HZ := Lib.hid (c3_on hb2 (c3_on hb1 (c3_on (bl_drew (Below.refl _ _)) HB.out)))
    obtain ⟨q0, q1, q2⟩ := r3_get (n := 0) (x := x + q) HZ.out.2.2.2.2.1
    have HB3 := Lib.hid (c3_set (m := 0) (y := x + q) HZ.out).2.2.2.2.2.out
    rename_i hH
    clear hH hb1 hb2
    go_wp2_with fail
    refine bodyPost_ret (v := tmV 0 (x + q)) (by simp [results, Try.results30, go_sem, q0, q1, q2]) rfl ⟨rfl, HB3.out⟩
end Go.Proofs.Ytdgglkihiibmhaa
