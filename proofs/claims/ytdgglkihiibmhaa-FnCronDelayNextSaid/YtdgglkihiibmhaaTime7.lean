/-
  impl.Next at a constant delay, where no zone is told.
-/
import Derived.Test.YtdgglkihiibmhaaTime6
set_option linter.unusedVariables false
set_option linter.unusedSimpArgs false
namespace Go.Proofs.Ytdgglkihiibmhaa
open Go Go.RowKit

abbrev N2 (w : World) (d s n : Int) (W : World) : Prop :=
  (W.cell? ⟨w.heap.size, 0, none⟩ = some (.bool true) ∧ W.cell? ⟨w.heap.size, 1, none⟩ = some (.int .i64 d) ∧ W.cell? ⟨w.heap.size, 2, none⟩ = some (.int .u64 0) ∧ W.cell? ⟨w.heap.size, 3, none⟩ = some (.int .u64 0) ∧ W.cell? ⟨w.heap.size, 4, none⟩ = some (.int .u64 0) ∧ W.cell? ⟨w.heap.size, 5, none⟩ = some (.int .u64 0) ∧ W.cell? ⟨w.heap.size, 6, none⟩ = some (.int .u64 0) ∧ W.cell? ⟨w.heap.size, 7, none⟩ = some (.int .u64 0)) ∧
  (W.cell? ⟨w.heap.size + 1, 0, none⟩ = some (.int .i64 s) ∧ W.cell? ⟨w.heap.size + 1, 1, none⟩ = some (.int .i64 n)) ∧
  (W.cell? ⟨w.heap.size + 1 + 1, 0, none⟩ = some (.slice none 0 0) ∧ W.cell? ⟨w.heap.size + 1 + 1, 1, none⟩ = some (.slice none 0 0) ∧ W.cell? ⟨w.heap.size + 1 + 1, 2, none⟩ = some (.slice none 0 0) ∧ W.cell? ⟨w.heap.size + 1 + 1, 3, none⟩ = some (.slice none 0 0)) ∧
  R2 (w.heap.size + 1 + 1 + 1) W ∧ Hid (Below w.heap.size w W)
theorem n2_on {w : World} {d n x : Int} {W W' : World} (hb : Below W.heap.size W W') (h : N2 w d n x W) : N2 w d n x W' := by
  obtain ⟨⟨a0, a1, a2, a3, a4, a5, a6, a7⟩, ⟨h0, h1⟩, ⟨z0, z1, z2, z3⟩, h3, hh⟩ := h
  exact ⟨⟨cell_on hb a0, cell_on hb a1, cell_on hb a2, cell_on hb a3, cell_on hb a4, cell_on hb a5, cell_on hb a6, cell_on hb a7⟩, ⟨cell_on hb h0, cell_on hb h1⟩, ⟨cell_on hb z0, cell_on hb z1, cell_on hb z2, cell_on hb z3⟩, r2_on hb h3, Lib.hid (bl_on hh.out hb)⟩
theorem n2_set {w : World} {d n x s m : Int} {W : World} (h : N2 w d n x W) : N2 w d n x ((W.setCell ⟨w.heap.size + 1 + 1 + 1, 0, none⟩ (.int .i64 s)).setCell ⟨w.heap.size + 1 + 1 + 1, 1, none⟩ (.int .i64 m)) := by
  obtain ⟨⟨a0, a1, a2, a3, a4, a5, a6, a7⟩, ⟨h0, h1⟩, ⟨z0, z1, z2, z3⟩, h3, hh⟩ := h
  have o : ∀ i : Nat, w.heap.size ≠ w.heap.size + 1 + 1 + 1 := fun _ => by omega
  have o1 : ∀ i : Nat, w.heap.size + 1 ≠ w.heap.size + 1 + 1 + 1 := fun _ => by omega
  have o2 : ∀ i : Nat, w.heap.size + 1 + 1 ≠ w.heap.size + 1 + 1 + 1 := fun _ => by omega
  exact ⟨⟨cell_room (o 0) a0, cell_room (o 0) a1, cell_room (o 0) a2, cell_room (o 0) a3, cell_room (o 0) a4, cell_room (o 0) a5, cell_room (o 0) a6, cell_room (o 0) a7⟩, ⟨cell_room (o1 0) h0, cell_room (o1 0) h1⟩, ⟨cell_room (o2 0) z0, cell_room (o2 0) z1, cell_room (o2 0) z2, cell_room (o2 0) z3⟩, r2_set h3, Lib.hid (bl_set (bl_set hh.out (Nat.le_add_right _ 3) _) (Nat.le_add_right _ 3) _)⟩
theorem n2_start (w : World) (d s n : Int) : N2 w d s n ((((w.alloc (.cells #[.bool true, .int .i64 d, .int .u64 0, .int .u64 0, .int .u64 0, .int .u64 0, .int .u64 0, .int .u64 0] 27)).alloc (.cells #[.int .i64 s, .int .i64 n] 23)).alloc (.cells #[.slice none 0 0, .slice none 0 0, .slice none 0 0, .slice none 0 0] 35)).alloc (.cells #[.int .i64 0, .int .i64 0] 23)) := by
  have b0 := heap_old (o' := .cells #[.int .i64 0, .int .i64 0] 23) (heap_old (o' := .cells #[.slice none 0 0, .slice none 0 0, .slice none 0 0, .slice none 0 0] 35) (heap_old (o' := .cells #[.int .i64 s, .int .i64 n] 23) (heap_new0 w _ (.cells #[.bool true, .int .i64 d, .int .u64 0, .int .u64 0, .int .u64 0, .int .u64 0, .int .u64 0, .int .u64 0] 27) rfl)))
  have b1 := heap_old (o' := .cells #[.int .i64 0, .int .i64 0] 23) (heap_old (o' := .cells #[.slice none 0 0, .slice none 0 0, .slice none 0 0, .slice none 0 0] 35) (heap_new0 (w.alloc (.cells #[.bool true, .int .i64 d, .int .u64 0, .int .u64 0, .int .u64 0, .int .u64 0, .int .u64 0, .int .u64 0] 27)) (w.heap.size + 1) (.cells #[.int .i64 s, .int .i64 n] 23) (by simp)))
  have b2 := heap_old (o' := .cells #[.int .i64 0, .int .i64 0] 23) (heap_new0 ((w.alloc (.cells #[.bool true, .int .i64 d, .int .u64 0, .int .u64 0, .int .u64 0, .int .u64 0, .int .u64 0, .int .u64 0] 27)).alloc (.cells #[.int .i64 s, .int .i64 n] 23)) (w.heap.size + 1 + 1) (.cells #[.slice none 0 0, .slice none 0 0, .slice none 0 0, .slice none 0 0] 35) (by simp))
  obtain ⟨k3, k4, f3, f4⟩ := res2 (g := w.heap.size + 1 + 1 + 1) (heap_new0 (((w.alloc (.cells #[.bool true, .int .i64 d, .int .u64 0, .int .u64 0, .int .u64 0, .int .u64 0, .int .u64 0, .int .u64 0] 27)).alloc (.cells #[.int .i64 s, .int .i64 n] 23)).alloc (.cells #[.slice none 0 0, .slice none 0 0, .slice none 0 0, .slice none 0 0] 35)) _ (.cells #[.int .i64 0, .int .i64 0] 23) (by simp))
  exact ⟨⟨(blk_cell b0 0).trans rfl, (blk_cell b0 1).trans rfl, (blk_cell b0 2).trans rfl, (blk_cell b0 3).trans rfl, (blk_cell b0 4).trans rfl, (blk_cell b0 5).trans rfl, (blk_cell b0 6).trans rfl, (blk_cell b0 7).trans rfl⟩, ⟨(blk_cell b1 0).trans rfl, (blk_cell b1 1).trans rfl⟩, ⟨(blk_cell b2 0).trans rfl, (blk_cell b2 1).trans rfl, (blk_cell b2 2).trans rfl, (blk_cell b2 3).trans rfl⟩, ⟨i0_of k3, i0_of k4, f3, f4⟩, Lib.hid (by repeat (first | exact Below.refl _ _ | apply bl_alloc))⟩
set_option maxRecDepth 100000 in
set_option maxHeartbeats 8000000 in
theorem next_any (d q s n : Int) (w : World) (hd : d = 1000000000 * q) (q0 : 1 ≤ q) (q1 : q ≤ 9223372036) (h0 : 0 ≤ n) (h1 : n < 1000000000) (x0 : -62135596800 ≤ s) (x1 : s ≤ 253402300799) : Calls Try.prog 10 #[scV d, inV s n, znV] w fun e w' => e = .returned (.tuple #[inV (s + q) 0, .bool true]) ∧ Below w.heap.size w w' := by
  have HB := Lib.hid (n2_start w d s n)
  have HD := Lib.hid hd
  clear hd
  have hn : ∀ w : World, (nilAhead 274 61 (.agg #[.int .i64 d]) "Next").run Try.prog w = .ok (some false) w := fun _ => by kernel_rfl
  have hm : ∀ w : World, (method 274 61 (.agg #[.int .i64 d]) "Next").run Try.prog w = .ok (30, .agg #[.int .i64 d]) w := fun _ => by kernel_rfl
  go_enter Try.func10, Try.ntmps10
  go_wp2_with fail
  go_region_held3 (fun W => N2 w d s n W) (first | assumption | exact n2_on (bl_drew (Below.refl _ _)) HB.out | (refine n2_on (by assumption) ?_; first | assumption | exact n2_on (bl_drew (Below.refl _ _)) HB.out) | (refine n2_set ?_; assumption)) (first
    | (go_at_call 26; refine (schedule_any d _).mono ?_; rintro e w1 ⟨rfl, hb1⟩)
    | (go_at_call 28; refine (location_any _).mono ?_; rintro e w2 ⟨u, rfl, hq, hb2⟩)
    | (go_at_call 27; refine (moment_any s n u _ h0 h1 (by omega) (by omega) hq).mono ?_; rintro e w3 ⟨rfl, hb3⟩)
    | (go_at_call 30; refine (delayNext_any d q n _ _ HD.out q0 q1 h0 h1 (by omega) (by omega)).mono ?_; rintro e w4 ⟨rfl, hb4⟩)
    | (go_at_call 25; refine (answer_any 0 (s + 62135596800 + q) (s + q) _ (by omega) (by omega) (by omega) (by omega) (by omega) (by omega)).mono ?_; rintro e w5 ⟨rfl, hb5⟩))
  all_goals
    have HZ := Lib.hid (n2_on hb5 (n2_on hb4 (n2_on hb3 (n2_on hb2 (n2_on hb1 (n2_on (bl_drew (Below.refl _ _)) HB.out))))))
    obtain ⟨q0, q1⟩ := r2_get (s := s + q) (n := 0) HZ.out.2.2.2.1
    have HB3 := Lib.hid (n2_set (s := s + q) (m := 0) HZ.out).2.2.2.2.out
    rename_i hH
    clear hH hb1 hb2 hb3 hb4 hb5
    go_wp2_with fail
    refine bodyPost_ret (v := .tuple #[inV (s + q) 0, .bool true]) (by simp [results, Try.results10, go_sem, q0, q1]) rfl ⟨rfl, HB3.out⟩
end Go.Proofs.Ytdgglkihiibmhaa
