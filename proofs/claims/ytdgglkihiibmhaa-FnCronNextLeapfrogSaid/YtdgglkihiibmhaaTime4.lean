/-
  The functions of impl and of spec on instants.
-/
import Derived.Test.YtdgglkihiibmhaaTime2
set_option linter.unusedVariables false
set_option linter.unusedSimpArgs false
namespace Go.Proofs.Ytdgglkihiibmhaa
open Go Go.RowKit

abbrev inV (s n : Int) : Value := .agg #[.int .i64 s, .int .i64 n]
def i0 (W : World) (p : Addr) : Int := match W.cell? p with | some (.int _ v) => v | _ => 0
theorem i0_of {W : World} {p : Addr} {k : IntKind} {v : Int} (h : W.cell? p = some (.int k v)) : W.cell? p = some (.int k (i0 W p)) := by
  unfold i0; rw [h]
/-- an instant's room -/
abbrev R2 (r : Nat) (W : World) : Prop := W.cell? ⟨r, 0, none⟩ = some (.int .i64 (i0 W ⟨r, 0, none⟩)) ∧ W.cell? ⟨r, 1, none⟩ = some (.int .i64 (i0 W ⟨r, 1, none⟩)) ∧ W.frozen? ⟨r, 0, none⟩ = false ∧ W.frozen? ⟨r, 1, none⟩ = false
theorem frozen_on {w w' : World} {x : Addr} (hb : Below w.heap.size w w') (hx : x.block < w.heap.size) (h : w.frozen? x = false) : w'.frozen? x = false := by
  rw [← h]; unfold World.frozen?; rw [hb.block _ hx]
theorem r2_on {r : Nat} {W W' : World} (hb : Below W.heap.size W W') (h : R2 r W) : R2 r W' := by
  obtain ⟨h3, h4, h5, h6⟩ := h
  exact ⟨i0_of (cell_on hb h3), i0_of (cell_on hb h4), frozen_on hb (World.block_lt_of_cell? _ _ h3) h5, frozen_on hb (World.block_lt_of_cell? _ _ h4) h6⟩
theorem r2_set {r : Nat} {W : World} {s n : Int} (h : R2 r W) : R2 r ((W.setCell ⟨r, 0, none⟩ (.int .i64 s)).setCell ⟨r, 1, none⟩ (.int .i64 n)) := by
  obtain ⟨h3, h4, h5, h6⟩ := h
  refine ⟨i0_of (k := .i64) (v := s) ?_, i0_of (k := .i64) (v := n) ?_, ?_, ?_⟩ <;> go_simp
theorem r2_get {r : Nat} {W : World} {s n : Int} (h : R2 r W) : ((W.setCell ⟨r, 0, none⟩ (.int .i64 s)).setCell ⟨r, 1, none⟩ (.int .i64 n)).cell? ⟨r, 0, none⟩ = some (.int .i64 s) ∧ ((W.setCell ⟨r, 0, none⟩ (.int .i64 s)).setCell ⟨r, 1, none⟩ (.int .i64 n)).cell? ⟨r, 1, none⟩ = some (.int .i64 n) := by
  obtain ⟨h3, h4, h5, h6⟩ := h
  constructor <;> go_simp
theorem cell_room {r : Nat} {x : Addr} {v : Value} {W : World} {s n : Int} (hne : x.block ≠ r) (h : W.cell? x = some v) : ((W.setCell ⟨r, 0, none⟩ (.int .i64 s)).setCell ⟨r, 1, none⟩ (.int .i64 n)).cell? x = some v := by
  rw [World.cell?_setCell_other _ _ _ _ (by rintro rfl; exact hne rfl), World.cell?_setCell_other _ _ _ _ (by rintro rfl; exact hne rfl)]; exact h
abbrev B3 (w : World) (n x : Int) (W : World) : Prop := W.cell? ⟨w.heap.size, 0, none⟩ = some (.int .u64 n) ∧ W.cell? ⟨w.heap.size, 1, none⟩ = some (.int .i64 x) ∧ W.cell? ⟨w.heap.size, 2, none⟩ = some (.pointer none) ∧ R2 (w.heap.size + 1) W ∧ Hid (Below w.heap.size w W)
theorem b3_on {w : World} {n x : Int} {W W' : World} (hb : Below W.heap.size W W') (h : B3 w n x W) : B3 w n x W' := by
  obtain ⟨h0, h1, h2, h3, hh⟩ := h
  exact ⟨cell_on hb h0, cell_on hb h1, cell_on hb h2, r2_on hb h3, Lib.hid (bl_on hh.out hb)⟩
theorem b3_set {w : World} {n x s m : Int} {W : World} (h : B3 w n x W) : B3 w n x ((W.setCell ⟨w.heap.size + 1, 0, none⟩ (.int .i64 s)).setCell ⟨w.heap.size + 1, 1, none⟩ (.int .i64 m)) := by
  obtain ⟨h0, h1, h2, h3, hh⟩ := h
  exact ⟨cell_room (by simp) h0, cell_room (by simp) h1, cell_room (by simp) h2, r2_set h3, Lib.hid (bl_set (bl_set hh.out (Nat.le_succ _) _) (Nat.le_succ _) _)⟩
theorem b3_start (w : World) (n x : Int) : B3 w n x ((w.alloc (.cells #[.int .u64 n, .int .i64 x, .pointer none] 66)).alloc (.cells #[.int .i64 0, .int .i64 0] 23)) := by
  obtain ⟨k0, k1, k2, -⟩ := res3 (w := (w.alloc (.cells #[.int .u64 n, .int .i64 x, .pointer none] 66)).alloc (.cells #[.int .i64 0, .int .i64 0] 23)) (heap_old (heap_new0 w _ _ rfl))
  obtain ⟨k3, k4, f3, f4⟩ := res2 (w := (w.alloc (.cells #[.int .u64 n, .int .i64 x, .pointer none] 66)).alloc (.cells #[.int .i64 0, .int .i64 0] 23)) (g := w.heap.size + 1) (heap_new0 _ _ _ (by simp))
  exact ⟨k0, k1, k2, ⟨i0_of k3, i0_of k4, f3, f4⟩, Lib.hid (by repeat (first | exact Below.refl _ _ | apply bl_alloc))⟩
set_option maxHeartbeats 4000000 in
theorem plain_any (n x : Int) (w : World) (h0 : 0 ≤ n) (h1 : n < 1073741824) (x0 : -4611686018427387904 ≤ x) (x1 : x ≤ 4611686018427387904) : Calls Try.prog 29 #[tmV n x] w fun e w' => e = .returned (inV (x + -62135596800) n) ∧ Below w.heap.size w w' := by
  have HB := Lib.hid (b3_start w n x)
  go_enter Try.func29, Try.ntmps29
  go_wp2_with fail
  first | go_region_held3 (fun W => B3 w n x W) (first | assumption | exact b3_on (bl_drew (Below.refl _ _)) HB.out | (refine b3_on (by assumption) ?_; first | assumption | exact b3_on (bl_drew (Below.refl _ _)) HB.out) | (refine b3_set ?_; assumption)) (first
    | (go_at_call 47; refine (UnixOf_any n x _ h0 h1 x0 x1).mono ?_; rintro e w1 ⟨rfl, hb1⟩)
    | (go_at_call 48; refine (Nano_any n x _ h0 h1).mono ?_; rintro e w2 ⟨rfl, hb2⟩)) | fail
  have HZ := Lib.hid (b3_on hb2 (b3_on hb1 (b3_on (bl_drew (Below.refl _ _)) HB.out)))
  obtain ⟨q0, q1⟩ := r2_get (s := x + -62135596800) (n := n) HZ.out.2.2.2.1
  have HB3 := Lib.hid (b3_set (s := x + -62135596800) (m := n) HZ.out).2.2.2.2.out
  rename_i hH
  clear hH hb1 hb2
  go_wp2_with fail
  refine bodyPost_ret (v := inV (x + -62135596800) n) (by simp [results, Try.results29, go_sem, q0, q1]) rfl ⟨rfl, HB3.out⟩
theorem moment_any (s n : Int) (q : Nat) (w : World) (h0 : 0 ≤ n) (h1 : n < 1000000000) (x0 : -4611686018427387904 ≤ s) (x1 : s ≤ 4611686018427387904) (hq : w.cell? ⟨q, 0, none⟩ = some (.bool true)) : Calls Try.prog 27 #[inV s n, .pointer (some ⟨q, 0, none⟩)] w fun e w' => e = .returned (tmV n (s + 62135596800)) ∧ Below w.heap.size w w' := by
  have HQ := Lib.hid hq
  clear hq
  go_enter Try.func27, Try.ntmps27
  go_wp2_with (first
    | (go_at_call 44; refine (Unix_any s n _ h0 h1 x0 x1).mono ?_; rintro e w1 ⟨rfl, hb⟩; have HB := Lib.hid (bl_on (bl_alloc (bl_alloc (Below.refl _ _) _) _) hb); obtain ⟨k0, k1, k2, f0, f1, f2⟩ := res3 (g := w.heap.size + 1) (blk_on hb (heap_new0 _ _ _ (by simp))); clear hb)
    | (go_at_call 45; refine (In_any n (s + 62135596800) q _ h0 (by omega) (cell_on HB.out HQ.out)).mono ?_; rintro e w2 ⟨rfl, hb⟩; have HB2 := Lib.hid (bl_on HB.out hb); have j0 := cell_on hb k0; have j1 := cell_on hb k1; have j2 := cell_on hb k2; have g0 := frozen_on hb (World.block_lt_of_cell? _ _ k0) f0; have g1 := frozen_on hb (World.block_lt_of_cell? _ _ k1) f1; have g2 := frozen_on hb (World.block_lt_of_cell? _ _ k2) f2; clear hb k0 k1 k2 f0 f1 f2))
  refine bodyPost_ret (v := tmV n (s + 62135596800)) (by simp [results, Try.results27, go_sem, j0, j1, j2, g0, g1, g2]) rfl ⟨rfl, ?_⟩
  repeat (first | exact HB2.out | (refine bl_set ?_ (Nat.le_succ _) _))
theorem cronEvery_any0 (d : Int) (w : World) (h : d < 1000000000) (h0 : -9223372036854775808 ≤ d) : Calls Try.prog 24 #[.int .i64 d] w fun e w' => e = .returned (.agg #[.int .i64 1000000000]) ∧ Below w.heap.size w w' := by
  have t : decide (d < 1000000000) = true := decide_eq_true h
  go_enter Try.func24, Try.ntmps24
  go_wp2
  refine bodyPost_ret (v := .agg #[.int .i64 1000000000]) (by simp [results, Try.results24, go_sem]) rfl ⟨rfl, ?_⟩
  repeat (first | exact Below.refl _ _ | apply bl_alloc)
theorem before_any (s n s' n' : Int) (w : World) : Calls Try.prog 13 #[inV s n, inV s' n'] w fun e w' => e = .returned (.bool (decide (s < s') || (decide (s = s') && decide (n < n')))) ∧ Below w.heap.size w w' := by
  cases t1 : decide (s < s') <;> cases t2 : decide (s = s') <;> cases t3 : decide (n < n')
  all_goals
    have t2' : (s == s') = decide (s = s') := rfl
    rw [t2] at t2'
    go_enter Try.func13, Try.ntmps13
    go_wp2
    go_ret
    exact ⟨rfl, by repeat (first | exact Below.refl _ _ | apply bl_alloc)⟩
theorem good_any (s n : Int) (w : World) : Calls Try.prog 8 #[inV s n] w fun e w' => e = .returned (.bool (decide (-62135596800 ≤ s) && decide (s ≤ 253402300799) && decide (0 ≤ n) && decide (n < 1000000000))) ∧ Below w.heap.size w w' := by
  cases t1 : decide (-62135596800 ≤ s) <;> cases t2 : decide (s ≤ 253402300799) <;> cases t3 : decide (0 ≤ n) <;> cases t4 : decide (n < 1000000000)
  all_goals
    go_enter Try.func8, Try.ntmps8
    go_wp2
    go_ret
    exact ⟨rfl, by repeat (first | exact Below.refl _ _ | apply bl_alloc)⟩
end Go.Proofs.Ytdgglkihiibmhaa
