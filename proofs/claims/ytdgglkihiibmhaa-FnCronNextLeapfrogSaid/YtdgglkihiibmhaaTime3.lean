/-
  A time moved to the next whole second and on.
-/
import Derived.Test.YtdgglkihiibmhaaTime2
set_option linter.unusedVariables false
set_option linter.unusedSimpArgs false
namespace Go.Proofs.Ytdgglkihiibmhaa
open Go Go.RowKit

theorem isT_wall {w : World} {p : Nat} {n m x : Int} (h : IsT w p n x) : IsT (w.setCell ⟨p, 0, none⟩ (.int .u64 m)) p m x := by
  obtain ⟨hl, he⟩ := Array.getElem?_eq_some_iff.1 h
  unfold IsT World.setCell
  simp [h, hl, Array.getElem_modify, he]
theorem isT_ext {w : World} {p : Nat} {n x y : Int} (h : IsT w p n x) : IsT (w.setCell ⟨p, 1, none⟩ (.int .i64 y)) p n y := by
  obtain ⟨hl, he⟩ := Array.getElem?_eq_some_iff.1 h
  unfold IsT World.setCell
  simp [h, hl, Array.getElem_modify, he]
theorem quo_0 (q : Int) (h : 0 ≤ q) : (1000000000 * q).tdiv 1000000000 = q := by rw [Int.tdiv_eq_ediv_of_nonneg (by omega)]; omega
theorem rem_0 (q : Int) (h : 0 ≤ q) : (1000000000 * q).tmod 1000000000 = 0 := by rw [Int.tmod_eq_emod_of_nonneg (by omega)]; omega
theorem quo_1 (q n : Int) (h : 1 ≤ q) (h0 : 0 < n) (h1 : n < 1000000000) : (1000000000 * q - n).tdiv 1000000000 = q - 1 := by rw [Int.tdiv_eq_ediv_of_nonneg (by omega)]; omega
theorem rem_1 (q n : Int) (h : 1 ≤ q) (h0 : 0 < n) (h1 : n < 1000000000) : (1000000000 * q - n).tmod 1000000000 = 1000000000 - n := by rw [Int.tmod_eq_emod_of_nonneg (by omega)]; omega
theorem or00 : bits .or .u64 0 0 = 0 := by decide
/-- no part of a second before -/
theorem Add_any0 (d q x : Int) (w : World) (hd : d = 1000000000 * q) (q0 : 1 ≤ q) (q1 : q ≤ 9223372036) (x0 : -4611686018427387904 ≤ x) (x1 : x ≤ 4611686018427387904) : Calls Try.prog 49 #[tmV 0 x, .int .i64 d] w fun e w' => e = .returned (tmV 0 (x + q)) ∧ Below w.heap.size w w' := by
  have d0 : 0 < d := by omega
  have d1 : d ≤ 9223372036000000000 := by omega
  have e1 : d.tdiv 1000000000 = q := by rw [hd]; exact quo_0 q (by omega)
  have e2 : d.tmod 1000000000 = 0 := by rw [hd]; exact rem_0 q (by omega)
  have e1' : d / 1000000000 = q := by omega
  have e2' : d % 1000000000 = 0 := by omega
  have e3 := andnot_mask 0 (by omega) (by omega)
  have e4 := or00
  have e5 := i32_id 0 (by omega) (by omega)
  have e6 := u64_id 0 (by omega) (by omega)
  have e7 := and_mono 0 (by omega) (by omega)
  clear hd
  go_enter Try.func49, Try.ntmps49
  go_wp2_with (first
    | (go_at_call 61; refine (nsec_any w.heap.size 0 x _ ?c1 (by omega) (by omega)).mono ?_; (case c1 => exact heap_old (heap_new0 _ _ _ rfl)); rintro e w' ⟨rfl, rfl⟩)
    | (go_at_call 62; refine (addSec_any w.heap.size 0 x q _ ?c1 (by omega) (by omega) x0 x1 (by omega) (by omega)).mono ?_; (case c1 => first | exact heap_old (heap_new0 _ _ _ rfl) | exact isT_wall (heap_old (heap_new0 _ _ _ rfl))); rintro e w' ⟨rfl, rfl⟩))
  refine bodyPost_ret (v := tmV 0 (x + q)) (by simp [results, Try.results49, go_sem]) rfl ⟨rfl, ?_⟩
  repeat (first | exact Below.refl _ _ | apply bl_alloc | (refine bl_set ?_ (Nat.le_refl _) _) | (refine bl_set ?_ (Nat.le_succ _) _))
/-- a part of a second before -/
theorem Add_any1 (d q n x : Int) (w : World) (hd : d = 1000000000 * q - n) (n0 : 0 < n) (n1 : n < 1000000000) (q0 : 1 ≤ q) (q1 : q ≤ 9223372036) (x0 : -4611686018427387904 ≤ x) (x1 : x ≤ 4611686018427387904) : Calls Try.prog 49 #[tmV n x, .int .i64 d] w fun e w' => e = .returned (tmV 0 (x + q)) ∧ Below w.heap.size w w' := by
  obtain ⟨r, rfl⟩ : ∃ r, q = r + 1 := ⟨q - 1, by omega⟩
  obtain ⟨m, hm⟩ : ∃ m, m = 1000000000 - n := ⟨_, rfl⟩
  have d0 : 0 < d := by omega
  have d1 : d ≤ 9223372036000000000 := by omega
  have e1 : d.tdiv 1000000000 = r := by rw [hd, quo_1 _ _ q0 n0 n1]; omega
  have e2 : d.tmod 1000000000 = m := by rw [hd, rem_1 _ _ q0 n0 n1, hm]
  have e1' : d / 1000000000 = r := by omega
  have e2' : d % 1000000000 = m := by omega
  have e3 := andnot_mask n (by omega) (by omega)
  have e4 := or00
  have e5 := i32_id m (by omega) (by omega)
  have e6 := u64_id 0 (by omega) (by omega)
  have e7 := and_mono 0 (by omega) (by omega)
  have e8 : n + m = 1000000000 := by omega
  have m0 : 0 ≤ m := by omega
  have m1 : m < 1000000000 := by omega
  clear hd hm
  go_enter Try.func49, Try.ntmps49
  go_wp2_with (first
    | (go_at_call 61; refine (nsec_any w.heap.size n x _ ?c1 (by omega) (by omega)).mono ?_; (case c1 => exact heap_old (heap_new0 _ _ _ rfl)); rintro e w' ⟨rfl, rfl⟩)
    | (go_at_call 62; refine (addSec_any w.heap.size 0 x (r + 1) _ ?c1 (by omega) (by omega) x0 x1 (by omega) (by omega)).mono ?_; (case c1 => first | exact heap_old (heap_new0 _ _ _ rfl) | exact isT_wall (heap_old (heap_new0 _ _ _ rfl))); rintro e w' ⟨rfl, rfl⟩))
  refine bodyPost_ret (v := tmV 0 (x + (r + 1))) (by simp [results, Try.results49, go_sem]) rfl ⟨rfl, ?_⟩
  repeat (first | exact Below.refl _ _ | apply bl_alloc | (refine bl_set ?_ (Nat.le_refl _) _) | (refine bl_set ?_ (Nat.le_succ _) _))
end Go.Proofs.Ytdgglkihiibmhaa
