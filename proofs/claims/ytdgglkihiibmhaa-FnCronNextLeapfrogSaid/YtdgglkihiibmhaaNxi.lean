/-
  impl.Next at a schedule of sets, where no zone is told.
-/
import Derived.Test.YtdgglkihiibmhaaNxh
set_option linter.unusedVariables false
set_option linter.unusedSimpArgs false
namespace Go.Proofs.Ytdgglkihiibmhaa
open Go Go.RowKit Cal

/-- a schedule of sets -/
abbrev sixV (f : Six) (d : Int) : Value := .agg #[.bool false, .int .i64 d, .int .u64 f.se, .int .u64 f.mi, .int .u64 f.ho, .int .u64 f.dom, .int .u64 f.mo, .int .u64 f.dow]
abbrev N4 (w : World) (f : Six) (d s n : Int) (W : World) : Prop :=
  (W.cell? ⟨w.heap.size, 0, none⟩ = some (.bool false) ∧ W.cell? ⟨w.heap.size, 1, none⟩ = some (.int .i64 d) ∧ W.cell? ⟨w.heap.size, 2, none⟩ = some (.int .u64 f.se) ∧ W.cell? ⟨w.heap.size, 3, none⟩ = some (.int .u64 f.mi) ∧ W.cell? ⟨w.heap.size, 4, none⟩ = some (.int .u64 f.ho) ∧ W.cell? ⟨w.heap.size, 5, none⟩ = some (.int .u64 f.dom) ∧ W.cell? ⟨w.heap.size, 6, none⟩ = some (.int .u64 f.mo) ∧ W.cell? ⟨w.heap.size, 7, none⟩ = some (.int .u64 f.dow)) ∧
  (W.cell? ⟨w.heap.size + 1, 0, none⟩ = some (.int .i64 s) ∧ W.cell? ⟨w.heap.size + 1, 1, none⟩ = some (.int .i64 n)) ∧
  (W.cell? ⟨w.heap.size + 1 + 1, 0, none⟩ = some (.slice none 0 0) ∧ W.cell? ⟨w.heap.size + 1 + 1, 1, none⟩ = some (.slice none 0 0) ∧ W.cell? ⟨w.heap.size + 1 + 1, 2, none⟩ = some (.slice none 0 0) ∧ W.cell? ⟨w.heap.size + 1 + 1, 3, none⟩ = some (.slice none 0 0)) ∧
  R2 (w.heap.size + 1 + 1 + 1) W ∧ Hid (Below w.heap.size w W)
theorem n4_on {w : World} {f : Six} {d n x : Int} {W W' : World} (hb : Below W.heap.size W W') (h : N4 w f d n x W) : N4 w f d n x W' := by
  obtain ⟨⟨a0, a1, a2, a3, a4, a5, a6, a7⟩, ⟨h0, h1⟩, ⟨z0, z1, z2, z3⟩, h3, hh⟩ := h
  exact ⟨⟨cell_on hb a0, cell_on hb a1, cell_on hb a2, cell_on hb a3, cell_on hb a4, cell_on hb a5, cell_on hb a6, cell_on hb a7⟩, ⟨cell_on hb h0, cell_on hb h1⟩, ⟨cell_on hb z0, cell_on hb z1, cell_on hb z2, cell_on hb z3⟩, r2_on hb h3, Lib.hid (bl_on hh.out hb)⟩
theorem n4_set {w : World} {f : Six} {d n x s m : Int} {W : World} (h : N4 w f d n x W) : N4 w f d n x ((W.setCell ⟨w.heap.size + 1 + 1 + 1, 0, none⟩ (.int .i64 s)).setCell ⟨w.heap.size + 1 + 1 + 1, 1, none⟩ (.int .i64 m)) := by
  obtain ⟨⟨a0, a1, a2, a3, a4, a5, a6, a7⟩, ⟨h0, h1⟩, ⟨z0, z1, z2, z3⟩, h3, hh⟩ := h
  have o : ∀ i : Nat, w.heap.size ≠ w.heap.size + 1 + 1 + 1 := fun _ => by omega
  have o1 : ∀ i : Nat, w.heap.size + 1 ≠ w.heap.size + 1 + 1 + 1 := fun _ => by omega
  have o2 : ∀ i : Nat, w.heap.size + 1 + 1 ≠ w.heap.size + 1 + 1 + 1 := fun _ => by omega
  exact ⟨⟨cell_room (o 0) a0, cell_room (o 0) a1, cell_room (o 0) a2, cell_room (o 0) a3, cell_room (o 0) a4, cell_room (o 0) a5, cell_room (o 0) a6, cell_room (o 0) a7⟩, ⟨cell_room (o1 0) h0, cell_room (o1 0) h1⟩, ⟨cell_room (o2 0) z0, cell_room (o2 0) z1, cell_room (o2 0) z2, cell_room (o2 0) z3⟩, r2_set h3, Lib.hid (bl_set (bl_set hh.out (Nat.le_add_right _ 3) _) (Nat.le_add_right _ 3) _)⟩
theorem n4_start (w : World) (f : Six) (d s n : Int) : N4 w f d s n ((((w.alloc (.cells #[.bool false, .int .i64 d, .int .u64 f.se, .int .u64 f.mi, .int .u64 f.ho, .int .u64 f.dom, .int .u64 f.mo, .int .u64 f.dow] 27)).alloc (.cells #[.int .i64 s, .int .i64 n] 23)).alloc (.cells #[.slice none 0 0, .slice none 0 0, .slice none 0 0, .slice none 0 0] 35)).alloc (.cells #[.int .i64 0, .int .i64 0] 23)) := by
  have b0 := heap_old (o' := .cells #[.int .i64 0, .int .i64 0] 23) (heap_old (o' := .cells #[.slice none 0 0, .slice none 0 0, .slice none 0 0, .slice none 0 0] 35) (heap_old (o' := .cells #[.int .i64 s, .int .i64 n] 23) (heap_new0 w _ (.cells #[.bool false, .int .i64 d, .int .u64 f.se, .int .u64 f.mi, .int .u64 f.ho, .int .u64 f.dom, .int .u64 f.mo, .int .u64 f.dow] 27) rfl)))
  have b1 := heap_old (o' := .cells #[.int .i64 0, .int .i64 0] 23) (heap_old (o' := .cells #[.slice none 0 0, .slice none 0 0, .slice none 0 0, .slice none 0 0] 35) (heap_new0 (w.alloc (.cells #[.bool false, .int .i64 d, .int .u64 f.se, .int .u64 f.mi, .int .u64 f.ho, .int .u64 f.dom, .int .u64 f.mo, .int .u64 f.dow] 27)) (w.heap.size + 1) (.cells #[.int .i64 s, .int .i64 n] 23) (by simp)))
  have b2 := heap_old (o' := .cells #[.int .i64 0, .int .i64 0] 23) (heap_new0 ((w.alloc (.cells #[.bool false, .int .i64 d, .int .u64 f.se, .int .u64 f.mi, .int .u64 f.ho, .int .u64 f.dom, .int .u64 f.mo, .int .u64 f.dow] 27)).alloc (.cells #[.int .i64 s, .int .i64 n] 23)) (w.heap.size + 1 + 1) (.cells #[.slice none 0 0, .slice none 0 0, .slice none 0 0, .slice none 0 0] 35) (by simp))
  obtain ⟨k3, k4, f3, f4⟩ := res2 (g := w.heap.size + 1 + 1 + 1) (heap_new0 (((w.alloc (.cells #[.bool false, .int .i64 d, .int .u64 f.se, .int .u64 f.mi, .int .u64 f.ho, .int .u64 f.dom, .int .u64 f.mo, .int .u64 f.dow] 27)).alloc (.cells #[.int .i64 s, .int .i64 n] 23)).alloc (.cells #[.slice none 0 0, .slice none 0 0, .slice none 0 0, .slice none 0 0] 35)) _ (.cells #[.int .i64 0, .int .i64 0] 23) (by simp))
  exact ⟨⟨(blk_cell b0 0).trans rfl, (blk_cell b0 1).trans rfl, (blk_cell b0 2).trans rfl, (blk_cell b0 3).trans rfl, (blk_cell b0 4).trans rfl, (blk_cell b0 5).trans rfl, (blk_cell b0 6).trans rfl, (blk_cell b0 7).trans rfl⟩, ⟨(blk_cell b1 0).trans rfl, (blk_cell b1 1).trans rfl⟩, ⟨(blk_cell b2 0).trans rfl, (blk_cell b2 1).trans rfl, (blk_cell b2 2).trans rfl, (blk_cell b2 3).trans rfl⟩, ⟨i0_of k3, i0_of k4, f3, f4⟩, Lib.hid (by repeat (first | exact Below.refl _ _ | apply bl_alloc))⟩
theorem schedule2_any (f : Six) (d : Int) (w : World) : Calls Try.prog 26 #[sixV f d, .pointer none] w fun e w' => (∃ p, e = .returned (.iface 92 (.pointer (some ⟨p, 0, none⟩))) ∧ SC w' p f) ∧ Below w.heap.size w w' := by
  go_enter Try.func26, Try.ntmps26
  go_wp2
  go_ret
  have h := heap_new0 (w.alloc (.cells #[.bool false, .int .i64 d, .int .u64 f.se, .int .u64 f.mi, .int .u64 f.ho, .int .u64 f.dom, .int .u64 f.mo, .int .u64 f.dow] 27)) (w.heap.size + 1) (.cells #[.int .u64 f.se, .int .u64 f.mi, .int .u64 f.ho, .int .u64 f.dom, .int .u64 f.mo, .int .u64 f.dow, .pointer none] 94) (by simp)
  refine ⟨⟨_, rfl, (blk_cell h 0).trans rfl, (blk_cell h 1).trans rfl, (blk_cell h 2).trans rfl, (blk_cell h 3).trans rfl, (blk_cell h 4).trans rfl, (blk_cell h 5).trans rfl, (blk_cell h 6).trans rfl⟩, ?_⟩
  repeat (first | exact Below.refl _ _ | apply bl_alloc)
theorem IsZero_zero (w : World) : Calls Try.prog 43 #[tmV 0 0] w fun e w' => e = .returned (.bool true) ∧ Below w.heap.size w w' := by
  have H := Lib.hid (heap_new0 w _ (.cells #[.int .u64 0, .int .i64 0, .pointer none] 66) rfl)
  go_enter Try.func43, Try.ntmps43
  go_wp2_with (first
    | (go_at_call 67; refine (sec_any w.heap.size 0 0 _ H.out (by omega) (by omega)).mono ?_; rintro e w2 ⟨rfl, rfl⟩)
    | (go_at_call 61; refine (nsec_any w.heap.size 0 0 _ H.out (by omega) (by omega)).mono ?_; rintro e w2 ⟨rfl, rfl⟩))
  go_ret
  exact ⟨rfl, bl_alloc (Below.refl _ _) _⟩
/-- what is answered: the second, and whether there is one -/
def asI (r : Int) : Int := if r = 0 then 0 else r + -62135596800
def asB (r : Int) : Bool := !decide (r = 0)
theorem answer2_any (r : Int) (w : World) (r0 : 0 ≤ r) (r1 : r ≤ 1000000000000) : Calls Try.prog 25 #[tmV 0 r] w fun e w' => e = .returned (.tuple #[inV (asI r) 0, .bool (asB r)]) ∧ Below w.heap.size w w' := by
  by_cases h : r = 0
  · subst h
    have HB := Lib.hid (b3_start w 0 0)
    go_enter Try.func25, Try.ntmps25
    go_wp2_with (go_at_call 43; refine (IsZero_zero _).mono ?_; rintro e w1 ⟨rfl, hb1⟩; have HZ := Lib.hid (b3_on hb1 HB.out); obtain ⟨k0, k1, k2, ⟨r0, r1, f0, f1⟩, -⟩ := HZ.out; clear hb1)
    obtain ⟨q0, q1⟩ := r2_get (s := 0) (n := 0) HZ.out.2.2.2.1
    have HB3 := Lib.hid (b3_set (s := 0) (m := 0) HZ.out).2.2.2.2.out
    refine bodyPost_ret (v := .tuple #[inV 0 0, .bool false]) (by simp [results, Try.results25, go_sem, q0, q1]) rfl ⟨rfl, HB3.out⟩
  · have e1 : asI r = r + -62135596800 := if_neg h
    have e2 : asB r = true := by unfold asB; rw [decide_eq_false h]; rfl
    rw [e1, e2]
    exact answer_any 0 r _ w rfl h (by omega) (by omega) (by omega) (by omega)
theorem finds_b {f : Six} {x r : Int} (h : Finds f (x + 1) (Yx (x + 1) + 5) r) (x0 : 0 ≤ x) (x1 : x ≤ 400000000000) : 0 ≤ r ∧ r ≤ 1000000000000 := by
  have hy := (date_b (x + 1) (by omega) (by omega)).2.1
  have h3 : Yx (x + 1) + 5 ≤ 20000 := by
    have h := (date_in_year (x_date (x + 1) (by omega))).1
    unfold YS at h
    omega
  have := by_hi _ h3
  rcases h with ⟨a, -⟩ | ⟨a, b, -⟩ <;> omega
set_option maxRecDepth 100000 in
set_option maxHeartbeats 8000000 in
theorem implNextW_any (f : Six) (d s n : Int) (w : World) (h0 : 0 ≤ n) (h1 : n < 1000000000) (x0 : -62135596800 ≤ s) (x1 : s ≤ 320000000000) : Calls Try.prog 10 #[sixV f d, inV s n, znV] w fun e w' => (∃ r, e = .returned (.tuple #[inV (asI r) 0, .bool (asB r)]) ∧ Finds f (s + 62135596800 + 1) (Yx (s + 62135596800 + 1) + 5) r) ∧ Below w.heap.size w w' := by
  have HB := Lib.hid (n4_start w f d s n)
  have hn : ∀ (p : Nat) (w : World), (nilAhead 274 92 (.pointer (some ⟨p, 0, none⟩)) "Next").run Try.prog w = .ok (some false) w := fun _ _ => by kernel_rfl
  have hm : ∀ (p : Nat) (w : World), (method 274 92 (.pointer (some ⟨p, 0, none⟩)) "Next").run Try.prog w = .ok (86, .pointer (some ⟨p, 0, none⟩)) w := fun _ _ => by kernel_rfl
  go_enter Try.func10, Try.ntmps10
  go_wp2_with fail
  go_region_held3 (fun W => N4 w f d s n W) (first | assumption | exact n4_on (bl_drew (Below.refl _ _)) HB.out | (refine n4_on (by assumption) ?_; first | assumption | exact n4_on (bl_drew (Below.refl _ _)) HB.out) | (refine n4_set ?_; assumption)) (first
    | (go_at_call 26; refine (schedule2_any f d _).mono ?_; rintro e w1 ⟨⟨p, rfl, hp⟩, hb1⟩)
    | (go_at_call 28; refine (location_any _).mono ?_; rintro e w2 ⟨u, rfl, hq, hb2⟩)
    | (go_at_call 27; refine (moment_any s n u _ h0 h1 (by omega) (by omega) hq).mono ?_; rintro e w3 ⟨rfl, hb3⟩)
    | (go_at_call 86; refine (nextSpec_any _ p f n (s + 62135596800) (sc_on hb3 (sc_on hb2 hp)) h0 h1 (by omega) (by omega)).mono ?_; rintro e w4 ⟨⟨r, rfl, hr⟩, hb4⟩)
    | (go_at_call 25; refine (answer2_any r _ (finds_b hr (by omega) (by omega)).1 (finds_b hr (by omega) (by omega)).2).mono ?_; rintro e w5 ⟨rfl, hb5⟩))
  all_goals
    have HZ := Lib.hid (n4_on hb5 (n4_on hb4 (n4_on hb3 (n4_on hb2 (n4_on hb1 (n4_on (bl_drew (Below.refl _ _)) HB.out))))))
    obtain ⟨q0, q1⟩ := r2_get (s := asI r) (n := 0) HZ.out.2.2.2.1
    have HB3 := Lib.hid (n4_set (s := asI r) (m := 0) HZ.out).2.2.2.2.out
    have HR := Lib.hid hr
    rename_i hH
    clear hH hb1 hb2 hb3 hb4 hb5 hr
    go_wp2_with fail
    refine bodyPost_ret (v := .tuple #[inV (asI r) 0, .bool (asB r)]) (by simp [results, Try.results10, go_sem, q0, q1]) rfl ⟨⟨r, rfl, HR.out⟩, HB3.out⟩
theorem implNext_any (f : Six) (d s n : Int) (w : World) (h0 : 0 ≤ n) (h1 : n < 1000000000) (x0 : -62135596800 ≤ s) (x1 : s ≤ 253402300799) : Calls Try.prog 10 #[sixV f d, inV s n, znV] w fun e w' => (∃ r, e = .returned (.tuple #[inV (asI r) 0, .bool (asB r)]) ∧ Finds f (s + 62135596800 + 1) (Yx (s + 62135596800 + 1) + 5) r) ∧ Below w.heap.size w w' := implNextW_any f d s n w h0 h1 x0 (by omega)
end Go.Proofs.Ytdgglkihiibmhaa
