/-
  Times by value on the clocks of UTC: made, moved, read.
-/
import Derived.Test.YtdgglkihiibmhaaTime
set_option linter.unusedVariables false
set_option linter.unusedSimpArgs false
namespace Go.Proofs.Ytdgglkihiibmhaa
open Go Go.RowKit

/-- a time as a value -/
abbrev tmV (n x : Int) : Value := .agg #[.int .u64 n, .int .i64 x, .pointer none]
theorem heap_new0 (W : World) (q : Nat) (o : Obj) (h : q = W.heap.size) : (W.alloc o).heap[q]? = some o := by subst h; exact (MapKept.heap_alloc W o).1
theorem heap_old {W : World} {p : Nat} {o o' : Obj} (h : W.heap[p]? = some o) : (W.alloc o').heap[p]? = some o := ((MapKept.heap_alloc W o').2 p (Array.getElem?_eq_some_iff.1 h).1).trans h
theorem u64_id (n : Int) (h0 : 0 ≤ n) (h1 : n < 1073741824) : IntKind.u64.wrap n = n := by
  simp only [IntKind.wrap, IntKind.bits, IntKind.signed]
  simp
  omega

theorem blk_on {w w' : World} {g : Nat} {o : Obj} (hb : Below w.heap.size w w') (h : w.heap[g]? = some o) : w'.heap[g]? = some o := (hb.block g (Array.getElem?_eq_some_iff.1 h).1).trans h
theorem res3 {w : World} {g : Nat} {a b c : Value} {t : TypeId} (h : w.heap[g]? = some (.cells #[a, b, c] t (0, 0))) : w.cell? ⟨g, 0, none⟩ = some a ∧ w.cell? ⟨g, 1, none⟩ = some b ∧ w.cell? ⟨g, 2, none⟩ = some c ∧ w.frozen? ⟨g, 0, none⟩ = false ∧ w.frozen? ⟨g, 1, none⟩ = false ∧ w.frozen? ⟨g, 2, none⟩ = false :=
  ⟨(blk_cell h 0).trans rfl, (blk_cell h 1).trans rfl, (blk_cell h 2).trans rfl, blk_frozen h 0, blk_frozen h 1, blk_frozen h 2⟩
theorem res2 {w : World} {g : Nat} {a b : Value} {t : TypeId} (h : w.heap[g]? = some (.cells #[a, b] t (0, 0))) : w.cell? ⟨g, 0, none⟩ = some a ∧ w.cell? ⟨g, 1, none⟩ = some b ∧ w.frozen? ⟨g, 0, none⟩ = false ∧ w.frozen? ⟨g, 1, none⟩ = false :=
  ⟨(blk_cell h 0).trans rfl, (blk_cell h 1).trans rfl, blk_frozen h 0, blk_frozen h 1⟩
theorem bl_set {w W : World} (h : Below w.heap.size w W) {p : Addr} (hp : w.heap.size ≤ p.block) (v : Value) : Below w.heap.size w (W.setCell p v) := h.setCell hp _
theorem unixTime_any (s n : Int) (w : World) (h0 : 0 ≤ n) (h1 : n < 1073741824) (x0 : -4611686018427387904 ≤ s) (x1 : s ≤ 4611686018427387904) : Calls Try.prog 58 #[.int .i64 s, .int .i32 n] w fun e w' => e = .returned (tmV n (s + 62135596800)) ∧ Below w.heap.size w w' := by
  have e1 := u64_id n h0 h1
  go_enter Try.func58, Try.ntmps58
  go_wp2
  refine bodyPost_ret (v := tmV n (s + 62135596800)) (by simp [results, Try.results58, go_sem]) rfl ⟨rfl, ?_⟩
  repeat (first | exact Below.refl _ _ | apply bl_alloc)
theorem Unix_any (s n : Int) (w : World) (h0 : 0 ≤ n) (h1 : n < 1000000000) (x0 : -4611686018427387904 ≤ s) (x1 : s ≤ 4611686018427387904) : Calls Try.prog 44 #[.int .i64 s, .int .i64 n] w fun e w' => e = .returned (tmV n (s + 62135596800)) ∧ Below w.heap.size w w' := by
  have e1 := i32_id n h0 (by omega)
  have t1 : decide (n < 0) = false := decide_eq_false (by omega)
  have t2 : decide (1000000000 ≤ n) = false := decide_eq_false (by omega)
  go_enter Try.func44, Try.ntmps44
  go_wp2_with (go_at_call 58; refine (unixTime_any s n _ h0 (by omega) x0 x1).mono ?_; rintro e w' ⟨rfl, hb⟩; have HB := Lib.hid (bl_on (bl_alloc (Below.refl _ _) _) hb); obtain ⟨k0, k1, k2, f0, f1, f2⟩ := res3 (blk_on hb (heap_new0 w _ _ rfl)); clear hb)
  refine bodyPost_ret (v := tmV n (s + 62135596800)) (by simp [results, Try.results44, go_sem, k0, k1, k2, f0, f1, f2]) rfl ⟨rfl, ?_⟩
  repeat (first | exact HB.out | (refine bl_set ?_ (Nat.le_refl _) _))
theorem In_any (n x : Int) (q : Nat) (w : World) (h0 : 0 ≤ n) (h1 : n < 1073741824) (hq : w.cell? ⟨q, 0, none⟩ = some (.bool true)) : Calls Try.prog 45 #[tmV n x, .pointer (some ⟨q, 0, none⟩)] w fun e w' => e = .returned (tmV n x) ∧ Below w.heap.size w w' := by
  have HQ := Lib.hid hq
  clear hq
  go_enter Try.func45, Try.ntmps45
  go_wp2_with (go_at_call 59; refine (setLoc_any w.heap.size q n x _ ?c1 ?c2 h0 h1).mono ?_; (case c1 => exact heap_old (heap_new0 _ _ _ rfl)); (case c2 => exact cell_on (bl_alloc (bl_alloc (Below.refl _ _) _) _) HQ.out); rintro e w' ⟨rfl, rfl⟩)
  refine bodyPost_ret (v := tmV n x) (by simp [results, Try.results45, go_sem]) rfl ⟨rfl, ?_⟩
  repeat (first | exact Below.refl _ _ | apply bl_alloc | (refine bl_set ?_ (Nat.le_refl _) _))
theorem Nano_any (n x : Int) (w : World) (h0 : 0 ≤ n) (h1 : n < 1073741824) : Calls Try.prog 48 #[tmV n x] w fun e w' => e = .returned (.int .i64 n) ∧ Below w.heap.size w w' := by
  go_enter Try.func48, Try.ntmps48
  go_wp2_with (go_at_call 61; refine (nsec_any w.heap.size n x _ ?c1 h0 h1).mono ?_; (case c1 => exact heap_new0 _ _ _ rfl); rintro e w' ⟨rfl, rfl⟩)
  go_ret
  exact ⟨rfl, by repeat (first | exact Below.refl _ _ | apply bl_alloc)⟩
theorem UnixOf_any (n x : Int) (w : World) (h0 : 0 ≤ n) (h1 : n < 1073741824) (x0 : -4611686018427387904 ≤ x) (x1 : x ≤ 4611686018427387904) : Calls Try.prog 47 #[tmV n x] w fun e w' => e = .returned (.int .i64 (x + -62135596800)) ∧ Below w.heap.size w w' := by
  go_enter Try.func47, Try.ntmps47
  go_wp2_with (go_at_call 60; refine (unixSec_any w.heap.size n x _ ?c1 h0 h1 x0 x1).mono ?_; (case c1 => exact heap_new0 _ _ _ rfl); rintro e w' ⟨rfl, rfl⟩)
  go_ret
  exact ⟨rfl, by repeat (first | exact Below.refl _ _ | apply bl_alloc)⟩
theorem IsZero_any (n x : Int) (w : World) (hx : x ≠ 0) : Calls Try.prog 43 #[tmV n x] w fun e w' => e = .returned (.bool false) ∧ Below w.heap.size w w' := by
  have t1 : (x == 0) = false := by simpa using hx
  have t2 : decide (x = 0) = false := decide_eq_false hx
  cases t3 : (n == 0)
  · have t4 : decide (n = 0) = false := by simpa using t3
    go_enter Try.func43, Try.ntmps43
    go_wp2
    go_ret
    exact ⟨rfl, by repeat (first | exact Below.refl _ _ | apply bl_alloc)⟩
  · have t4 : decide (n = 0) = true := by simpa using t3
    go_enter Try.func43, Try.ntmps43
    go_wp2
    go_ret
    exact ⟨rfl, by repeat (first | exact Below.refl _ _ | apply bl_alloc)⟩
end Go.Proofs.Ytdgglkihiibmhaa
