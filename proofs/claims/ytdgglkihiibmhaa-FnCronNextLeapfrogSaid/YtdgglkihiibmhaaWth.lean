/-
  A schedule with other bits for one field; what it fits.
-/
import Derived.Test.YtdgglkihiibmhaaNap
set_option linter.unusedVariables false
set_option linter.unusedSimpArgs false
namespace Go.Proofs.Ytdgglkihiibmhaa
open Go Go.RowKit Cal Go.Proofs.YtdgglkihiibmhaaW.PrintLast

/-- other bits for one field -/
def wth (f : Six) (k : Nat) (b : Nat) (hb : b < 2 ^ 64) : Six :=
  ⟨if k = 0 then b else f.se, if k = 1 then b else f.mi, if k = 2 then b else f.ho, if k = 3 then b else f.dom, if k = 4 then b else f.mo, if k = 5 then b else f.dow,
   by split <;> first | exact hb | exact f.h0, by split <;> first | exact hb | exact f.h1, by split <;> first | exact hb | exact f.h2, by split <;> first | exact hb | exact f.h3, by split <;> first | exact hb | exact f.h4, by split <;> first | exact hb | exact f.h5⟩
/-- with the values that two sets have in common: both -/
theorem fits_both (f : Six) (k a b : Nat) (ha : a < 2 ^ 64) (hb' : b < 2 ^ 64) (hs : hb a 63 = hb b 63) (hk : k < 6) (x : Int) : fits (wth f k (a &&& b) (and_lt64 ha)) x = (fits (wth f k a ha) x && fits (wth f k b hb') x) := by
  have hc : k = 0 ∨ k = 1 ∨ k = 2 ∨ k = 3 ∨ k = 4 ∨ k = 5 := by omega
  unfold fits dm wth
  rcases hc with rfl | rfl | rfl | rfl | rfl | rfl
  · simp only [hb_and, if_true, if_false, Nat.reduceEqDiff]
    generalize hb a (x % 60) = p
    generalize hb b (x % 60) = q
    cases p <;> cases q <;> simp
  · simp only [hb_and, if_true, if_false, Nat.reduceEqDiff]
    generalize hb a (x % 3600 / 60) = p
    generalize hb b (x % 3600 / 60) = q
    cases p <;> cases q <;> simp
  · simp only [hb_and, if_true, if_false, Nat.reduceEqDiff]
    generalize hb a (x % 86400 / 3600) = p
    generalize hb b (x % 86400 / 3600) = q
    cases p <;> cases q <;> simp
  · simp only [hb_and, if_true, if_false, Nat.reduceEqDiff, hs, Bool.and_self]
    generalize hb a (Dx x) = p
    generalize hb b (Dx x) = q
    generalize hb b 63 = s1
    generalize hb f.dow 63 = s2
    generalize hb f.dow (Wx x) = r
    cases p <;> cases q <;> cases s1 <;> cases s2 <;> cases r <;> simp
  · simp only [hb_and, if_true, if_false, Nat.reduceEqDiff]
    generalize hb a (Mx x) = p
    generalize hb b (Mx x) = q
    cases p <;> cases q <;> simp
  · simp only [hb_and, if_true, if_false, Nat.reduceEqDiff, hs, Bool.and_self]
    generalize hb a (Wx x) = p
    generalize hb b (Wx x) = q
    generalize hb b 63 = s1
    generalize hb f.dom 63 = s2
    generalize hb f.dom (Dx x) = r
    cases p <;> cases q <;> cases s1 <;> cases s2 <;> cases r <;> simp
theorem isKind_any (k : Int) (w : World) : Calls Try.prog 19 #[.int .i64 k] w fun e w' => e = .returned (.bool (decide (0 ≤ k) && decide (k < 6))) ∧ w' = w := by
  cases t1 : decide (0 ≤ k) <;> cases t2 : decide (k < 6)
  all_goals
    go_enter Try.func19, Try.ntmps19
    go_wp2
    go_ret
    exact ⟨rfl, rfl⟩
theorem with_any (ev : Bool) (f : Six) (d : Int) (k : Nat) (hk : k < 6) (b : Nat) (hb : b < 2 ^ 64) (w : World) : Calls Try.prog 20 #[schV ev f d, .int .i64 (k : Int), .int .u64 (b : Int)] w fun e w' => e = .returned (schV ev (wth f k b hb) d) ∧ Below w.heap.size w w' := by
  have hc : k = 0 ∨ k = 1 ∨ k = 2 ∨ k = 3 ∨ k = 4 ∨ k = 5 := by omega
  clear hk
  rcases hc with rfl | rfl | rfl | rfl | rfl | rfl
  · have hix : ∀ (p : Nat) w, (Instr.index 87 (.agg #[.pointer (some ⟨p, 2, none⟩), .pointer (some ⟨p, 3, none⟩), .pointer (some ⟨p, 4, none⟩), .pointer (some ⟨p, 5, none⟩), .pointer (some ⟨p, 6, none⟩), .pointer (some ⟨p, 7, none⟩)]) (.int .i64 0)).run Try.prog w = .ok (.pointer (some ⟨p, 2, none⟩)) w := fun _ _ => by kernel_rfl
    go_enter Try.func20, Try.ntmps20
    go_wp2_with fail
    refine bodyPost_ret (v := .agg #[.bool ev, .int .i64 d, .int .u64 b, .int .u64 f.mi, .int .u64 f.ho, .int .u64 f.dom, .int .u64 f.mo, .int .u64 f.dow]) (by simp [results, Try.results20, go_sem]) rfl ⟨rfl, by repeat (first | exact Below.refl _ _ | apply bl_alloc)⟩
  · have hix : ∀ (p : Nat) w, (Instr.index 87 (.agg #[.pointer (some ⟨p, 2, none⟩), .pointer (some ⟨p, 3, none⟩), .pointer (some ⟨p, 4, none⟩), .pointer (some ⟨p, 5, none⟩), .pointer (some ⟨p, 6, none⟩), .pointer (some ⟨p, 7, none⟩)]) (.int .i64 1)).run Try.prog w = .ok (.pointer (some ⟨p, 3, none⟩)) w := fun _ _ => by kernel_rfl
    go_enter Try.func20, Try.ntmps20
    go_wp2_with fail
    refine bodyPost_ret (v := .agg #[.bool ev, .int .i64 d, .int .u64 f.se, .int .u64 b, .int .u64 f.ho, .int .u64 f.dom, .int .u64 f.mo, .int .u64 f.dow]) (by simp [results, Try.results20, go_sem]) rfl ⟨rfl, by repeat (first | exact Below.refl _ _ | apply bl_alloc)⟩
  · have hix : ∀ (p : Nat) w, (Instr.index 87 (.agg #[.pointer (some ⟨p, 2, none⟩), .pointer (some ⟨p, 3, none⟩), .pointer (some ⟨p, 4, none⟩), .pointer (some ⟨p, 5, none⟩), .pointer (some ⟨p, 6, none⟩), .pointer (some ⟨p, 7, none⟩)]) (.int .i64 2)).run Try.prog w = .ok (.pointer (some ⟨p, 4, none⟩)) w := fun _ _ => by kernel_rfl
    go_enter Try.func20, Try.ntmps20
    go_wp2_with fail
    refine bodyPost_ret (v := .agg #[.bool ev, .int .i64 d, .int .u64 f.se, .int .u64 f.mi, .int .u64 b, .int .u64 f.dom, .int .u64 f.mo, .int .u64 f.dow]) (by simp [results, Try.results20, go_sem]) rfl ⟨rfl, by repeat (first | exact Below.refl _ _ | apply bl_alloc)⟩
  · have hix : ∀ (p : Nat) w, (Instr.index 87 (.agg #[.pointer (some ⟨p, 2, none⟩), .pointer (some ⟨p, 3, none⟩), .pointer (some ⟨p, 4, none⟩), .pointer (some ⟨p, 5, none⟩), .pointer (some ⟨p, 6, none⟩), .pointer (some ⟨p, 7, none⟩)]) (.int .i64 3)).run Try.prog w = .ok (.pointer (some ⟨p, 5, none⟩)) w := fun _ _ => by kernel_rfl
    go_enter Try.func20, Try.ntmps20
    go_wp2_with fail
    refine bodyPost_ret (v := .agg #[.bool ev, .int .i64 d, .int .u64 f.se, .int .u64 f.mi, .int .u64 f.ho, .int .u64 b, .int .u64 f.mo, .int .u64 f.dow]) (by simp [results, Try.results20, go_sem]) rfl ⟨rfl, by repeat (first | exact Below.refl _ _ | apply bl_alloc)⟩
  · have hix : ∀ (p : Nat) w, (Instr.index 87 (.agg #[.pointer (some ⟨p, 2, none⟩), .pointer (some ⟨p, 3, none⟩), .pointer (some ⟨p, 4, none⟩), .pointer (some ⟨p, 5, none⟩), .pointer (some ⟨p, 6, none⟩), .pointer (some ⟨p, 7, none⟩)]) (.int .i64 4)).run Try.prog w = .ok (.pointer (some ⟨p, 6, none⟩)) w := fun _ _ => by kernel_rfl
    go_enter Try.func20, Try.ntmps20
    go_wp2_with fail
    refine bodyPost_ret (v := .agg #[.bool ev, .int .i64 d, .int .u64 f.se, .int .u64 f.mi, .int .u64 f.ho, .int .u64 f.dom, .int .u64 b, .int .u64 f.dow]) (by simp [results, Try.results20, go_sem]) rfl ⟨rfl, by repeat (first | exact Below.refl _ _ | apply bl_alloc)⟩
  · have hix : ∀ (p : Nat) w, (Instr.index 87 (.agg #[.pointer (some ⟨p, 2, none⟩), .pointer (some ⟨p, 3, none⟩), .pointer (some ⟨p, 4, none⟩), .pointer (some ⟨p, 5, none⟩), .pointer (some ⟨p, 6, none⟩), .pointer (some ⟨p, 7, none⟩)]) (.int .i64 5)).run Try.prog w = .ok (.pointer (some ⟨p, 7, none⟩)) w := fun _ _ => by kernel_rfl
    go_enter Try.func20, Try.ntmps20
    go_wp2_with fail
    refine bodyPost_ret (v := .agg #[.bool ev, .int .i64 d, .int .u64 f.se, .int .u64 f.mi, .int .u64 f.ho, .int .u64 f.dom, .int .u64 f.mo, .int .u64 b]) (by simp [results, Try.results20, go_sem]) rfl ⟨rfl, by repeat (first | exact Below.refl _ _ | apply bl_alloc)⟩
end Go.Proofs.Ytdgglkihiibmhaa
