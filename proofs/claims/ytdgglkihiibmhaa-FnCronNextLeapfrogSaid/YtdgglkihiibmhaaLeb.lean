/-
  laws.FnCronNextLeapfrog: all ways.
-/
import Derived.Test.YtdgglkihiibmhaaLea
set_option linter.unusedVariables false
set_option linter.unusedSimpArgs false
namespace Go.Proofs.Ytdgglkihiibmhaa
open Go Go.RowKit Cal Go.Proofs.YtdgglkihiibmhaaW.PrintLast

set_option maxRecDepth 100000 in
set_option maxHeartbeats 8000000 in
/-- no case of the law's: not of sets, or no instant -/
theorem leap_off (ev : Bool) (f : Six) (d kd o1 o2 s n : Int) (w : World) (hc : (!ev && goodB s n) = false) : Calls Try.prog 5 #[schV ev f d, .int .i64 kd, .int .u64 o1, .int .u64 o2, inV s n] w fun e w' => e = .returned (.bool true) ∧ Below w.heap.size w w' := by
  have HS := Lib.hid (lf_start w ev f d s n)
  have HC := Lib.hid (fun w => case_any ev f d s n w)
  rw [hc] at HC
  go_enter Try.func5, Try.ntmps5
  go_upto_region 1 with fail
  generalize (w.alloc (schO ev f d)).alloc (io s n) = W0 at *
  obtain ⟨z0, z1, z2, z3, z4, z5, z6, z7, z8, z9, -⟩ := HS.out
  clear hc
  go_wp2_with (go_at_call 15; with_reducible refine (HC.out _).mono ?_; rintro e w1 ⟨rfl, hb⟩; have HB := Lib.hid (bl_on (lf_bel HS.out) hb); clear hb)
  all_goals go_ret
  all_goals exact ⟨rfl, HB.out⟩
set_option maxRecDepth 100000 in
set_option maxHeartbeats 8000000 in
/-- no field -/
theorem leap_kind (f : Six) (d kd o1 o2 s n : Int) (w : World) (hc : goodB s n = true) (hk : (decide (0 ≤ kd) && decide (kd < 6)) = false) : Calls Try.prog 5 #[schV false f d, .int .i64 kd, .int .u64 o1, .int .u64 o2, inV s n] w fun e w' => e = .returned (.bool true) ∧ Below w.heap.size w w' := by
  have HS := Lib.hid (lf_start w false f d s n)
  have HC := Lib.hid (fun w => case_any false f d s n w)
  have HK := Lib.hid (fun w => isKind_any kd w)
  rw [hc] at HC
  rw [hk] at HK
  go_enter Try.func5, Try.ntmps5
  go_upto_region 1 with fail
  generalize (w.alloc (schO false f d)).alloc (io s n) = W0 at *
  obtain ⟨z0, z1, z2, z3, z4, z5, z6, z7, z8, z9, -⟩ := HS.out
  clear hc hk
  go_wp2_with (first
    | (go_at_call 15; with_reducible refine (HC.out _).mono ?_; rintro e w1 ⟨rfl, hb⟩; have HB := Lib.hid (bl_on (lf_bel HS.out) hb); clear hb z0 z1 z2 z3 z4 z5 z6 z7 z8 z9)
    | (go_at_call 19; with_reducible refine (HK.out _).mono ?_; rintro e w2 ⟨rfl, rfl⟩))
  all_goals go_ret
  all_goals exact ⟨rfl, HB.out⟩
set_option maxRecDepth 100000 in
set_option maxHeartbeats 8000000 in
/-- one set is a star, the other is none -/
theorem leap_star (f : Six) (d kd o1 o2 X Y s n : Int) (w : World) (hc : goodB s n = true) (hk : (decide (0 ≤ kd) && decide (kd < 6)) = true) (h1 : bits .and .u64 o1 9223372036854775808 = X) (h2 : bits .and .u64 o2 9223372036854775808 = Y) (hd : (X != Y) = true) : Calls Try.prog 5 #[schV false f d, .int .i64 kd, .int .u64 o1, .int .u64 o2, inV s n] w fun e w' => e = .returned (.bool true) ∧ Below w.heap.size w w' := by
  have HS := Lib.hid (lf_start w false f d s n)
  have HC := Lib.hid (fun w => case_any false f d s n w)
  have HK := Lib.hid (fun w => isKind_any kd w)
  rw [hc] at HC
  rw [hk] at HK
  go_enter Try.func5, Try.ntmps5
  go_upto_region 1 with fail
  generalize (w.alloc (schO false f d)).alloc (io s n) = W0 at *
  obtain ⟨z0, z1, z2, z3, z4, z5, z6, z7, z8, z9, -⟩ := HS.out
  clear hc hk
  go_wp2_with (first
    | (go_at_call 15; with_reducible refine (HC.out _).mono ?_; rintro e w1 ⟨rfl, hb⟩; have HB := Lib.hid (bl_on (lf_bel HS.out) hb); clear hb z0 z1 z2 z3 z4 z5 z6 z7 z8 z9)
    | (go_at_call 19; with_reducible refine (HK.out _).mono ?_; rintro e w2 ⟨rfl, rfl⟩))
  all_goals go_ret
  all_goals exact ⟨rfl, HB.out⟩
theorem leapfrog_any (ev : Bool) (f : Six) (d kd : Int) (o1 o2 : Nat) (ho1 : o1 < 2 ^ 64) (ho2 : o2 < 2 ^ 64) (s n : Int) (w : World) : Calls Try.prog 5 #[schV ev f d, .int .i64 kd, .int .u64 (o1 : Int), .int .u64 (o2 : Int), inV s n] w fun e w' => e = .returned (.bool true) ∧ Below w.heap.size w w' := by
  cases hc : (!ev && goodB s n)
  · exact leap_off ev f d kd o1 o2 s n w hc
  · rw [Bool.and_eq_true] at hc
    obtain ⟨hev, hg⟩ := hc
    have hev2 : ev = false := by cases ev <;> first | rfl | exact absurd hev (by decide)
    subst hev2
    cases hk : (decide (0 ≤ kd) && decide (kd < 6))
    · exact leap_kind f d kd o1 o2 s n w hg hk
    · by_cases hx : (if hb o1 63 then (9223372036854775808 : Int) else 0) = (if hb o2 63 then (9223372036854775808 : Int) else 0)
      · have hkk : 0 ≤ kd ∧ kd < 6 := by simpa using hk
        have hs : hb o1 63 = hb o2 63 := by
          revert hx
          cases hb o1 63 <;> cases hb o2 63 <;> simp
        have hz : kd = (kd.toNat : Int) := by omega
        have h6 : kd.toNat < 6 := by omega
        refine leap_go f (wth f kd.toNat (o1 &&& o2) (and_lt64 ho1)) (wth f kd.toNat o1 ho1) (wth f kd.toNat o2 ho2) d kd o1 o2 _ s n w (fun w => ?_) (fun w => ?_) (star_val o1 ho1) ((star_val o2 ho2).trans hx.symm) (fun w => ?_) (with_z false f d kd kd.toNat h6 hz o1 ho1) (with_z false f d kd kd.toNat h6 hz o2 ho2) (fits_both f kd.toNat o1 o2 ho1 ho2 hs h6) (goodB_of hg)
        · have h := case_any false f d s n w
          rw [hg] at h
          exact h
        · have h := isKind_any kd w
          rw [hk] at h
          exact h
        · rw [bits_and_nat _ _ ho1 ho2]
          exact with_z false f d kd kd.toNat h6 hz (o1 &&& o2) (and_lt64 ho1) w
      · exact leap_star f d kd o1 o2 _ _ s n w hg hk (star_val o1 ho1) (star_val o2 ho2) (bne_iff_ne.2 hx)
theorem leapfrog_int (ev : Bool) (f : Six) (d kd a b s n : Int) (w : World) (ha : 0 ≤ a ∧ a < 18446744073709551616) (hb' : 0 ≤ b ∧ b < 18446744073709551616) : Calls Try.prog 5 #[schV ev f d, .int .i64 kd, .int .u64 a, .int .u64 b, inV s n] w fun e w' => e = .returned (.bool true) ∧ Below w.heap.size w w' := by
  have h := leapfrog_any ev f d kd a.toNat b.toNat (by omega) (by omega) s n w
  rw [Int.toNat_of_nonneg ha.1, Int.toNat_of_nonneg hb'.1] at h
  exact h
end Go.Proofs.Ytdgglkihiibmhaa
