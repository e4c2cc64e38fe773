-- written by a program of mine (wip/tools/myprint.py) for this claim. Not trusted: Lean checks it.
import Derived.Test.YtlooelfkkbgmhaaDoorQSA
import Derived.Test.YtlooelfkkbgmhaaDoorQspecBare
namespace Go.Proofs.YtlooelfkkbgmhaaDoor.QS
open Go.RowKit Go.Proofs.YtlooelfkkbgmhaaDoorW.PrintWords Go.Proofs.YtlooelfkkbgmhaaDoorW.PrintLast
set_option linter.unusedVariables false
set_option linter.unusedSimpArgs false

/-! ### laws_stBare: function 40 -/
def laws_stBare.f (a0_0 : Int) (a0_1 : Int) (a0_2 : Int) (a0_3 : ByteArray) (a0_4 : ByteArray) (a1_0 : Int) (a1_1 : Int) (a1_2 : Int) (a1_3 : ByteArray) (a1_4 : ByteArray) (a2 : Int) : Option (Int × Int × Int × ByteArray × ByteArray × Int × Int × Int × ByteArray × ByteArray × Bool) := (spec_Bare.f a0_0 a0_1 a0_2 a0_3 a0_4).bind fun bt358 => ((spec_Bare.f a1_0 a1_1 a1_2 a1_3 a1_4).bind fun bt363 => (if a2 ≥ 1 then (some (bt358.1, bt358.2.1, bt358.2.2.1, bt358.2.2.2.1, bt358.2.2.2.2, bt363.1, bt363.2.1, bt363.2.2.1, bt363.2.2.2.1, bt363.2.2.2.2, decide (a2 ≤ 3))) else (some (bt358.1, bt358.2.1, bt358.2.2.1, bt358.2.2.2.1, bt358.2.2.2.2, bt363.1, bt363.2.1, bt363.2.2.1, bt363.2.2.2.1, bt363.2.2.2.2, false))))
def laws_stBare.T1 : Bool × List (List Nat × List Nat) := (true, [([], []), ([0], [0]), ([], []), ([2, 1], [2]), ([], []), ([4], [4]), ([5, 3], [5]), ([6], [6]), ([7, 6], [6, 7]), ([6, 8], [6, 8]), ([1, 6, 0, 1], [1]), ([3, 10, 0, 1, 2, 3, 10], [3]), ([9, 11, 0, 1, 2, 3, 4, 5, 6, 7, 8, 9, 10, 11], [9])])
def laws_stBare.B1 : List Nat := [0, 1, 0, 7, 0, 16, 63, 127, 255, 511, 127, 1151, 4095]
theorem laws_stBare.tab1 : rtab .any (opsOf Tryd.f40 1) = laws_stBare.T1 := by kernel_rfl
theorem laws_stBare.bits1 : waitsOk laws_stBare.T1.2 laws_stBare.B1 = true := by kernel_rfl
set_option maxHeartbeats 8000000 in
set_option maxRecDepth 100000 in
theorem laws_stBare.calls (a0_0 : Int) (a0_1 : Int) (a0_2 : Int) (a0_3 : ByteArray) (a0_4 : ByteArray) (a1_0 : Int) (a1_1 : Int) (a1_2 : Int) (a1_3 : ByteArray) (a1_4 : ByteArray) (a2 : Int) (r1 : Int) (r2 : Int) (r3 : Int) (r4 : ByteArray) (r5 : ByteArray) (r6 : Int) (r7 : Int) (r8 : Int) (r9 : ByteArray) (r10 : ByteArray) (r11 : Bool) (w : World) (h : laws_stBare.f a0_0 a0_1 a0_2 a0_3 a0_4 a1_0 a1_1 a1_2 a1_3 a1_4 a2 = some (r1, r2, r3, r4, r5, r6, r7, r8, r9, r10, r11)) :
    Calls Tryd.prog 40 #[.agg #[.int .u64 a0_0, .int .u64 a0_1, .int .u64 a0_2, .string a0_3, .string a0_4], .agg #[.int .u64 a1_0, .int .u64 a1_1, .int .u64 a1_2, .string a1_3, .string a1_4], .int .i64 a2] w fun e w' => e = .returned (.tuple #[.agg #[.int .u64 r1, .int .u64 r2, .int .u64 r3, .string r4, .string r5], .agg #[.int .u64 r6, .int .u64 r7, .int .u64 r8, .string r9, .string r10], .bool r11]) ∧ Below w.heap.size w w' := by
  have hu24 := Tryd.underlying24
  have HB := Aside0.mk (Below.refl w.heap.size w)
  have H : ((spec_Bare.f a0_0 a0_1 a0_2 a0_3 a0_4).bind fun bt358 => ((spec_Bare.f a1_0 a1_1 a1_2 a1_3 a1_4).bind fun bt363 => (if a2 ≥ 1 then (some (bt358.1, bt358.2.1, bt358.2.2.1, bt358.2.2.2.1, bt358.2.2.2.2, bt363.1, bt363.2.1, bt363.2.2.1, bt363.2.2.2.1, bt363.2.2.2.2, decide (a2 ≤ 3))) else (some (bt358.1, bt358.2.1, bt358.2.2.1, bt358.2.2.2.1, bt358.2.2.2.2, bt363.1, bt363.2.1, bt363.2.2.1, bt363.2.2.2.1, bt363.2.2.2.2, false))))) = some (r1, r2, r3, r4, r5, r6, r7, r8, r9, r10, r11) := h
  clear h
  replace H := Option.bind_eq_some_iff.mp H
  obtain ⟨⟨t358, t359, t360, t361, t362⟩, A40, H⟩ := H
  replace H : ((spec_Bare.f a1_0 a1_1 a1_2 a1_3 a1_4).bind fun bt363 => (if a2 ≥ 1 then (some (t358, t359, t360, t361, t362, bt363.1, bt363.2.1, bt363.2.2.1, bt363.2.2.2.1, bt363.2.2.2.2, decide (a2 ≤ 3))) else (some (t358, t359, t360, t361, t362, bt363.1, bt363.2.1, bt363.2.2.1, bt363.2.2.2.1, bt363.2.2.2.2, false)))) = some (r1, r2, r3, r4, r5, r6, r7, r8, r9, r10, r11) := H
  have A4 := Aside0.mk A40
  clear A40
  replace H := Option.bind_eq_some_iff.mp H
  obtain ⟨⟨t363, t364, t365, t366, t367⟩, A50, H⟩ := H
  replace H : (if a2 ≥ 1 then (some (t358, t359, t360, t361, t362, t363, t364, t365, t366, t367, decide (a2 ≤ 3))) else (some (t358, t359, t360, t361, t362, t363, t364, t365, t366, t367, false))) = some (r1, r2, r3, r4, r5, r6, r7, r8, r9, r10, r11) := H
  have A5 := Aside0.mk A50
  clear A50
  by_cases c6 : a2 ≥ 1
  · rw [if_pos c6] at H
    have c6b0 : decide (1 ≤ a2) = true := decide_eq_true c6
    clear c6
    simp only [Option.some.injEq, Prod.mk.injEq] at H
    obtain ⟨rfl, rfl, rfl, rfl, rfl, rfl, rfl, rfl, rfl, rfl, rfl⟩ := H
    go_enter Tryd.func40, Tryd.ntmps40
    try go_wp2_with (first | ((with_reducible refine gate_dst (N := 3) rfl ?_); refine box_event ?hg (N := 3) ?hd (cs := #[.int .u64 a0_0, .int .u64 a0_1, .int .u64 a0_2, .string a0_3, .string a0_4]) (t := 24) ?hr ?_; (case hd => rfl); (case hg => rfl); (case hr => first | (go_simp; done) | (go_simp; rfl)); intro gb354 hg w7 hbox hb; have n0_ := Aside0.mk (below_step (by repeat (first | (with_reducible first | exact HB.out | apply below_alloc | apply pw_below_drewN | apply below_drew1) | exact HB.out)) hb); have n1_ := Aside0.mk (hbox); have n2_ := Aside0.mk ((by rw [hg]; exact (below_size (by repeat (first | (with_reducible first | exact HB.out | apply below_alloc | apply pw_below_drewN | apply below_drew1) | exact HB.out))) : w.heap.size ≤ gb354)); have n3_ := Aside0.mk ((by rw [hg]; exact (below_size (by repeat (first | (with_reducible first | exact HB.out | apply below_alloc | apply pw_below_drewN | apply below_drew1) | exact HB.out))) : w.heap.size ≤ gb354)); clear HB; have HB := n0_; have BK354 := n1_; have GW354 := n2_; have GE354 := n3_; clear n0_ n1_ n2_ n3_; clear hb hbox hg) | ((with_reducible refine gate_dst (N := 4) rfl ?_); refine box_event ?hg (N := 4) ?hd (cs := #[.int .u64 a1_0, .int .u64 a1_1, .int .u64 a1_2, .string a1_3, .string a1_4]) (t := 24) ?hr ?_; (case hd => rfl); (case hg => rfl); (case hr => first | (go_simp; done) | (go_simp; rfl)); intro gb355 hg w8 hbox hb; have n0_ := Aside0.mk (blk_below (g := gb354) (o := .cells #[.int .u64 a0_0, .int .u64 a0_1, .int .u64 a0_2, .string a0_3, .string a0_4] 24 (0, 0)) (by (with_reducible repeat (first | refine blk_drewN ?_ _ | refine blk_drew ?_ | refine blk_alloc ?_ _)); exact BK354.out) hb); have n1_ := Aside0.mk (below_step (by repeat (first | (with_reducible first | exact HB.out | apply below_alloc | apply pw_below_drewN | apply below_drew1 | refine below_set ?_ GE354.out) | exact HB.out)) hb); have n2_ := Aside0.mk (hbox); have n3_ := Aside0.mk ((by rw [hg]; exact (below_size (by repeat (first | (with_reducible first | exact HB.out | apply below_alloc | apply pw_below_drewN | apply below_drew1 | refine below_set ?_ GE354.out) | exact HB.out))) : w.heap.size ≤ gb355)); have n4_ := Aside0.mk ((by rw [hg]; exact (below_size (by repeat (first | (with_reducible first | exact HB.out | apply below_alloc | apply pw_below_drewN | apply below_drew1 | refine below_set ?_ GE354.out) | exact HB.out))) : w.heap.size ≤ gb355)); have n5_ := Aside0.mk ((by rw [hg]; exact Nat.ne_of_lt (blk_lt (g := gb354) (o := .cells #[.int .u64 a0_0, .int .u64 a0_1, .int .u64 a0_2, .string a0_3, .string a0_4] 24 (0, 0)) (by (with_reducible repeat (first | refine blk_drewN ?_ _ | refine blk_drew ?_ | refine blk_alloc ?_ _)); exact BK354.out)) : gb354 ≠ gb355)); have n6_ := Aside0.mk ((by rw [hg]; exact Nat.ne_of_gt (blk_lt (g := gb354) (o := .cells #[.int .u64 a0_0, .int .u64 a0_1, .int .u64 a0_2, .string a0_3, .string a0_4] 24 (0, 0)) (by (with_reducible repeat (first | refine blk_drewN ?_ _ | refine blk_drew ?_ | refine blk_alloc ?_ _)); exact BK354.out)) : gb355 ≠ gb354)); clear BK354; clear HB; have BK354 := n0_; have HB := n1_; have BK355 := n2_; have GW355 := n3_; have GE355 := n4_; have NB354_355 := n5_; have NB355_354 := n6_; clear n0_ n1_ n2_ n3_ n4_ n5_ n6_; clear hb hbox hg) | ((with_reducible refine gate_dst (N := 6) rfl ?_); refine box_event ?hg (N := 6) ?hd (cs := #[.int .u64 0, .int .u64 0, .int .u64 0, .string (⟨#[]⟩ : ByteArray), .string (⟨#[]⟩ : ByteArray)]) (t := 24) ?hr ?_; (case hd => rfl); (case hg => rfl); (case hr => first | (go_simp; done) | (go_simp; rfl)); intro gb356 hg w9 hbox hb; have n0_ := Aside0.mk (blk_below (g := gb354) (o := .cells #[.int .u64 a0_0, .int .u64 a0_1, .int .u64 a0_2, .string a0_3, .string a0_4] 24 (0, 0)) (by (with_reducible repeat (first | refine blk_drewN ?_ _ | refine blk_drew ?_ | refine blk_alloc ?_ _)); exact BK354.out) hb); have n1_ := Aside0.mk (blk_below (g := gb355) (o := .cells #[.int .u64 a1_0, .int .u64 a1_1, .int .u64 a1_2, .string a1_3, .string a1_4] 24 (0, 0)) (by (with_reducible repeat (first | refine blk_drewN ?_ _ | refine blk_drew ?_ | refine blk_alloc ?_ _)); exact BK355.out) hb); have n2_ := Aside0.mk (below_step (by repeat (first | (with_reducible first | exact HB.out | apply below_alloc | apply pw_below_drewN | apply below_drew1 | refine below_set ?_ GE354.out | refine below_set ?_ GE355.out) | exact HB.out)) hb); have n3_ := Aside0.mk (hbox); have n4_ := Aside0.mk ((by rw [hg]; exact (below_size (by repeat (first | (with_reducible first | exact HB.out | apply below_alloc | apply pw_below_drewN | apply below_drew1 | refine below_set ?_ GE354.out | refine below_set ?_ GE355.out) | exact HB.out))) : w.heap.size ≤ gb356)); have n5_ := Aside0.mk ((by rw [hg]; exact (below_size (by repeat (first | (with_reducible first | exact HB.out | apply below_alloc | apply pw_below_drewN | apply below_drew1 | refine below_set ?_ GE354.out | refine below_set ?_ GE355.out) | exact HB.out))) : w.heap.size ≤ gb356)); have n6_ := Aside0.mk ((by rw [hg]; exact Nat.ne_of_lt (blk_lt (g := gb354) (o := .cells #[.int .u64 a0_0, .int .u64 a0_1, .int .u64 a0_2, .string a0_3, .string a0_4] 24 (0, 0)) (by (with_reducible repeat (first | refine blk_drewN ?_ _ | refine blk_drew ?_ | refine blk_alloc ?_ _)); exact BK354.out)) : gb354 ≠ gb356)); have n7_ := Aside0.mk ((by rw [hg]; exact Nat.ne_of_gt (blk_lt (g := gb354) (o := .cells #[.int .u64 a0_0, .int .u64 a0_1, .int .u64 a0_2, .string a0_3, .string a0_4] 24 (0, 0)) (by (with_reducible repeat (first | refine blk_drewN ?_ _ | refine blk_drew ?_ | refine blk_alloc ?_ _)); exact BK354.out)) : gb356 ≠ gb354)); have n8_ := Aside0.mk ((by rw [hg]; exact Nat.ne_of_lt (blk_lt (g := gb355) (o := .cells #[.int .u64 a1_0, .int .u64 a1_1, .int .u64 a1_2, .string a1_3, .string a1_4] 24 (0, 0)) (by (with_reducible repeat (first | refine blk_drewN ?_ _ | refine blk_drew ?_ | refine blk_alloc ?_ _)); exact BK355.out)) : gb355 ≠ gb356)); have n9_ := Aside0.mk ((by rw [hg]; exact Nat.ne_of_gt (blk_lt (g := gb355) (o := .cells #[.int .u64 a1_0, .int .u64 a1_1, .int .u64 a1_2, .string a1_3, .string a1_4] 24 (0, 0)) (by (with_reducible repeat (first | refine blk_drewN ?_ _ | refine blk_drew ?_ | refine blk_alloc ?_ _)); exact BK355.out)) : gb356 ≠ gb355)); clear BK354; clear BK355; clear HB; have BK354 := n0_; have BK355 := n1_; have HB := n2_; have BK356 := n3_; have GW356 := n4_; have GE356 := n5_; have NB354_356 := n6_; have NB356_354 := n7_; have NB355_356 := n8_; have NB356_355 := n9_; clear n0_ n1_ n2_ n3_ n4_ n5_ n6_ n7_ n8_ n9_; clear hb hbox hg) | ((with_reducible refine gate_dst (N := 7) rfl ?_); refine box_event ?hg (N := 7) ?hd (cs := #[.int .u64 0, .int .u64 0, .int .u64 0, .string (⟨#[]⟩ : ByteArray), .string (⟨#[]⟩ : ByteArray)]) (t := 24) ?hr ?_; (case hd => rfl); (case hg => rfl); (case hr => first | (go_simp; done) | (go_simp; rfl)); intro gb357 hg w10 hbox hb; have n0_ := Aside0.mk (blk_below (g := gb354) (o := .cells #[.int .u64 a0_0, .int .u64 a0_1, .int .u64 a0_2, .string a0_3, .string a0_4] 24 (0, 0)) (by (with_reducible repeat (first | refine blk_drewN ?_ _ | refine blk_drew ?_ | refine blk_alloc ?_ _)); exact BK354.out) hb); have n1_ := Aside0.mk (blk_below (g := gb355) (o := .cells #[.int .u64 a1_0, .int .u64 a1_1, .int .u64 a1_2, .string a1_3, .string a1_4] 24 (0, 0)) (by (with_reducible repeat (first | refine blk_drewN ?_ _ | refine blk_drew ?_ | refine blk_alloc ?_ _)); exact BK355.out) hb); have n2_ := Aside0.mk (blk_below (g := gb356) (o := .cells #[.int .u64 0, .int .u64 0, .int .u64 0, .string (⟨#[]⟩ : ByteArray), .string (⟨#[]⟩ : ByteArray)] 24 (0, 0)) (by (with_reducible repeat (first | refine blk_drewN ?_ _ | refine blk_drew ?_ | refine blk_alloc ?_ _)); exact BK356.out) hb); have n3_ := Aside0.mk (below_step (by repeat (first | (with_reducible first | exact HB.out | apply below_alloc | apply pw_below_drewN | apply below_drew1 | refine below_set ?_ GE354.out | refine below_set ?_ GE355.out | refine below_set ?_ GE356.out) | exact HB.out)) hb); have n4_ := Aside0.mk (hbox); have n5_ := Aside0.mk ((by rw [hg]; exact (below_size (by repeat (first | (with_reducible first | exact HB.out | apply below_alloc | apply pw_below_drewN | apply below_drew1 | refine below_set ?_ GE354.out | refine below_set ?_ GE355.out | refine below_set ?_ GE356.out) | exact HB.out))) : w.heap.size ≤ gb357)); have n6_ := Aside0.mk ((by rw [hg]; exact (below_size (by repeat (first | (with_reducible first | exact HB.out | apply below_alloc | apply pw_below_drewN | apply below_drew1 | refine below_set ?_ GE354.out | refine below_set ?_ GE355.out | refine below_set ?_ GE356.out) | exact HB.out))) : w.heap.size ≤ gb357)); have n7_ := Aside0.mk ((by rw [hg]; exact Nat.ne_of_lt (blk_lt (g := gb354) (o := .cells #[.int .u64 a0_0, .int .u64 a0_1, .int .u64 a0_2, .string a0_3, .string a0_4] 24 (0, 0)) (by (with_reducible repeat (first | refine blk_drewN ?_ _ | refine blk_drew ?_ | refine blk_alloc ?_ _)); exact BK354.out)) : gb354 ≠ gb357)); have n8_ := Aside0.mk ((by rw [hg]; exact Nat.ne_of_gt (blk_lt (g := gb354) (o := .cells #[.int .u64 a0_0, .int .u64 a0_1, .int .u64 a0_2, .string a0_3, .string a0_4] 24 (0, 0)) (by (with_reducible repeat (first | refine blk_drewN ?_ _ | refine blk_drew ?_ | refine blk_alloc ?_ _)); exact BK354.out)) : gb357 ≠ gb354)); have n9_ := Aside0.mk ((by rw [hg]; exact Nat.ne_of_lt (blk_lt (g := gb355) (o := .cells #[.int .u64 a1_0, .int .u64 a1_1, .int .u64 a1_2, .string a1_3, .string a1_4] 24 (0, 0)) (by (with_reducible repeat (first | refine blk_drewN ?_ _ | refine blk_drew ?_ | refine blk_alloc ?_ _)); exact BK355.out)) : gb355 ≠ gb357)); have n10_ := Aside0.mk ((by rw [hg]; exact Nat.ne_of_gt (blk_lt (g := gb355) (o := .cells #[.int .u64 a1_0, .int .u64 a1_1, .int .u64 a1_2, .string a1_3, .string a1_4] 24 (0, 0)) (by (with_reducible repeat (first | refine blk_drewN ?_ _ | refine blk_drew ?_ | refine blk_alloc ?_ _)); exact BK355.out)) : gb357 ≠ gb355)); have n11_ := Aside0.mk ((by rw [hg]; exact Nat.ne_of_lt (blk_lt (g := gb356) (o := .cells #[.int .u64 0, .int .u64 0, .int .u64 0, .string (⟨#[]⟩ : ByteArray), .string (⟨#[]⟩ : ByteArray)] 24 (0, 0)) (by (with_reducible repeat (first | refine blk_drewN ?_ _ | refine blk_drew ?_ | refine blk_alloc ?_ _)); exact BK356.out)) : gb356 ≠ gb357)); have n12_ := Aside0.mk ((by rw [hg]; exact Nat.ne_of_gt (blk_lt (g := gb356) (o := .cells #[.int .u64 0, .int .u64 0, .int .u64 0, .string (⟨#[]⟩ : ByteArray), .string (⟨#[]⟩ : ByteArray)] 24 (0, 0)) (by (with_reducible repeat (first | refine blk_drewN ?_ _ | refine blk_drew ?_ | refine blk_alloc ?_ _)); exact BK356.out)) : gb357 ≠ gb356)); clear BK354; clear BK355; clear BK356; clear HB; have BK354 := n0_; have BK355 := n1_; have BK356 := n2_; have HB := n3_; have BK357 := n4_; have GW357 := n5_; have GE357 := n6_; have NB354_357 := n7_; have NB357_354 := n8_; have NB355_357 := n9_; have NB357_355 := n10_; have NB356_357 := n11_; have NB357_356 := n12_; clear n0_ n1_ n2_ n3_ n4_ n5_ n6_ n7_ n8_ n9_ n10_ n11_ n12_; clear hb hbox hg))
    have n0_ := Aside0.mk (blk_drew BK354.out)
    have n1_ := Aside0.mk (blk_drew BK355.out)
    have n2_ := Aside0.mk (blk_drew BK356.out)
    have n3_ := Aside0.mk (blk_drew BK357.out)
    have n4_ := Aside0.mk (below_drew1 HB.out)
    clear BK354
    clear BK355
    clear BK356
    clear BK357
    clear HB
    have BK354 := n0_
    have BK355 := n1_
    have BK356 := n2_
    have BK357 := n3_
    have HB := n4_
    clear n0_ n1_ n2_ n3_ n4_
    refine start_ (n := 13) (S := fun w' => w'.cell? ⟨gb354, 0, none⟩ = some (.int .u64 a0_0) ∧ w'.cell? ⟨gb354, 1, none⟩ = some (.int .u64 a0_1) ∧ w'.cell? ⟨gb354, 2, none⟩ = some (.int .u64 a0_2) ∧ w'.cell? ⟨gb354, 3, none⟩ = some (.string a0_3) ∧ w'.cell? ⟨gb354, 4, none⟩ = some (.string a0_4) ∧ w'.cell? ⟨gb355, 0, none⟩ = some (.int .u64 a1_0) ∧ w'.cell? ⟨gb355, 1, none⟩ = some (.int .u64 a1_1) ∧ w'.cell? ⟨gb355, 2, none⟩ = some (.int .u64 a1_2) ∧ w'.cell? ⟨gb355, 3, none⟩ = some (.string a1_3) ∧ w'.cell? ⟨gb355, 4, none⟩ = some (.string a1_4)) (ds := []) #[false, false, false, false, false, false, false, false, false, false, false, false, false] (by kernel_rfl) rfl rfl ⟨(blk_cell BK354.out 0).trans rfl, (blk_cell BK354.out 1).trans rfl, (blk_cell BK354.out 2).trans rfl, (blk_cell BK354.out 3).trans rfl, (blk_cell BK354.out 4).trans rfl, (blk_cell BK355.out 0).trans rfl, (blk_cell BK355.out 1).trans rfl, (blk_cell BK355.out 2).trans rfl, (blk_cell BK355.out 3).trans rfl, (blk_cell BK355.out 4).trans rfl⟩ (fun hHeld => ?_); refine with_tabW laws_stBare.tab1 laws_stBare.bits1 (fun HT_ HW_ => ?_)
    generalize w10.drew = w11 at BK354 BK355 BK356 BK357 HB hHeld ⊢
    refine pure_ (i := 4) (N := some 13) (v := ?_) (a' := ?_) #[false, false, false, false, true, false, false, false, false, false, false, false, false] rfl rfl (any_of HT_.out (by kernel_rfl)) (fun _ _ _ h => h) (Or.inl ⟨by rfl, ?_⟩) ?_ ?_
    rotate_left
    · intro w'
      go_simp
      with_reducible rfl
    rotate_left
    · simp only [Act.put, List.setIfInBounds_toArray, List.set_cons_zero, List.set_cons_succ, i64_w, i32_w]
      rfl
    refine pure_ (i := 5) (N := some 14) (v := ?_) (a' := ?_) #[false, false, false, false, true, true, false, false, false, false, false, false, false] rfl rfl (any_of HT_.out (by kernel_rfl)) (fun _ _ _ h => h) (Or.inl ⟨by rfl, ?_⟩) ?_ ?_
    rotate_left
    · intro w'
      go_simp
      with_reducible rfl
    rotate_left
    · simp only [Act.put, List.setIfInBounds_toArray, List.set_cons_zero, List.set_cons_succ, i64_w, i32_w]
      rfl
    refine take_ (i := 0) (N := some 9) (v := ?_) (a' := ?_) #[true, false, false, false, true, true, false, false, false, false, false, false, false] rfl rfl (take_ofW HT_.out HW_.out (by kernel_rfl)) (fun _ _ _ h => h) (Or.inl ⟨by rfl, ?_⟩) hHeld ?_ ?_
    rotate_left
    · rintro w' ⟨s0, s1, s2, s3, s4, s5, s6, s7, s8, s9⟩
      go_simp
      with_reducible rfl
    rotate_left
    · simp only [Act.put, List.setIfInBounds_toArray, List.set_cons_zero, List.set_cons_succ, i64_w, i32_w]
      rfl
    refine take_ (i := 2) (N := some 11) (v := ?_) (a' := ?_) #[true, false, true, false, true, true, false, false, false, false, false, false, false] rfl rfl (take_ofW HT_.out HW_.out (by kernel_rfl)) (fun _ _ _ h => h) (Or.inl ⟨by rfl, ?_⟩) hHeld ?_ ?_
    rotate_left
    · rintro w' ⟨s0, s1, s2, s3, s4, s5, s6, s7, s8, s9⟩
      go_simp
      with_reducible rfl
    rotate_left
    · simp only [Act.put, List.setIfInBounds_toArray, List.set_cons_zero, List.set_cons_succ, i64_w, i32_w]
      rfl
    refine one_ (i := 1) (N := some 10) #[true, true, true, false, true, true, false, false, false, false, false, false, false] rfl rfl (one_of HT_.out (by kernel_rfl)) (by decide) (fun K hK => ?_)
    refine goes_ Tryd.func39 (by kernel_rfl) rfl #[.agg #[.int .u64 a0_0, .int .u64 a0_1, .int .u64 a0_2, .string a0_3, .string a0_4]] (by rfl) rfl rfl (by (try simp only [List.map_toArray, List.map_cons, List.map_nil]); first | done | rfl | (simp only [List.length_drop, List.length_take]; rfl)) ?_
    with_reducible refine (spec_Bare.calls a0_0 a0_1 a0_2 a0_3 a0_4 t358 t359 t360 t361 t362 _ A4.out).mono ?_
    rintro e w12 ⟨rfl, hb⟩
    refine ⟨_, rfl, ?_⟩
    have n0_ := Aside0.mk (blk_below (g := gb354) (o := .cells #[.int .u64 a0_0, .int .u64 a0_1, .int .u64 a0_2, .string a0_3, .string a0_4] 24 (0, 0)) (by (with_reducible repeat (first | refine blk_drewN ?_ _ | refine blk_drew ?_ | refine blk_alloc ?_ _)); exact BK354.out) hb)
    have n1_ := Aside0.mk (blk_below (g := gb355) (o := .cells #[.int .u64 a1_0, .int .u64 a1_1, .int .u64 a1_2, .string a1_3, .string a1_4] 24 (0, 0)) (by (with_reducible repeat (first | refine blk_drewN ?_ _ | refine blk_drew ?_ | refine blk_alloc ?_ _)); exact BK355.out) hb)
    have n2_ := Aside0.mk (blk_below (g := gb356) (o := .cells #[.int .u64 0, .int .u64 0, .int .u64 0, .string (⟨#[]⟩ : ByteArray), .string (⟨#[]⟩ : ByteArray)] 24 (0, 0)) (by (with_reducible repeat (first | refine blk_drewN ?_ _ | refine blk_drew ?_ | refine blk_alloc ?_ _)); exact BK356.out) hb)
    have n3_ := Aside0.mk (blk_below (g := gb357) (o := .cells #[.int .u64 0, .int .u64 0, .int .u64 0, .string (⟨#[]⟩ : ByteArray), .string (⟨#[]⟩ : ByteArray)] 24 (0, 0)) (by (with_reducible repeat (first | refine blk_drewN ?_ _ | refine blk_drew ?_ | refine blk_alloc ?_ _)); exact BK357.out) hb)
    have n4_ := Aside0.mk (below_step (by repeat (first | (with_reducible first | exact HB.out | apply below_alloc | apply pw_below_drewN | apply below_drew1 | refine below_set ?_ GE354.out | refine below_set ?_ GE355.out | refine below_set ?_ GE356.out | refine below_set ?_ GE357.out) | exact HB.out)) hb)
    clear BK354
    clear BK355
    clear BK356
    clear BK357
    clear HB
    have BK354 := n0_
    have BK355 := n1_
    have BK356 := n2_
    have BK357 := n3_
    have HB := n4_
    clear n0_ n1_ n2_ n3_ n4_
    (try clear hb)
    (try clear hb2)
    (try clear hk)
    (try clear hi)
    refine hK.out _ _ ⟨(blk_cell BK354.out 0).trans rfl, (blk_cell BK354.out 1).trans rfl, (blk_cell BK354.out 2).trans rfl, (blk_cell BK354.out 3).trans rfl, (blk_cell BK354.out 4).trans rfl, (blk_cell BK355.out 0).trans rfl, (blk_cell BK355.out 1).trans rfl, (blk_cell BK355.out 2).trans rfl, (blk_cell BK355.out 3).trans rfl, (blk_cell BK355.out 4).trans rfl⟩ (fun hHeld => ?_)
    clear hK K
    refine norm_ (a' := ?_) ?_ ?_
    rotate_left
    · show Act.put _ (some 10) _ = _
      simp only [Act.put, List.setIfInBounds_toArray, List.set_cons_zero, List.set_cons_succ, i64_w, i32_w]
      rfl
    refine one_ (i := 3) (N := some 12) #[true, true, true, true, true, true, false, false, false, false, false, false, false] rfl rfl (one_of HT_.out (by kernel_rfl)) (by decide) (fun K hK => ?_)
    refine goes_ Tryd.func39 (by kernel_rfl) rfl #[.agg #[.int .u64 a1_0, .int .u64 a1_1, .int .u64 a1_2, .string a1_3, .string a1_4]] (by rfl) rfl rfl (by (try simp only [List.map_toArray, List.map_cons, List.map_nil]); first | done | rfl | (simp only [List.length_drop, List.length_take]; rfl)) ?_
    with_reducible refine (spec_Bare.calls a1_0 a1_1 a1_2 a1_3 a1_4 t363 t364 t365 t366 t367 _ A5.out).mono ?_
    rintro e w13 ⟨rfl, hb⟩
    refine ⟨_, rfl, ?_⟩
    have n0_ := Aside0.mk (blk_below (g := gb354) (o := .cells #[.int .u64 a0_0, .int .u64 a0_1, .int .u64 a0_2, .string a0_3, .string a0_4] 24 (0, 0)) (by (with_reducible repeat (first | refine blk_drewN ?_ _ | refine blk_drew ?_ | refine blk_alloc ?_ _)); exact BK354.out) hb)
    have n1_ := Aside0.mk (blk_below (g := gb355) (o := .cells #[.int .u64 a1_0, .int .u64 a1_1, .int .u64 a1_2, .string a1_3, .string a1_4] 24 (0, 0)) (by (with_reducible repeat (first | refine blk_drewN ?_ _ | refine blk_drew ?_ | refine blk_alloc ?_ _)); exact BK355.out) hb)
    have n2_ := Aside0.mk (blk_below (g := gb356) (o := .cells #[.int .u64 0, .int .u64 0, .int .u64 0, .string (⟨#[]⟩ : ByteArray), .string (⟨#[]⟩ : ByteArray)] 24 (0, 0)) (by (with_reducible repeat (first | refine blk_drewN ?_ _ | refine blk_drew ?_ | refine blk_alloc ?_ _)); exact BK356.out) hb)
    have n3_ := Aside0.mk (blk_below (g := gb357) (o := .cells #[.int .u64 0, .int .u64 0, .int .u64 0, .string (⟨#[]⟩ : ByteArray), .string (⟨#[]⟩ : ByteArray)] 24 (0, 0)) (by (with_reducible repeat (first | refine blk_drewN ?_ _ | refine blk_drew ?_ | refine blk_alloc ?_ _)); exact BK357.out) hb)
    have n4_ := Aside0.mk (below_step (by repeat (first | (with_reducible first | exact HB.out | apply below_alloc | apply pw_below_drewN | apply below_drew1 | refine below_set ?_ GE354.out | refine below_set ?_ GE355.out | refine below_set ?_ GE356.out | refine below_set ?_ GE357.out) | exact HB.out)) hb)
    clear BK354
    clear BK355
    clear BK356
    clear BK357
    clear HB
    have BK354 := n0_
    have BK355 := n1_
    have BK356 := n2_
    have BK357 := n3_
    have HB := n4_
    clear n0_ n1_ n2_ n3_ n4_
    (try clear hb)
    (try clear hb2)
    (try clear hk)
    (try clear hi)
    refine hK.out _ _ ⟨(blk_cell BK354.out 0).trans rfl, (blk_cell BK354.out 1).trans rfl, (blk_cell BK354.out 2).trans rfl, (blk_cell BK354.out 3).trans rfl, (blk_cell BK354.out 4).trans rfl, (blk_cell BK355.out 0).trans rfl, (blk_cell BK355.out 1).trans rfl, (blk_cell BK355.out 2).trans rfl, (blk_cell BK355.out 3).trans rfl, (blk_cell BK355.out 4).trans rfl⟩ (fun hHeld => ?_)
    clear hK K
    refine norm_ (a' := ?_) ?_ ?_
    rotate_left
    · show Act.put _ (some 12) _ = _
      simp only [Act.put, List.setIfInBounds_toArray, List.set_cons_zero, List.set_cons_succ, i64_w, i32_w]
      rfl
    refine pure_ (i := 6) (N := some 15) (v := ?_) (a' := ?_) #[true, true, true, true, true, true, true, false, false, false, false, false, false] rfl rfl (any_of HT_.out (by kernel_rfl)) (fun _ _ _ h => h) (Or.inl ⟨by rfl, ?_⟩) ?_ ?_
    rotate_left
    · intro w'
      go_simp
      with_reducible rfl
    rotate_left
    · simp only [Act.put, List.setIfInBounds_toArray, List.set_cons_zero, List.set_cons_succ, i64_w, i32_w]
      rfl
    refine pure_ (i := 7) (N := some 16) (v := ?_) (a' := ?_) #[true, true, true, true, true, true, true, true, false, false, false, false, false] rfl rfl (any_of HT_.out (by kernel_rfl)) (fun _ _ _ h => h) (Or.inl ⟨by rfl, ?_⟩) ?_ ?_
    rotate_left
    · intro w'
      go_simp
      with_reducible rfl
    rotate_left
    · simp only [Act.put, List.setIfInBounds_toArray, List.set_cons_zero, List.set_cons_succ, i64_w, i32_w]
      rfl
    refine pure_ (i := 8) (N := some 17) (v := ?_) (a' := ?_) #[true, true, true, true, true, true, true, true, true, false, false, false, false] rfl rfl (any_of HT_.out (by kernel_rfl)) (fun _ _ _ h => h) (Or.inl ⟨by rfl, ?_⟩) ?_ ?_
    rotate_left
    · intro w'
      go_simp
      with_reducible rfl
    rotate_left
    · simp only [Act.put, List.setIfInBounds_toArray, List.set_cons_zero, List.set_cons_succ, i64_w, i32_w]
      rfl
    refine pure_ (i := 9) (N := some 18) (v := ?_) (a' := ?_) #[true, true, true, true, true, true, true, true, true, true, false, false, false] rfl rfl (any_of HT_.out (by kernel_rfl)) (fun _ _ _ h => h) (Or.inl ⟨by rfl, ?_⟩) ?_ ?_
    rotate_left
    · intro w'
      go_simp
      with_reducible rfl
    rotate_left
    · simp only [Act.put, List.setIfInBounds_toArray, List.set_cons_zero, List.set_cons_succ, i64_w, i32_w]
      rfl
    refine one_ (i := 10) (N := none) #[true, true, true, true, true, true, true, true, true, true, true, false, false] rfl rfl (one_of HT_.out (by kernel_rfl)) (by decide) (fun K hK => ?_)
    have hs14 : w13.cell? ⟨gb356, 0, none⟩ = some (.int .u64 0) := (blk_cell BK356.out 0).trans rfl
    have hfs14 := blk_frozen BK356.out 0
    have hns14_0 := NB354_356.out
    have hns14_1 := NB355_356.out
    have hns14_3 := NB357_356.out
    have hms14_0 := NB356_354.out
    have hms14_1 := NB356_355.out
    have hms14_3 := NB356_357.out
    have hs15 : w13.cell? ⟨gb356, 1, none⟩ = some (.int .u64 0) := (blk_cell BK356.out 1).trans rfl
    have hfs15 := blk_frozen BK356.out 1
    have hns15_0 := NB354_356.out
    have hns15_1 := NB355_356.out
    have hns15_3 := NB357_356.out
    have hms15_0 := NB356_354.out
    have hms15_1 := NB356_355.out
    have hms15_3 := NB356_357.out
    have hs16 : w13.cell? ⟨gb356, 2, none⟩ = some (.int .u64 0) := (blk_cell BK356.out 2).trans rfl
    have hfs16 := blk_frozen BK356.out 2
    have hns16_0 := NB354_356.out
    have hns16_1 := NB355_356.out
    have hns16_3 := NB357_356.out
    have hms16_0 := NB356_354.out
    have hms16_1 := NB356_355.out
    have hms16_3 := NB356_357.out
    have hs17 : w13.cell? ⟨gb356, 3, none⟩ = some (.string (⟨#[]⟩ : ByteArray)) := (blk_cell BK356.out 3).trans rfl
    have hfs17 := blk_frozen BK356.out 3
    have hns17_0 := NB354_356.out
    have hns17_1 := NB355_356.out
    have hns17_3 := NB357_356.out
    have hms17_0 := NB356_354.out
    have hms17_1 := NB356_355.out
    have hms17_3 := NB356_357.out
    have hs18 : w13.cell? ⟨gb356, 4, none⟩ = some (.string (⟨#[]⟩ : ByteArray)) := (blk_cell BK356.out 4).trans rfl
    have hfs18 := blk_frozen BK356.out 4
    have hns18_0 := NB354_356.out
    have hns18_1 := NB355_356.out
    have hns18_3 := NB357_356.out
    have hms18_0 := NB356_354.out
    have hms18_1 := NB356_355.out
    have hms18_3 := NB356_357.out
    refine skip_ (w1 := ?_) (by rfl) rfl ?_ ?_
    rotate_left
    · go_simp
      rfl
    refine hK.out _ _ ⟨((cell_far (p := ⟨gb356, _, none⟩) NB354_356.out _).trans (((cell_far (p := ⟨gb356, _, none⟩) NB354_356.out _).trans (((cell_far (p := ⟨gb356, _, none⟩) NB354_356.out _).trans (((cell_far (p := ⟨gb356, _, none⟩) NB354_356.out _).trans (((cell_far (p := ⟨gb356, _, none⟩) NB354_356.out _).trans (hHeld.1)))))))))), ((cell_far (p := ⟨gb356, _, none⟩) NB354_356.out _).trans (((cell_far (p := ⟨gb356, _, none⟩) NB354_356.out _).trans (((cell_far (p := ⟨gb356, _, none⟩) NB354_356.out _).trans (((cell_far (p := ⟨gb356, _, none⟩) NB354_356.out _).trans (((cell_far (p := ⟨gb356, _, none⟩) NB354_356.out _).trans (hHeld.2.1)))))))))), ((cell_far (p := ⟨gb356, _, none⟩) NB354_356.out _).trans (((cell_far (p := ⟨gb356, _, none⟩) NB354_356.out _).trans (((cell_far (p := ⟨gb356, _, none⟩) NB354_356.out _).trans (((cell_far (p := ⟨gb356, _, none⟩) NB354_356.out _).trans (((cell_far (p := ⟨gb356, _, none⟩) NB354_356.out _).trans (hHeld.2.2.1)))))))))), ((cell_far (p := ⟨gb356, _, none⟩) NB354_356.out _).trans (((cell_far (p := ⟨gb356, _, none⟩) NB354_356.out _).trans (((cell_far (p := ⟨gb356, _, none⟩) NB354_356.out _).trans (((cell_far (p := ⟨gb356, _, none⟩) NB354_356.out _).trans (((cell_far (p := ⟨gb356, _, none⟩) NB354_356.out _).trans (hHeld.2.2.2.1)))))))))), ((cell_far (p := ⟨gb356, _, none⟩) NB354_356.out _).trans (((cell_far (p := ⟨gb356, _, none⟩) NB354_356.out _).trans (((cell_far (p := ⟨gb356, _, none⟩) NB354_356.out _).trans (((cell_far (p := ⟨gb356, _, none⟩) NB354_356.out _).trans (((cell_far (p := ⟨gb356, _, none⟩) NB354_356.out _).trans (hHeld.2.2.2.2.1)))))))))), ((cell_far (p := ⟨gb356, _, none⟩) NB355_356.out _).trans (((cell_far (p := ⟨gb356, _, none⟩) NB355_356.out _).trans (((cell_far (p := ⟨gb356, _, none⟩) NB355_356.out _).trans (((cell_far (p := ⟨gb356, _, none⟩) NB355_356.out _).trans (((cell_far (p := ⟨gb356, _, none⟩) NB355_356.out _).trans (hHeld.2.2.2.2.2.1)))))))))), ((cell_far (p := ⟨gb356, _, none⟩) NB355_356.out _).trans (((cell_far (p := ⟨gb356, _, none⟩) NB355_356.out _).trans (((cell_far (p := ⟨gb356, _, none⟩) NB355_356.out _).trans (((cell_far (p := ⟨gb356, _, none⟩) NB355_356.out _).trans (((cell_far (p := ⟨gb356, _, none⟩) NB355_356.out _).trans (hHeld.2.2.2.2.2.2.1)))))))))), ((cell_far (p := ⟨gb356, _, none⟩) NB355_356.out _).trans (((cell_far (p := ⟨gb356, _, none⟩) NB355_356.out _).trans (((cell_far (p := ⟨gb356, _, none⟩) NB355_356.out _).trans (((cell_far (p := ⟨gb356, _, none⟩) NB355_356.out _).trans (((cell_far (p := ⟨gb356, _, none⟩) NB355_356.out _).trans (hHeld.2.2.2.2.2.2.2.1)))))))))), ((cell_far (p := ⟨gb356, _, none⟩) NB355_356.out _).trans (((cell_far (p := ⟨gb356, _, none⟩) NB355_356.out _).trans (((cell_far (p := ⟨gb356, _, none⟩) NB355_356.out _).trans (((cell_far (p := ⟨gb356, _, none⟩) NB355_356.out _).trans (((cell_far (p := ⟨gb356, _, none⟩) NB355_356.out _).trans (hHeld.2.2.2.2.2.2.2.2.1)))))))))), ((cell_far (p := ⟨gb356, _, none⟩) NB355_356.out _).trans (((cell_far (p := ⟨gb356, _, none⟩) NB355_356.out _).trans (((cell_far (p := ⟨gb356, _, none⟩) NB355_356.out _).trans (((cell_far (p := ⟨gb356, _, none⟩) NB355_356.out _).trans (((cell_far (p := ⟨gb356, _, none⟩) NB355_356.out _).trans (hHeld.2.2.2.2.2.2.2.2.2))))))))))⟩ (fun hHeld => ?_)
    clear hK K
    refine one_ (i := 11) (N := none) #[true, true, true, true, true, true, true, true, true, true, true, true, false] rfl rfl (one_of HT_.out (by kernel_rfl)) (by decide) (fun K hK => ?_)
    have hs19 : w13.cell? ⟨gb357, 0, none⟩ = some (.int .u64 0) := (blk_cell BK357.out 0).trans rfl
    have hfs19 := blk_frozen BK357.out 0
    have hns19_0 := NB354_357.out
    have hns19_1 := NB355_357.out
    have hns19_2 := NB356_357.out
    have hms19_0 := NB357_354.out
    have hms19_1 := NB357_355.out
    have hms19_2 := NB357_356.out
    have hs20 : w13.cell? ⟨gb357, 1, none⟩ = some (.int .u64 0) := (blk_cell BK357.out 1).trans rfl
    have hfs20 := blk_frozen BK357.out 1
    have hns20_0 := NB354_357.out
    have hns20_1 := NB355_357.out
    have hns20_2 := NB356_357.out
    have hms20_0 := NB357_354.out
    have hms20_1 := NB357_355.out
    have hms20_2 := NB357_356.out
    have hs21 : w13.cell? ⟨gb357, 2, none⟩ = some (.int .u64 0) := (blk_cell BK357.out 2).trans rfl
    have hfs21 := blk_frozen BK357.out 2
    have hns21_0 := NB354_357.out
    have hns21_1 := NB355_357.out
    have hns21_2 := NB356_357.out
    have hms21_0 := NB357_354.out
    have hms21_1 := NB357_355.out
    have hms21_2 := NB357_356.out
    have hs22 : w13.cell? ⟨gb357, 3, none⟩ = some (.string (⟨#[]⟩ : ByteArray)) := (blk_cell BK357.out 3).trans rfl
    have hfs22 := blk_frozen BK357.out 3
    have hns22_0 := NB354_357.out
    have hns22_1 := NB355_357.out
    have hns22_2 := NB356_357.out
    have hms22_0 := NB357_354.out
    have hms22_1 := NB357_355.out
    have hms22_2 := NB357_356.out
    have hs23 : w13.cell? ⟨gb357, 4, none⟩ = some (.string (⟨#[]⟩ : ByteArray)) := (blk_cell BK357.out 4).trans rfl
    have hfs23 := blk_frozen BK357.out 4
    have hns23_0 := NB354_357.out
    have hns23_1 := NB355_357.out
    have hns23_2 := NB356_357.out
    have hms23_0 := NB357_354.out
    have hms23_1 := NB357_355.out
    have hms23_2 := NB357_356.out
    refine skip_ (w1 := ?_) (by rfl) rfl ?_ ?_
    rotate_left
    · go_simp
      rfl
    refine hK.out _ _ ⟨((cell_far (p := ⟨gb357, _, none⟩) NB354_357.out _).trans (((cell_far (p := ⟨gb357, _, none⟩) NB354_357.out _).trans (((cell_far (p := ⟨gb357, _, none⟩) NB354_357.out _).trans (((cell_far (p := ⟨gb357, _, none⟩) NB354_357.out _).trans (((cell_far (p := ⟨gb357, _, none⟩) NB354_357.out _).trans (hHeld.1)))))))))), ((cell_far (p := ⟨gb357, _, none⟩) NB354_357.out _).trans (((cell_far (p := ⟨gb357, _, none⟩) NB354_357.out _).trans (((cell_far (p := ⟨gb357, _, none⟩) NB354_357.out _).trans (((cell_far (p := ⟨gb357, _, none⟩) NB354_357.out _).trans (((cell_far (p := ⟨gb357, _, none⟩) NB354_357.out _).trans (hHeld.2.1)))))))))), ((cell_far (p := ⟨gb357, _, none⟩) NB354_357.out _).trans (((cell_far (p := ⟨gb357, _, none⟩) NB354_357.out _).trans (((cell_far (p := ⟨gb357, _, none⟩) NB354_357.out _).trans (((cell_far (p := ⟨gb357, _, none⟩) NB354_357.out _).trans (((cell_far (p := ⟨gb357, _, none⟩) NB354_357.out _).trans (hHeld.2.2.1)))))))))), ((cell_far (p := ⟨gb357, _, none⟩) NB354_357.out _).trans (((cell_far (p := ⟨gb357, _, none⟩) NB354_357.out _).trans (((cell_far (p := ⟨gb357, _, none⟩) NB354_357.out _).trans (((cell_far (p := ⟨gb357, _, none⟩) NB354_357.out _).trans (((cell_far (p := ⟨gb357, _, none⟩) NB354_357.out _).trans (hHeld.2.2.2.1)))))))))), ((cell_far (p := ⟨gb357, _, none⟩) NB354_357.out _).trans (((cell_far (p := ⟨gb357, _, none⟩) NB354_357.out _).trans (((cell_far (p := ⟨gb357, _, none⟩) NB354_357.out _).trans (((cell_far (p := ⟨gb357, _, none⟩) NB354_357.out _).trans (((cell_far (p := ⟨gb357, _, none⟩) NB354_357.out _).trans (hHeld.2.2.2.2.1)))))))))), ((cell_far (p := ⟨gb357, _, none⟩) NB355_357.out _).trans (((cell_far (p := ⟨gb357, _, none⟩) NB355_357.out _).trans (((cell_far (p := ⟨gb357, _, none⟩) NB355_357.out _).trans (((cell_far (p := ⟨gb357, _, none⟩) NB355_357.out _).trans (((cell_far (p := ⟨gb357, _, none⟩) NB355_357.out _).trans (hHeld.2.2.2.2.2.1)))))))))), ((cell_far (p := ⟨gb357, _, none⟩) NB355_357.out _).trans (((cell_far (p := ⟨gb357, _, none⟩) NB355_357.out _).trans (((cell_far (p := ⟨gb357, _, none⟩) NB355_357.out _).trans (((cell_far (p := ⟨gb357, _, none⟩) NB355_357.out _).trans (((cell_far (p := ⟨gb357, _, none⟩) NB355_357.out _).trans (hHeld.2.2.2.2.2.2.1)))))))))), ((cell_far (p := ⟨gb357, _, none⟩) NB355_357.out _).trans (((cell_far (p := ⟨gb357, _, none⟩) NB355_357.out _).trans (((cell_far (p := ⟨gb357, _, none⟩) NB355_357.out _).trans (((cell_far (p := ⟨gb357, _, none⟩) NB355_357.out _).trans (((cell_far (p := ⟨gb357, _, none⟩) NB355_357.out _).trans (hHeld.2.2.2.2.2.2.2.1)))))))))), ((cell_far (p := ⟨gb357, _, none⟩) NB355_357.out _).trans (((cell_far (p := ⟨gb357, _, none⟩) NB355_357.out _).trans (((cell_far (p := ⟨gb357, _, none⟩) NB355_357.out _).trans (((cell_far (p := ⟨gb357, _, none⟩) NB355_357.out _).trans (((cell_far (p := ⟨gb357, _, none⟩) NB355_357.out _).trans (hHeld.2.2.2.2.2.2.2.2.1)))))))))), ((cell_far (p := ⟨gb357, _, none⟩) NB355_357.out _).trans (((cell_far (p := ⟨gb357, _, none⟩) NB355_357.out _).trans (((cell_far (p := ⟨gb357, _, none⟩) NB355_357.out _).trans (((cell_far (p := ⟨gb357, _, none⟩) NB355_357.out _).trans (((cell_far (p := ⟨gb357, _, none⟩) NB355_357.out _).trans (hHeld.2.2.2.2.2.2.2.2.2))))))))))⟩ (fun hHeld => ?_)
    clear hK K
    refine pure_ (i := 12) (N := some 8) (v := ?_) (a' := ?_) #[true, true, true, true, true, true, true, true, true, true, true, true, true] rfl rfl (any_of HT_.out (by kernel_rfl)) (fun _ _ _ h => h) (Or.inl ⟨by rfl, ?_⟩) ?_ ?_
    rotate_left
    · intro w'
      go_simp
      with_reducible rfl
    rotate_left
    · simp only [Act.put, List.setIfInBounds_toArray, List.set_cons_zero, List.set_cons_succ, i64_w, i32_w]
      rfl
    refine done_ (done_of HT_.out (by kernel_rfl)) ?_
    try go_wp2
    refine bodyPost_ret (results_list (rs := [.cell 6 24, .cell 7 24, .tmp 8]) rfl (by simp) (.cell gb356 24 #[.int .u64 t358, .int .u64 t359, .int .u64 t360, .string t361, .string t362] (0, 0) _ rfl (by (with_reducible repeat (first | refine blk_drewN ?_ _ | refine blk_drew ?_ | refine blk_alloc ?_ _)); refine blk_far ?_ NB356_357.out _; (with_reducible repeat (first | refine blk_drewN ?_ _ | refine blk_drew ?_ | refine blk_alloc ?_ _)); refine blk_far ?_ NB356_357.out _; (with_reducible repeat (first | refine blk_drewN ?_ _ | refine blk_drew ?_ | refine blk_alloc ?_ _)); refine blk_far ?_ NB356_357.out _; (with_reducible repeat (first | refine blk_drewN ?_ _ | refine blk_drew ?_ | refine blk_alloc ?_ _)); refine blk_far ?_ NB356_357.out _; (with_reducible repeat (first | refine blk_drewN ?_ _ | refine blk_drew ?_ | refine blk_alloc ?_ _)); refine blk_far ?_ NB356_357.out _; (with_reducible repeat (first | refine blk_drewN ?_ _ | refine blk_drew ?_ | refine blk_alloc ?_ _)); refine blk_put (cs := #[.int .u64 t358, .int .u64 t359, .int .u64 t360, .string t361, .string (⟨#[]⟩ : ByteArray)]) ?_ 4 _ rfl; (with_reducible repeat (first | refine blk_drewN ?_ _ | refine blk_drew ?_ | refine blk_alloc ?_ _)); refine blk_put (cs := #[.int .u64 t358, .int .u64 t359, .int .u64 t360, .string (⟨#[]⟩ : ByteArray), .string (⟨#[]⟩ : ByteArray)]) ?_ 3 _ rfl; (with_reducible repeat (first | refine blk_drewN ?_ _ | refine blk_drew ?_ | refine blk_alloc ?_ _)); refine blk_put (cs := #[.int .u64 t358, .int .u64 t359, .int .u64 0, .string (⟨#[]⟩ : ByteArray), .string (⟨#[]⟩ : ByteArray)]) ?_ 2 _ rfl; (with_reducible repeat (first | refine blk_drewN ?_ _ | refine blk_drew ?_ | refine blk_alloc ?_ _)); refine blk_put (cs := #[.int .u64 t358, .int .u64 0, .int .u64 0, .string (⟨#[]⟩ : ByteArray), .string (⟨#[]⟩ : ByteArray)]) ?_ 1 _ rfl; (with_reducible repeat (first | refine blk_drewN ?_ _ | refine blk_drew ?_ | refine blk_alloc ?_ _)); refine blk_put (cs := #[.int .u64 0, .int .u64 0, .int .u64 0, .string (⟨#[]⟩ : ByteArray), .string (⟨#[]⟩ : ByteArray)]) ?_ 0 _ rfl; (with_reducible repeat (first | refine blk_drewN ?_ _ | refine blk_drew ?_ | refine blk_alloc ?_ _)); exact BK356.out) Tryd.underlying24 rfl (by kernel_rfl) (.cell gb357 24 #[.int .u64 t363, .int .u64 t364, .int .u64 t365, .string t366, .string t367] (0, 0) _ rfl (by (with_reducible repeat (first | refine blk_drewN ?_ _ | refine blk_drew ?_ | refine blk_alloc ?_ _)); refine blk_put (cs := #[.int .u64 t363, .int .u64 t364, .int .u64 t365, .string t366, .string (⟨#[]⟩ : ByteArray)]) ?_ 4 _ rfl; (with_reducible repeat (first | refine blk_drewN ?_ _ | refine blk_drew ?_ | refine blk_alloc ?_ _)); refine blk_put (cs := #[.int .u64 t363, .int .u64 t364, .int .u64 t365, .string (⟨#[]⟩ : ByteArray), .string (⟨#[]⟩ : ByteArray)]) ?_ 3 _ rfl; (with_reducible repeat (first | refine blk_drewN ?_ _ | refine blk_drew ?_ | refine blk_alloc ?_ _)); refine blk_put (cs := #[.int .u64 t363, .int .u64 t364, .int .u64 0, .string (⟨#[]⟩ : ByteArray), .string (⟨#[]⟩ : ByteArray)]) ?_ 2 _ rfl; (with_reducible repeat (first | refine blk_drewN ?_ _ | refine blk_drew ?_ | refine blk_alloc ?_ _)); refine blk_put (cs := #[.int .u64 t363, .int .u64 0, .int .u64 0, .string (⟨#[]⟩ : ByteArray), .string (⟨#[]⟩ : ByteArray)]) ?_ 1 _ rfl; (with_reducible repeat (first | refine blk_drewN ?_ _ | refine blk_drew ?_ | refine blk_alloc ?_ _)); refine blk_put (cs := #[.int .u64 0, .int .u64 0, .int .u64 0, .string (⟨#[]⟩ : ByteArray), .string (⟨#[]⟩ : ByteArray)]) ?_ 0 _ rfl; (with_reducible repeat (first | refine blk_drewN ?_ _ | refine blk_drew ?_ | refine blk_alloc ?_ _)); refine blk_far ?_ NB357_356.out _; (with_reducible repeat (first | refine blk_drewN ?_ _ | refine blk_drew ?_ | refine blk_alloc ?_ _)); refine blk_far ?_ NB357_356.out _; (with_reducible repeat (first | refine blk_drewN ?_ _ | refine blk_drew ?_ | refine blk_alloc ?_ _)); refine blk_far ?_ NB357_356.out _; (with_reducible repeat (first | refine blk_drewN ?_ _ | refine blk_drew ?_ | refine blk_alloc ?_ _)); refine blk_far ?_ NB357_356.out _; (with_reducible repeat (first | refine blk_drewN ?_ _ | refine blk_drew ?_ | refine blk_alloc ?_ _)); refine blk_far ?_ NB357_356.out _; (with_reducible repeat (first | refine blk_drewN ?_ _ | refine blk_drew ?_ | refine blk_alloc ?_ _)); exact BK357.out) Tryd.underlying24 rfl (by kernel_rfl) (.tmp .nil)))) rfl ?_
    exact ⟨by first | rfl | (simp [errW_none, errW_some] <;> rfl) | (simp [*, errW_none, errW_some] <;> rfl), by repeat (first | (with_reducible first | exact HB.out | apply below_alloc | apply pw_below_drewN | apply below_drew1 | refine below_set ?_ GE354.out | refine below_set ?_ GE355.out | refine below_set ?_ GE356.out | refine below_set ?_ GE357.out) | exact HB.out)⟩
  · rw [if_neg c6] at H
    have c6b0 : decide (1 ≤ a2) = false := decide_eq_false c6
    clear c6
    simp only [Option.some.injEq, Prod.mk.injEq] at H
    obtain ⟨rfl, rfl, rfl, rfl, rfl, rfl, rfl, rfl, rfl, rfl, rfl⟩ := H
    go_enter Tryd.func40, Tryd.ntmps40
    try go_wp2_with (first | ((with_reducible refine gate_dst (N := 3) rfl ?_); refine box_event ?hg (N := 3) ?hd (cs := #[.int .u64 a0_0, .int .u64 a0_1, .int .u64 a0_2, .string a0_3, .string a0_4]) (t := 24) ?hr ?_; (case hd => rfl); (case hg => rfl); (case hr => first | (go_simp; done) | (go_simp; rfl)); intro gb354 hg w24 hbox hb; have n0_ := Aside0.mk (below_step (by repeat (first | (with_reducible first | exact HB.out | apply below_alloc | apply pw_below_drewN | apply below_drew1) | exact HB.out)) hb); have n1_ := Aside0.mk (hbox); have n2_ := Aside0.mk ((by rw [hg]; exact (below_size (by repeat (first | (with_reducible first | exact HB.out | apply below_alloc | apply pw_below_drewN | apply below_drew1) | exact HB.out))) : w.heap.size ≤ gb354)); have n3_ := Aside0.mk ((by rw [hg]; exact (below_size (by repeat (first | (with_reducible first | exact HB.out | apply below_alloc | apply pw_below_drewN | apply below_drew1) | exact HB.out))) : w.heap.size ≤ gb354)); clear HB; have HB := n0_; have BK354 := n1_; have GW354 := n2_; have GE354 := n3_; clear n0_ n1_ n2_ n3_; clear hb hbox hg) | ((with_reducible refine gate_dst (N := 4) rfl ?_); refine box_event ?hg (N := 4) ?hd (cs := #[.int .u64 a1_0, .int .u64 a1_1, .int .u64 a1_2, .string a1_3, .string a1_4]) (t := 24) ?hr ?_; (case hd => rfl); (case hg => rfl); (case hr => first | (go_simp; done) | (go_simp; rfl)); intro gb355 hg w25 hbox hb; have n0_ := Aside0.mk (blk_below (g := gb354) (o := .cells #[.int .u64 a0_0, .int .u64 a0_1, .int .u64 a0_2, .string a0_3, .string a0_4] 24 (0, 0)) (by (with_reducible repeat (first | refine blk_drewN ?_ _ | refine blk_drew ?_ | refine blk_alloc ?_ _)); exact BK354.out) hb); have n1_ := Aside0.mk (below_step (by repeat (first | (with_reducible first | exact HB.out | apply below_alloc | apply pw_below_drewN | apply below_drew1 | refine below_set ?_ GE354.out) | exact HB.out)) hb); have n2_ := Aside0.mk (hbox); have n3_ := Aside0.mk ((by rw [hg]; exact (below_size (by repeat (first | (with_reducible first | exact HB.out | apply below_alloc | apply pw_below_drewN | apply below_drew1 | refine below_set ?_ GE354.out) | exact HB.out))) : w.heap.size ≤ gb355)); have n4_ := Aside0.mk ((by rw [hg]; exact (below_size (by repeat (first | (with_reducible first | exact HB.out | apply below_alloc | apply pw_below_drewN | apply below_drew1 | refine below_set ?_ GE354.out) | exact HB.out))) : w.heap.size ≤ gb355)); have n5_ := Aside0.mk ((by rw [hg]; exact Nat.ne_of_lt (blk_lt (g := gb354) (o := .cells #[.int .u64 a0_0, .int .u64 a0_1, .int .u64 a0_2, .string a0_3, .string a0_4] 24 (0, 0)) (by (with_reducible repeat (first | refine blk_drewN ?_ _ | refine blk_drew ?_ | refine blk_alloc ?_ _)); exact BK354.out)) : gb354 ≠ gb355)); have n6_ := Aside0.mk ((by rw [hg]; exact Nat.ne_of_gt (blk_lt (g := gb354) (o := .cells #[.int .u64 a0_0, .int .u64 a0_1, .int .u64 a0_2, .string a0_3, .string a0_4] 24 (0, 0)) (by (with_reducible repeat (first | refine blk_drewN ?_ _ | refine blk_drew ?_ | refine blk_alloc ?_ _)); exact BK354.out)) : gb355 ≠ gb354)); clear BK354; clear HB; have BK354 := n0_; have HB := n1_; have BK355 := n2_; have GW355 := n3_; have GE355 := n4_; have NB354_355 := n5_; have NB355_354 := n6_; clear n0_ n1_ n2_ n3_ n4_ n5_ n6_; clear hb hbox hg) | ((with_reducible refine gate_dst (N := 6) rfl ?_); refine box_event ?hg (N := 6) ?hd (cs := #[.int .u64 0, .int .u64 0, .int .u64 0, .string (⟨#[]⟩ : ByteArray), .string (⟨#[]⟩ : ByteArray)]) (t := 24) ?hr ?_; (case hd => rfl); (case hg => rfl); (case hr => first | (go_simp; done) | (go_simp; rfl)); intro gb356 hg w26 hbox hb; have n0_ := Aside0.mk (blk_below (g := gb354) (o := .cells #[.int .u64 a0_0, .int .u64 a0_1, .int .u64 a0_2, .string a0_3, .string a0_4] 24 (0, 0)) (by (with_reducible repeat (first | refine blk_drewN ?_ _ | refine blk_drew ?_ | refine blk_alloc ?_ _)); exact BK354.out) hb); have n1_ := Aside0.mk (blk_below (g := gb355) (o := .cells #[.int .u64 a1_0, .int .u64 a1_1, .int .u64 a1_2, .string a1_3, .string a1_4] 24 (0, 0)) (by (with_reducible repeat (first | refine blk_drewN ?_ _ | refine blk_drew ?_ | refine blk_alloc ?_ _)); exact BK355.out) hb); have n2_ := Aside0.mk (below_step (by repeat (first | (with_reducible first | exact HB.out | apply below_alloc | apply pw_below_drewN | apply below_drew1 | refine below_set ?_ GE354.out | refine below_set ?_ GE355.out) | exact HB.out)) hb); have n3_ := Aside0.mk (hbox); have n4_ := Aside0.mk ((by rw [hg]; exact (below_size (by repeat (first | (with_reducible first | exact HB.out | apply below_alloc | apply pw_below_drewN | apply below_drew1 | refine below_set ?_ GE354.out | refine below_set ?_ GE355.out) | exact HB.out))) : w.heap.size ≤ gb356)); have n5_ := Aside0.mk ((by rw [hg]; exact (below_size (by repeat (first | (with_reducible first | exact HB.out | apply below_alloc | apply pw_below_drewN | apply below_drew1 | refine below_set ?_ GE354.out | refine below_set ?_ GE355.out) | exact HB.out))) : w.heap.size ≤ gb356)); have n6_ := Aside0.mk ((by rw [hg]; exact Nat.ne_of_lt (blk_lt (g := gb354) (o := .cells #[.int .u64 a0_0, .int .u64 a0_1, .int .u64 a0_2, .string a0_3, .string a0_4] 24 (0, 0)) (by (with_reducible repeat (first | refine blk_drewN ?_ _ | refine blk_drew ?_ | refine blk_alloc ?_ _)); exact BK354.out)) : gb354 ≠ gb356)); have n7_ := Aside0.mk ((by rw [hg]; exact Nat.ne_of_gt (blk_lt (g := gb354) (o := .cells #[.int .u64 a0_0, .int .u64 a0_1, .int .u64 a0_2, .string a0_3, .string a0_4] 24 (0, 0)) (by (with_reducible repeat (first | refine blk_drewN ?_ _ | refine blk_drew ?_ | refine blk_alloc ?_ _)); exact BK354.out)) : gb356 ≠ gb354)); have n8_ := Aside0.mk ((by rw [hg]; exact Nat.ne_of_lt (blk_lt (g := gb355) (o := .cells #[.int .u64 a1_0, .int .u64 a1_1, .int .u64 a1_2, .string a1_3, .string a1_4] 24 (0, 0)) (by (with_reducible repeat (first | refine blk_drewN ?_ _ | refine blk_drew ?_ | refine blk_alloc ?_ _)); exact BK355.out)) : gb355 ≠ gb356)); have n9_ := Aside0.mk ((by rw [hg]; exact Nat.ne_of_gt (blk_lt (g := gb355) (o := .cells #[.int .u64 a1_0, .int .u64 a1_1, .int .u64 a1_2, .string a1_3, .string a1_4] 24 (0, 0)) (by (with_reducible repeat (first | refine blk_drewN ?_ _ | refine blk_drew ?_ | refine blk_alloc ?_ _)); exact BK355.out)) : gb356 ≠ gb355)); clear BK354; clear BK355; clear HB; have BK354 := n0_; have BK355 := n1_; have HB := n2_; have BK356 := n3_; have GW356 := n4_; have GE356 := n5_; have NB354_356 := n6_; have NB356_354 := n7_; have NB355_356 := n8_; have NB356_355 := n9_; clear n0_ n1_ n2_ n3_ n4_ n5_ n6_ n7_ n8_ n9_; clear hb hbox hg) | ((with_reducible refine gate_dst (N := 7) rfl ?_); refine box_event ?hg (N := 7) ?hd (cs := #[.int .u64 0, .int .u64 0, .int .u64 0, .string (⟨#[]⟩ : ByteArray), .string (⟨#[]⟩ : ByteArray)]) (t := 24) ?hr ?_; (case hd => rfl); (case hg => rfl); (case hr => first | (go_simp; done) | (go_simp; rfl)); intro gb357 hg w27 hbox hb; have n0_ := Aside0.mk (blk_below (g := gb354) (o := .cells #[.int .u64 a0_0, .int .u64 a0_1, .int .u64 a0_2, .string a0_3, .string a0_4] 24 (0, 0)) (by (with_reducible repeat (first | refine blk_drewN ?_ _ | refine blk_drew ?_ | refine blk_alloc ?_ _)); exact BK354.out) hb); have n1_ := Aside0.mk (blk_below (g := gb355) (o := .cells #[.int .u64 a1_0, .int .u64 a1_1, .int .u64 a1_2, .string a1_3, .string a1_4] 24 (0, 0)) (by (with_reducible repeat (first | refine blk_drewN ?_ _ | refine blk_drew ?_ | refine blk_alloc ?_ _)); exact BK355.out) hb); have n2_ := Aside0.mk (blk_below (g := gb356) (o := .cells #[.int .u64 0, .int .u64 0, .int .u64 0, .string (⟨#[]⟩ : ByteArray), .string (⟨#[]⟩ : ByteArray)] 24 (0, 0)) (by (with_reducible repeat (first | refine blk_drewN ?_ _ | refine blk_drew ?_ | refine blk_alloc ?_ _)); exact BK356.out) hb); have n3_ := Aside0.mk (below_step (by repeat (first | (with_reducible first | exact HB.out | apply below_alloc | apply pw_below_drewN | apply below_drew1 | refine below_set ?_ GE354.out | refine below_set ?_ GE355.out | refine below_set ?_ GE356.out) | exact HB.out)) hb); have n4_ := Aside0.mk (hbox); have n5_ := Aside0.mk ((by rw [hg]; exact (below_size (by repeat (first | (with_reducible first | exact HB.out | apply below_alloc | apply pw_below_drewN | apply below_drew1 | refine below_set ?_ GE354.out | refine below_set ?_ GE355.out | refine below_set ?_ GE356.out) | exact HB.out))) : w.heap.size ≤ gb357)); have n6_ := Aside0.mk ((by rw [hg]; exact (below_size (by repeat (first | (with_reducible first | exact HB.out | apply below_alloc | apply pw_below_drewN | apply below_drew1 | refine below_set ?_ GE354.out | refine below_set ?_ GE355.out | refine below_set ?_ GE356.out) | exact HB.out))) : w.heap.size ≤ gb357)); have n7_ := Aside0.mk ((by rw [hg]; exact Nat.ne_of_lt (blk_lt (g := gb354) (o := .cells #[.int .u64 a0_0, .int .u64 a0_1, .int .u64 a0_2, .string a0_3, .string a0_4] 24 (0, 0)) (by (with_reducible repeat (first | refine blk_drewN ?_ _ | refine blk_drew ?_ | refine blk_alloc ?_ _)); exact BK354.out)) : gb354 ≠ gb357)); have n8_ := Aside0.mk ((by rw [hg]; exact Nat.ne_of_gt (blk_lt (g := gb354) (o := .cells #[.int .u64 a0_0, .int .u64 a0_1, .int .u64 a0_2, .string a0_3, .string a0_4] 24 (0, 0)) (by (with_reducible repeat (first | refine blk_drewN ?_ _ | refine blk_drew ?_ | refine blk_alloc ?_ _)); exact BK354.out)) : gb357 ≠ gb354)); have n9_ := Aside0.mk ((by rw [hg]; exact Nat.ne_of_lt (blk_lt (g := gb355) (o := .cells #[.int .u64 a1_0, .int .u64 a1_1, .int .u64 a1_2, .string a1_3, .string a1_4] 24 (0, 0)) (by (with_reducible repeat (first | refine blk_drewN ?_ _ | refine blk_drew ?_ | refine blk_alloc ?_ _)); exact BK355.out)) : gb355 ≠ gb357)); have n10_ := Aside0.mk ((by rw [hg]; exact Nat.ne_of_gt (blk_lt (g := gb355) (o := .cells #[.int .u64 a1_0, .int .u64 a1_1, .int .u64 a1_2, .string a1_3, .string a1_4] 24 (0, 0)) (by (with_reducible repeat (first | refine blk_drewN ?_ _ | refine blk_drew ?_ | refine blk_alloc ?_ _)); exact BK355.out)) : gb357 ≠ gb355)); have n11_ := Aside0.mk ((by rw [hg]; exact Nat.ne_of_lt (blk_lt (g := gb356) (o := .cells #[.int .u64 0, .int .u64 0, .int .u64 0, .string (⟨#[]⟩ : ByteArray), .string (⟨#[]⟩ : ByteArray)] 24 (0, 0)) (by (with_reducible repeat (first | refine blk_drewN ?_ _ | refine blk_drew ?_ | refine blk_alloc ?_ _)); exact BK356.out)) : gb356 ≠ gb357)); have n12_ := Aside0.mk ((by rw [hg]; exact Nat.ne_of_gt (blk_lt (g := gb356) (o := .cells #[.int .u64 0, .int .u64 0, .int .u64 0, .string (⟨#[]⟩ : ByteArray), .string (⟨#[]⟩ : ByteArray)] 24 (0, 0)) (by (with_reducible repeat (first | refine blk_drewN ?_ _ | refine blk_drew ?_ | refine blk_alloc ?_ _)); exact BK356.out)) : gb357 ≠ gb356)); clear BK354; clear BK355; clear BK356; clear HB; have BK354 := n0_; have BK355 := n1_; have BK356 := n2_; have HB := n3_; have BK357 := n4_; have GW357 := n5_; have GE357 := n6_; have NB354_357 := n7_; have NB357_354 := n8_; have NB355_357 := n9_; have NB357_355 := n10_; have NB356_357 := n11_; have NB357_356 := n12_; clear n0_ n1_ n2_ n3_ n4_ n5_ n6_ n7_ n8_ n9_ n10_ n11_ n12_; clear hb hbox hg))
    have n0_ := Aside0.mk (blk_drew BK354.out)
    have n1_ := Aside0.mk (blk_drew BK355.out)
    have n2_ := Aside0.mk (blk_drew BK356.out)
    have n3_ := Aside0.mk (blk_drew BK357.out)
    have n4_ := Aside0.mk (below_drew1 HB.out)
    clear BK354
    clear BK355
    clear BK356
    clear BK357
    clear HB
    have BK354 := n0_
    have BK355 := n1_
    have BK356 := n2_
    have BK357 := n3_
    have HB := n4_
    clear n0_ n1_ n2_ n3_ n4_
    refine start_ (n := 13) (S := fun w' => w'.cell? ⟨gb354, 0, none⟩ = some (.int .u64 a0_0) ∧ w'.cell? ⟨gb354, 1, none⟩ = some (.int .u64 a0_1) ∧ w'.cell? ⟨gb354, 2, none⟩ = some (.int .u64 a0_2) ∧ w'.cell? ⟨gb354, 3, none⟩ = some (.string a0_3) ∧ w'.cell? ⟨gb354, 4, none⟩ = some (.string a0_4) ∧ w'.cell? ⟨gb355, 0, none⟩ = some (.int .u64 a1_0) ∧ w'.cell? ⟨gb355, 1, none⟩ = some (.int .u64 a1_1) ∧ w'.cell? ⟨gb355, 2, none⟩ = some (.int .u64 a1_2) ∧ w'.cell? ⟨gb355, 3, none⟩ = some (.string a1_3) ∧ w'.cell? ⟨gb355, 4, none⟩ = some (.string a1_4)) (ds := []) #[false, false, false, false, false, false, false, false, false, false, false, false, false] (by kernel_rfl) rfl rfl ⟨(blk_cell BK354.out 0).trans rfl, (blk_cell BK354.out 1).trans rfl, (blk_cell BK354.out 2).trans rfl, (blk_cell BK354.out 3).trans rfl, (blk_cell BK354.out 4).trans rfl, (blk_cell BK355.out 0).trans rfl, (blk_cell BK355.out 1).trans rfl, (blk_cell BK355.out 2).trans rfl, (blk_cell BK355.out 3).trans rfl, (blk_cell BK355.out 4).trans rfl⟩ (fun hHeld => ?_); refine with_tabW laws_stBare.tab1 laws_stBare.bits1 (fun HT_ HW_ => ?_)
    generalize w27.drew = w28 at BK354 BK355 BK356 BK357 HB hHeld ⊢
    refine pure_ (i := 4) (N := some 13) (v := ?_) (a' := ?_) #[false, false, false, false, true, false, false, false, false, false, false, false, false] rfl rfl (any_of HT_.out (by kernel_rfl)) (fun _ _ _ h => h) (Or.inl ⟨by rfl, ?_⟩) ?_ ?_
    rotate_left
    · intro w'
      go_simp
      with_reducible rfl
    rotate_left
    · simp only [Act.put, List.setIfInBounds_toArray, List.set_cons_zero, List.set_cons_succ, i64_w, i32_w]
      rfl
    refine pure_ (i := 5) (N := some 14) (v := ?_) (a' := ?_) #[false, false, false, false, true, true, false, false, false, false, false, false, false] rfl rfl (any_of HT_.out (by kernel_rfl)) (fun _ _ _ h => h) (Or.inl ⟨by rfl, ?_⟩) ?_ ?_
    rotate_left
    · intro w'
      go_simp
      with_reducible rfl
    rotate_left
    · simp only [Act.put, List.setIfInBounds_toArray, List.set_cons_zero, List.set_cons_succ, i64_w, i32_w]
      rfl
    refine take_ (i := 0) (N := some 9) (v := ?_) (a' := ?_) #[true, false, false, false, true, true, false, false, false, false, false, false, false] rfl rfl (take_ofW HT_.out HW_.out (by kernel_rfl)) (fun _ _ _ h => h) (Or.inl ⟨by rfl, ?_⟩) hHeld ?_ ?_
    rotate_left
    · rintro w' ⟨s0, s1, s2, s3, s4, s5, s6, s7, s8, s9⟩
      go_simp
      with_reducible rfl
    rotate_left
    · simp only [Act.put, List.setIfInBounds_toArray, List.set_cons_zero, List.set_cons_succ, i64_w, i32_w]
      rfl
    refine take_ (i := 2) (N := some 11) (v := ?_) (a' := ?_) #[true, false, true, false, true, true, false, false, false, false, false, false, false] rfl rfl (take_ofW HT_.out HW_.out (by kernel_rfl)) (fun _ _ _ h => h) (Or.inl ⟨by rfl, ?_⟩) hHeld ?_ ?_
    rotate_left
    · rintro w' ⟨s0, s1, s2, s3, s4, s5, s6, s7, s8, s9⟩
      go_simp
      with_reducible rfl
    rotate_left
    · simp only [Act.put, List.setIfInBounds_toArray, List.set_cons_zero, List.set_cons_succ, i64_w, i32_w]
      rfl
    refine one_ (i := 1) (N := some 10) #[true, true, true, false, true, true, false, false, false, false, false, false, false] rfl rfl (one_of HT_.out (by kernel_rfl)) (by decide) (fun K hK => ?_)
    refine goes_ Tryd.func39 (by kernel_rfl) rfl #[.agg #[.int .u64 a0_0, .int .u64 a0_1, .int .u64 a0_2, .string a0_3, .string a0_4]] (by rfl) rfl rfl (by (try simp only [List.map_toArray, List.map_cons, List.map_nil]); first | done | rfl | (simp only [List.length_drop, List.length_take]; rfl)) ?_
    with_reducible refine (spec_Bare.calls a0_0 a0_1 a0_2 a0_3 a0_4 t358 t359 t360 t361 t362 _ A4.out).mono ?_
    rintro e w29 ⟨rfl, hb⟩
    refine ⟨_, rfl, ?_⟩
    have n0_ := Aside0.mk (blk_below (g := gb354) (o := .cells #[.int .u64 a0_0, .int .u64 a0_1, .int .u64 a0_2, .string a0_3, .string a0_4] 24 (0, 0)) (by (with_reducible repeat (first | refine blk_drewN ?_ _ | refine blk_drew ?_ | refine blk_alloc ?_ _)); exact BK354.out) hb)
    have n1_ := Aside0.mk (blk_below (g := gb355) (o := .cells #[.int .u64 a1_0, .int .u64 a1_1, .int .u64 a1_2, .string a1_3, .string a1_4] 24 (0, 0)) (by (with_reducible repeat (first | refine blk_drewN ?_ _ | refine blk_drew ?_ | refine blk_alloc ?_ _)); exact BK355.out) hb)
    have n2_ := Aside0.mk (blk_below (g := gb356) (o := .cells #[.int .u64 0, .int .u64 0, .int .u64 0, .string (⟨#[]⟩ : ByteArray), .string (⟨#[]⟩ : ByteArray)] 24 (0, 0)) (by (with_reducible repeat (first | refine blk_drewN ?_ _ | refine blk_drew ?_ | refine blk_alloc ?_ _)); exact BK356.out) hb)
    have n3_ := Aside0.mk (blk_below (g := gb357) (o := .cells #[.int .u64 0, .int .u64 0, .int .u64 0, .string (⟨#[]⟩ : ByteArray), .string (⟨#[]⟩ : ByteArray)] 24 (0, 0)) (by (with_reducible repeat (first | refine blk_drewN ?_ _ | refine blk_drew ?_ | refine blk_alloc ?_ _)); exact BK357.out) hb)
    have n4_ := Aside0.mk (below_step (by repeat (first | (with_reducible first | exact HB.out | apply below_alloc | apply pw_below_drewN | apply below_drew1 | refine below_set ?_ GE354.out | refine below_set ?_ GE355.out | refine below_set ?_ GE356.out | refine below_set ?_ GE357.out) | exact HB.out)) hb)
    clear BK354
    clear BK355
    clear BK356
    clear BK357
    clear HB
    have BK354 := n0_
    have BK355 := n1_
    have BK356 := n2_
    have BK357 := n3_
    have HB := n4_
    clear n0_ n1_ n2_ n3_ n4_
    (try clear hb)
    (try clear hb2)
    (try clear hk)
    (try clear hi)
    refine hK.out _ _ ⟨(blk_cell BK354.out 0).trans rfl, (blk_cell BK354.out 1).trans rfl, (blk_cell BK354.out 2).trans rfl, (blk_cell BK354.out 3).trans rfl, (blk_cell BK354.out 4).trans rfl, (blk_cell BK355.out 0).trans rfl, (blk_cell BK355.out 1).trans rfl, (blk_cell BK355.out 2).trans rfl, (blk_cell BK355.out 3).trans rfl, (blk_cell BK355.out 4).trans rfl⟩ (fun hHeld => ?_)
    clear hK K
    refine norm_ (a' := ?_) ?_ ?_
    rotate_left
    · show Act.put _ (some 10) _ = _
      simp only [Act.put, List.setIfInBounds_toArray, List.set_cons_zero, List.set_cons_succ, i64_w, i32_w]
      rfl
    refine one_ (i := 3) (N := some 12) #[true, true, true, true, true, true, false, false, false, false, false, false, false] rfl rfl (one_of HT_.out (by kernel_rfl)) (by decide) (fun K hK => ?_)
    refine goes_ Tryd.func39 (by kernel_rfl) rfl #[.agg #[.int .u64 a1_0, .int .u64 a1_1, .int .u64 a1_2, .string a1_3, .string a1_4]] (by rfl) rfl rfl (by (try simp only [List.map_toArray, List.map_cons, List.map_nil]); first | done | rfl | (simp only [List.length_drop, List.length_take]; rfl)) ?_
    with_reducible refine (spec_Bare.calls a1_0 a1_1 a1_2 a1_3 a1_4 t363 t364 t365 t366 t367 _ A5.out).mono ?_
    rintro e w30 ⟨rfl, hb⟩
    refine ⟨_, rfl, ?_⟩
    have n0_ := Aside0.mk (blk_below (g := gb354) (o := .cells #[.int .u64 a0_0, .int .u64 a0_1, .int .u64 a0_2, .string a0_3, .string a0_4] 24 (0, 0)) (by (with_reducible repeat (first | refine blk_drewN ?_ _ | refine blk_drew ?_ | refine blk_alloc ?_ _)); exact BK354.out) hb)
    have n1_ := Aside0.mk (blk_below (g := gb355) (o := .cells #[.int .u64 a1_0, .int .u64 a1_1, .int .u64 a1_2, .string a1_3, .string a1_4] 24 (0, 0)) (by (with_reducible repeat (first | refine blk_drewN ?_ _ | refine blk_drew ?_ | refine blk_alloc ?_ _)); exact BK355.out) hb)
    have n2_ := Aside0.mk (blk_below (g := gb356) (o := .cells #[.int .u64 0, .int .u64 0, .int .u64 0, .string (⟨#[]⟩ : ByteArray), .string (⟨#[]⟩ : ByteArray)] 24 (0, 0)) (by (with_reducible repeat (first | refine blk_drewN ?_ _ | refine blk_drew ?_ | refine blk_alloc ?_ _)); exact BK356.out) hb)
    have n3_ := Aside0.mk (blk_below (g := gb357) (o := .cells #[.int .u64 0, .int .u64 0, .int .u64 0, .string (⟨#[]⟩ : ByteArray), .string (⟨#[]⟩ : ByteArray)] 24 (0, 0)) (by (with_reducible repeat (first | refine blk_drewN ?_ _ | refine blk_drew ?_ | refine blk_alloc ?_ _)); exact BK357.out) hb)
    have n4_ := Aside0.mk (below_step (by repeat (first | (with_reducible first | exact HB.out | apply below_alloc | apply pw_below_drewN | apply below_drew1 | refine below_set ?_ GE354.out | refine below_set ?_ GE355.out | refine below_set ?_ GE356.out | refine below_set ?_ GE357.out) | exact HB.out)) hb)
    clear BK354
    clear BK355
    clear BK356
    clear BK357
    clear HB
    have BK354 := n0_
    have BK355 := n1_
    have BK356 := n2_
    have BK357 := n3_
    have HB := n4_
    clear n0_ n1_ n2_ n3_ n4_
    (try clear hb)
    (try clear hb2)
    (try clear hk)
    (try clear hi)
    refine hK.out _ _ ⟨(blk_cell BK354.out 0).trans rfl, (blk_cell BK354.out 1).trans rfl, (blk_cell BK354.out 2).trans rfl, (blk_cell BK354.out 3).trans rfl, (blk_cell BK354.out 4).trans rfl, (blk_cell BK355.out 0).trans rfl, (blk_cell BK355.out 1).trans rfl, (blk_cell BK355.out 2).trans rfl, (blk_cell BK355.out 3).trans rfl, (blk_cell BK355.out 4).trans rfl⟩ (fun hHeld => ?_)
    clear hK K
    refine norm_ (a' := ?_) ?_ ?_
    rotate_left
    · show Act.put _ (some 12) _ = _
      simp only [Act.put, List.setIfInBounds_toArray, List.set_cons_zero, List.set_cons_succ, i64_w, i32_w]
      rfl
    refine pure_ (i := 6) (N := some 15) (v := ?_) (a' := ?_) #[true, true, true, true, true, true, true, false, false, false, false, false, false] rfl rfl (any_of HT_.out (by kernel_rfl)) (fun _ _ _ h => h) (Or.inl ⟨by rfl, ?_⟩) ?_ ?_
    rotate_left
    · intro w'
      go_simp
      with_reducible rfl
    rotate_left
    · simp only [Act.put, List.setIfInBounds_toArray, List.set_cons_zero, List.set_cons_succ, i64_w, i32_w]
      rfl
    refine pure_ (i := 7) (N := some 16) (v := undef) (a' := ?_) #[true, true, true, true, true, true, true, true, false, false, false, false, false] rfl rfl (any_of HT_.out (by kernel_rfl)) (fun _ _ _ h => h) (Or.inr ⟨by rfl, rfl⟩) ?_ ?_
    rotate_left
    · simp only [Act.put, List.setIfInBounds_toArray, List.set_cons_zero, List.set_cons_succ, i64_w, i32_w]
      rfl
    refine pure_ (i := 8) (N := some 17) (v := undef) (a' := ?_) #[true, true, true, true, true, true, true, true, true, false, false, false, false] rfl rfl (any_of HT_.out (by kernel_rfl)) (fun _ _ _ h => h) (Or.inr ⟨by rfl, rfl⟩) ?_ ?_
    rotate_left
    · simp only [Act.put, List.setIfInBounds_toArray, List.set_cons_zero, List.set_cons_succ, i64_w, i32_w]
      rfl
    refine pure_ (i := 9) (N := some 18) (v := ?_) (a' := ?_) #[true, true, true, true, true, true, true, true, true, true, false, false, false] rfl rfl (any_of HT_.out (by kernel_rfl)) (fun _ _ _ h => h) (Or.inl ⟨by rfl, ?_⟩) ?_ ?_
    rotate_left
    · intro w'
      go_simp
      with_reducible rfl
    rotate_left
    · simp only [Act.put, List.setIfInBounds_toArray, List.set_cons_zero, List.set_cons_succ, i64_w, i32_w]
      rfl
    refine one_ (i := 10) (N := none) #[true, true, true, true, true, true, true, true, true, true, true, false, false] rfl rfl (one_of HT_.out (by kernel_rfl)) (by decide) (fun K hK => ?_)
    have hs31 : w30.cell? ⟨gb356, 0, none⟩ = some (.int .u64 0) := (blk_cell BK356.out 0).trans rfl
    have hfs31 := blk_frozen BK356.out 0
    have hns31_0 := NB354_356.out
    have hns31_1 := NB355_356.out
    have hns31_3 := NB357_356.out
    have hms31_0 := NB356_354.out
    have hms31_1 := NB356_355.out
    have hms31_3 := NB356_357.out
    have hs32 : w30.cell? ⟨gb356, 1, none⟩ = some (.int .u64 0) := (blk_cell BK356.out 1).trans rfl
    have hfs32 := blk_frozen BK356.out 1
    have hns32_0 := NB354_356.out
    have hns32_1 := NB355_356.out
    have hns32_3 := NB357_356.out
    have hms32_0 := NB356_354.out
    have hms32_1 := NB356_355.out
    have hms32_3 := NB356_357.out
    have hs33 : w30.cell? ⟨gb356, 2, none⟩ = some (.int .u64 0) := (blk_cell BK356.out 2).trans rfl
    have hfs33 := blk_frozen BK356.out 2
    have hns33_0 := NB354_356.out
    have hns33_1 := NB355_356.out
    have hns33_3 := NB357_356.out
    have hms33_0 := NB356_354.out
    have hms33_1 := NB356_355.out
    have hms33_3 := NB356_357.out
    have hs34 : w30.cell? ⟨gb356, 3, none⟩ = some (.string (⟨#[]⟩ : ByteArray)) := (blk_cell BK356.out 3).trans rfl
    have hfs34 := blk_frozen BK356.out 3
    have hns34_0 := NB354_356.out
    have hns34_1 := NB355_356.out
    have hns34_3 := NB357_356.out
    have hms34_0 := NB356_354.out
    have hms34_1 := NB356_355.out
    have hms34_3 := NB356_357.out
    have hs35 : w30.cell? ⟨gb356, 4, none⟩ = some (.string (⟨#[]⟩ : ByteArray)) := (blk_cell BK356.out 4).trans rfl
    have hfs35 := blk_frozen BK356.out 4
    have hns35_0 := NB354_356.out
    have hns35_1 := NB355_356.out
    have hns35_3 := NB357_356.out
    have hms35_0 := NB356_354.out
    have hms35_1 := NB356_355.out
    have hms35_3 := NB356_357.out
    refine skip_ (w1 := ?_) (by rfl) rfl ?_ ?_
    rotate_left
    · go_simp
      rfl
    refine hK.out _ _ ⟨((cell_far (p := ⟨gb356, _, none⟩) NB354_356.out _).trans (((cell_far (p := ⟨gb356, _, none⟩) NB354_356.out _).trans (((cell_far (p := ⟨gb356, _, none⟩) NB354_356.out _).trans (((cell_far (p := ⟨gb356, _, none⟩) NB354_356.out _).trans (((cell_far (p := ⟨gb356, _, none⟩) NB354_356.out _).trans (hHeld.1)))))))))), ((cell_far (p := ⟨gb356, _, none⟩) NB354_356.out _).trans (((cell_far (p := ⟨gb356, _, none⟩) NB354_356.out _).trans (((cell_far (p := ⟨gb356, _, none⟩) NB354_356.out _).trans (((cell_far (p := ⟨gb356, _, none⟩) NB354_356.out _).trans (((cell_far (p := ⟨gb356, _, none⟩) NB354_356.out _).trans (hHeld.2.1)))))))))), ((cell_far (p := ⟨gb356, _, none⟩) NB354_356.out _).trans (((cell_far (p := ⟨gb356, _, none⟩) NB354_356.out _).trans (((cell_far (p := ⟨gb356, _, none⟩) NB354_356.out _).trans (((cell_far (p := ⟨gb356, _, none⟩) NB354_356.out _).trans (((cell_far (p := ⟨gb356, _, none⟩) NB354_356.out _).trans (hHeld.2.2.1)))))))))), ((cell_far (p := ⟨gb356, _, none⟩) NB354_356.out _).trans (((cell_far (p := ⟨gb356, _, none⟩) NB354_356.out _).trans (((cell_far (p := ⟨gb356, _, none⟩) NB354_356.out _).trans (((cell_far (p := ⟨gb356, _, none⟩) NB354_356.out _).trans (((cell_far (p := ⟨gb356, _, none⟩) NB354_356.out _).trans (hHeld.2.2.2.1)))))))))), ((cell_far (p := ⟨gb356, _, none⟩) NB354_356.out _).trans (((cell_far (p := ⟨gb356, _, none⟩) NB354_356.out _).trans (((cell_far (p := ⟨gb356, _, none⟩) NB354_356.out _).trans (((cell_far (p := ⟨gb356, _, none⟩) NB354_356.out _).trans (((cell_far (p := ⟨gb356, _, none⟩) NB354_356.out _).trans (hHeld.2.2.2.2.1)))))))))), ((cell_far (p := ⟨gb356, _, none⟩) NB355_356.out _).trans (((cell_far (p := ⟨gb356, _, none⟩) NB355_356.out _).trans (((cell_far (p := ⟨gb356, _, none⟩) NB355_356.out _).trans (((cell_far (p := ⟨gb356, _, none⟩) NB355_356.out _).trans (((cell_far (p := ⟨gb356, _, none⟩) NB355_356.out _).trans (hHeld.2.2.2.2.2.1)))))))))), ((cell_far (p := ⟨gb356, _, none⟩) NB355_356.out _).trans (((cell_far (p := ⟨gb356, _, none⟩) NB355_356.out _).trans (((cell_far (p := ⟨gb356, _, none⟩) NB355_356.out _).trans (((cell_far (p := ⟨gb356, _, none⟩) NB355_356.out _).trans (((cell_far (p := ⟨gb356, _, none⟩) NB355_356.out _).trans (hHeld.2.2.2.2.2.2.1)))))))))), ((cell_far (p := ⟨gb356, _, none⟩) NB355_356.out _).trans (((cell_far (p := ⟨gb356, _, none⟩) NB355_356.out _).trans (((cell_far (p := ⟨gb356, _, none⟩) NB355_356.out _).trans (((cell_far (p := ⟨gb356, _, none⟩) NB355_356.out _).trans (((cell_far (p := ⟨gb356, _, none⟩) NB355_356.out _).trans (hHeld.2.2.2.2.2.2.2.1)))))))))), ((cell_far (p := ⟨gb356, _, none⟩) NB355_356.out _).trans (((cell_far (p := ⟨gb356, _, none⟩) NB355_356.out _).trans (((cell_far (p := ⟨gb356, _, none⟩) NB355_356.out _).trans (((cell_far (p := ⟨gb356, _, none⟩) NB355_356.out _).trans (((cell_far (p := ⟨gb356, _, none⟩) NB355_356.out _).trans (hHeld.2.2.2.2.2.2.2.2.1)))))))))), ((cell_far (p := ⟨gb356, _, none⟩) NB355_356.out _).trans (((cell_far (p := ⟨gb356, _, none⟩) NB355_356.out _).trans (((cell_far (p := ⟨gb356, _, none⟩) NB355_356.out _).trans (((cell_far (p := ⟨gb356, _, none⟩) NB355_356.out _).trans (((cell_far (p := ⟨gb356, _, none⟩) NB355_356.out _).trans (hHeld.2.2.2.2.2.2.2.2.2))))))))))⟩ (fun hHeld => ?_)
    clear hK K
    refine one_ (i := 11) (N := none) #[true, true, true, true, true, true, true, true, true, true, true, true, false] rfl rfl (one_of HT_.out (by kernel_rfl)) (by decide) (fun K hK => ?_)
    have hs36 : w30.cell? ⟨gb357, 0, none⟩ = some (.int .u64 0) := (blk_cell BK357.out 0).trans rfl
    have hfs36 := blk_frozen BK357.out 0
    have hns36_0 := NB354_357.out
    have hns36_1 := NB355_357.out
    have hns36_2 := NB356_357.out
    have hms36_0 := NB357_354.out
    have hms36_1 := NB357_355.out
    have hms36_2 := NB357_356.out
    have hs37 : w30.cell? ⟨gb357, 1, none⟩ = some (.int .u64 0) := (blk_cell BK357.out 1).trans rfl
    have hfs37 := blk_frozen BK357.out 1
    have hns37_0 := NB354_357.out
    have hns37_1 := NB355_357.out
    have hns37_2 := NB356_357.out
    have hms37_0 := NB357_354.out
    have hms37_1 := NB357_355.out
    have hms37_2 := NB357_356.out
    have hs38 : w30.cell? ⟨gb357, 2, none⟩ = some (.int .u64 0) := (blk_cell BK357.out 2).trans rfl
    have hfs38 := blk_frozen BK357.out 2
    have hns38_0 := NB354_357.out
    have hns38_1 := NB355_357.out
    have hns38_2 := NB356_357.out
    have hms38_0 := NB357_354.out
    have hms38_1 := NB357_355.out
    have hms38_2 := NB357_356.out
    have hs39 : w30.cell? ⟨gb357, 3, none⟩ = some (.string (⟨#[]⟩ : ByteArray)) := (blk_cell BK357.out 3).trans rfl
    have hfs39 := blk_frozen BK357.out 3
    have hns39_0 := NB354_357.out
    have hns39_1 := NB355_357.out
    have hns39_2 := NB356_357.out
    have hms39_0 := NB357_354.out
    have hms39_1 := NB357_355.out
    have hms39_2 := NB357_356.out
    have hs40 : w30.cell? ⟨gb357, 4, none⟩ = some (.string (⟨#[]⟩ : ByteArray)) := (blk_cell BK357.out 4).trans rfl
    have hfs40 := blk_frozen BK357.out 4
    have hns40_0 := NB354_357.out
    have hns40_1 := NB355_357.out
    have hns40_2 := NB356_357.out
    have hms40_0 := NB357_354.out
    have hms40_1 := NB357_355.out
    have hms40_2 := NB357_356.out
    refine skip_ (w1 := ?_) (by rfl) rfl ?_ ?_
    rotate_left
    · go_simp
      rfl
    refine hK.out _ _ ⟨((cell_far (p := ⟨gb357, _, none⟩) NB354_357.out _).trans (((cell_far (p := ⟨gb357, _, none⟩) NB354_357.out _).trans (((cell_far (p := ⟨gb357, _, none⟩) NB354_357.out _).trans (((cell_far (p := ⟨gb357, _, none⟩) NB354_357.out _).trans (((cell_far (p := ⟨gb357, _, none⟩) NB354_357.out _).trans (hHeld.1)))))))))), ((cell_far (p := ⟨gb357, _, none⟩) NB354_357.out _).trans (((cell_far (p := ⟨gb357, _, none⟩) NB354_357.out _).trans (((cell_far (p := ⟨gb357, _, none⟩) NB354_357.out _).trans (((cell_far (p := ⟨gb357, _, none⟩) NB354_357.out _).trans (((cell_far (p := ⟨gb357, _, none⟩) NB354_357.out _).trans (hHeld.2.1)))))))))), ((cell_far (p := ⟨gb357, _, none⟩) NB354_357.out _).trans (((cell_far (p := ⟨gb357, _, none⟩) NB354_357.out _).trans (((cell_far (p := ⟨gb357, _, none⟩) NB354_357.out _).trans (((cell_far (p := ⟨gb357, _, none⟩) NB354_357.out _).trans (((cell_far (p := ⟨gb357, _, none⟩) NB354_357.out _).trans (hHeld.2.2.1)))))))))), ((cell_far (p := ⟨gb357, _, none⟩) NB354_357.out _).trans (((cell_far (p := ⟨gb357, _, none⟩) NB354_357.out _).trans (((cell_far (p := ⟨gb357, _, none⟩) NB354_357.out _).trans (((cell_far (p := ⟨gb357, _, none⟩) NB354_357.out _).trans (((cell_far (p := ⟨gb357, _, none⟩) NB354_357.out _).trans (hHeld.2.2.2.1)))))))))), ((cell_far (p := ⟨gb357, _, none⟩) NB354_357.out _).trans (((cell_far (p := ⟨gb357, _, none⟩) NB354_357.out _).trans (((cell_far (p := ⟨gb357, _, none⟩) NB354_357.out _).trans (((cell_far (p := ⟨gb357, _, none⟩) NB354_357.out _).trans (((cell_far (p := ⟨gb357, _, none⟩) NB354_357.out _).trans (hHeld.2.2.2.2.1)))))))))), ((cell_far (p := ⟨gb357, _, none⟩) NB355_357.out _).trans (((cell_far (p := ⟨gb357, _, none⟩) NB355_357.out _).trans (((cell_far (p := ⟨gb357, _, none⟩) NB355_357.out _).trans (((cell_far (p := ⟨gb357, _, none⟩) NB355_357.out _).trans (((cell_far (p := ⟨gb357, _, none⟩) NB355_357.out _).trans (hHeld.2.2.2.2.2.1)))))))))), ((cell_far (p := ⟨gb357, _, none⟩) NB355_357.out _).trans (((cell_far (p := ⟨gb357, _, none⟩) NB355_357.out _).trans (((cell_far (p := ⟨gb357, _, none⟩) NB355_357.out _).trans (((cell_far (p := ⟨gb357, _, none⟩) NB355_357.out _).trans (((cell_far (p := ⟨gb357, _, none⟩) NB355_357.out _).trans (hHeld.2.2.2.2.2.2.1)))))))))), ((cell_far (p := ⟨gb357, _, none⟩) NB355_357.out _).trans (((cell_far (p := ⟨gb357, _, none⟩) NB355_357.out _).trans (((cell_far (p := ⟨gb357, _, none⟩) NB355_357.out _).trans (((cell_far (p := ⟨gb357, _, none⟩) NB355_357.out _).trans (((cell_far (p := ⟨gb357, _, none⟩) NB355_357.out _).trans (hHeld.2.2.2.2.2.2.2.1)))))))))), ((cell_far (p := ⟨gb357, _, none⟩) NB355_357.out _).trans (((cell_far (p := ⟨gb357, _, none⟩) NB355_357.out _).trans (((cell_far (p := ⟨gb357, _, none⟩) NB355_357.out _).trans (((cell_far (p := ⟨gb357, _, none⟩) NB355_357.out _).trans (((cell_far (p := ⟨gb357, _, none⟩) NB355_357.out _).trans (hHeld.2.2.2.2.2.2.2.2.1)))))))))), ((cell_far (p := ⟨gb357, _, none⟩) NB355_357.out _).trans (((cell_far (p := ⟨gb357, _, none⟩) NB355_357.out _).trans (((cell_far (p := ⟨gb357, _, none⟩) NB355_357.out _).trans (((cell_far (p := ⟨gb357, _, none⟩) NB355_357.out _).trans (((cell_far (p := ⟨gb357, _, none⟩) NB355_357.out _).trans (hHeld.2.2.2.2.2.2.2.2.2))))))))))⟩ (fun hHeld => ?_)
    clear hK K
    refine pure_ (i := 12) (N := some 8) (v := ?_) (a' := ?_) #[true, true, true, true, true, true, true, true, true, true, true, true, true] rfl rfl (any_of HT_.out (by kernel_rfl)) (fun _ _ _ h => h) (Or.inl ⟨by rfl, ?_⟩) ?_ ?_
    rotate_left
    · intro w'
      go_simp
      with_reducible rfl
    rotate_left
    · simp only [Act.put, List.setIfInBounds_toArray, List.set_cons_zero, List.set_cons_succ, i64_w, i32_w]
      rfl
    refine done_ (done_of HT_.out (by kernel_rfl)) ?_
    try go_wp2
    refine bodyPost_ret (results_list (rs := [.cell 6 24, .cell 7 24, .tmp 8]) rfl (by simp) (.cell gb356 24 #[.int .u64 t358, .int .u64 t359, .int .u64 t360, .string t361, .string t362] (0, 0) _ rfl (by (with_reducible repeat (first | refine blk_drewN ?_ _ | refine blk_drew ?_ | refine blk_alloc ?_ _)); refine blk_far ?_ NB356_357.out _; (with_reducible repeat (first | refine blk_drewN ?_ _ | refine blk_drew ?_ | refine blk_alloc ?_ _)); refine blk_far ?_ NB356_357.out _; (with_reducible repeat (first | refine blk_drewN ?_ _ | refine blk_drew ?_ | refine blk_alloc ?_ _)); refine blk_far ?_ NB356_357.out _; (with_reducible repeat (first | refine blk_drewN ?_ _ | refine blk_drew ?_ | refine blk_alloc ?_ _)); refine blk_far ?_ NB356_357.out _; (with_reducible repeat (first | refine blk_drewN ?_ _ | refine blk_drew ?_ | refine blk_alloc ?_ _)); refine blk_far ?_ NB356_357.out _; (with_reducible repeat (first | refine blk_drewN ?_ _ | refine blk_drew ?_ | refine blk_alloc ?_ _)); refine blk_put (cs := #[.int .u64 t358, .int .u64 t359, .int .u64 t360, .string t361, .string (⟨#[]⟩ : ByteArray)]) ?_ 4 _ rfl; (with_reducible repeat (first | refine blk_drewN ?_ _ | refine blk_drew ?_ | refine blk_alloc ?_ _)); refine blk_put (cs := #[.int .u64 t358, .int .u64 t359, .int .u64 t360, .string (⟨#[]⟩ : ByteArray), .string (⟨#[]⟩ : ByteArray)]) ?_ 3 _ rfl; (with_reducible repeat (first | refine blk_drewN ?_ _ | refine blk_drew ?_ | refine blk_alloc ?_ _)); refine blk_put (cs := #[.int .u64 t358, .int .u64 t359, .int .u64 0, .string (⟨#[]⟩ : ByteArray), .string (⟨#[]⟩ : ByteArray)]) ?_ 2 _ rfl; (with_reducible repeat (first | refine blk_drewN ?_ _ | refine blk_drew ?_ | refine blk_alloc ?_ _)); refine blk_put (cs := #[.int .u64 t358, .int .u64 0, .int .u64 0, .string (⟨#[]⟩ : ByteArray), .string (⟨#[]⟩ : ByteArray)]) ?_ 1 _ rfl; (with_reducible repeat (first | refine blk_drewN ?_ _ | refine blk_drew ?_ | refine blk_alloc ?_ _)); refine blk_put (cs := #[.int .u64 0, .int .u64 0, .int .u64 0, .string (⟨#[]⟩ : ByteArray), .string (⟨#[]⟩ : ByteArray)]) ?_ 0 _ rfl; (with_reducible repeat (first | refine blk_drewN ?_ _ | refine blk_drew ?_ | refine blk_alloc ?_ _)); exact BK356.out) Tryd.underlying24 rfl (by kernel_rfl) (.cell gb357 24 #[.int .u64 t363, .int .u64 t364, .int .u64 t365, .string t366, .string t367] (0, 0) _ rfl (by (with_reducible repeat (first | refine blk_drewN ?_ _ | refine blk_drew ?_ | refine blk_alloc ?_ _)); refine blk_put (cs := #[.int .u64 t363, .int .u64 t364, .int .u64 t365, .string t366, .string (⟨#[]⟩ : ByteArray)]) ?_ 4 _ rfl; (with_reducible repeat (first | refine blk_drewN ?_ _ | refine blk_drew ?_ | refine blk_alloc ?_ _)); refine blk_put (cs := #[.int .u64 t363, .int .u64 t364, .int .u64 t365, .string (⟨#[]⟩ : ByteArray), .string (⟨#[]⟩ : ByteArray)]) ?_ 3 _ rfl; (with_reducible repeat (first | refine blk_drewN ?_ _ | refine blk_drew ?_ | refine blk_alloc ?_ _)); refine blk_put (cs := #[.int .u64 t363, .int .u64 t364, .int .u64 0, .string (⟨#[]⟩ : ByteArray), .string (⟨#[]⟩ : ByteArray)]) ?_ 2 _ rfl; (with_reducible repeat (first | refine blk_drewN ?_ _ | refine blk_drew ?_ | refine blk_alloc ?_ _)); refine blk_put (cs := #[.int .u64 t363, .int .u64 0, .int .u64 0, .string (⟨#[]⟩ : ByteArray), .string (⟨#[]⟩ : ByteArray)]) ?_ 1 _ rfl; (with_reducible repeat (first | refine blk_drewN ?_ _ | refine blk_drew ?_ | refine blk_alloc ?_ _)); refine blk_put (cs := #[.int .u64 0, .int .u64 0, .int .u64 0, .string (⟨#[]⟩ : ByteArray), .string (⟨#[]⟩ : ByteArray)]) ?_ 0 _ rfl; (with_reducible repeat (first | refine blk_drewN ?_ _ | refine blk_drew ?_ | refine blk_alloc ?_ _)); refine blk_far ?_ NB357_356.out _; (with_reducible repeat (first | refine blk_drewN ?_ _ | refine blk_drew ?_ | refine blk_alloc ?_ _)); refine blk_far ?_ NB357_356.out _; (with_reducible repeat (first | refine blk_drewN ?_ _ | refine blk_drew ?_ | refine blk_alloc ?_ _)); refine blk_far ?_ NB357_356.out _; (with_reducible repeat (first | refine blk_drewN ?_ _ | refine blk_drew ?_ | refine blk_alloc ?_ _)); refine blk_far ?_ NB357_356.out _; (with_reducible repeat (first | refine blk_drewN ?_ _ | refine blk_drew ?_ | refine blk_alloc ?_ _)); refine blk_far ?_ NB357_356.out _; (with_reducible repeat (first | refine blk_drewN ?_ _ | refine blk_drew ?_ | refine blk_alloc ?_ _)); exact BK357.out) Tryd.underlying24 rfl (by kernel_rfl) (.tmp .nil)))) rfl ?_
    exact ⟨by first | rfl | (simp [errW_none, errW_some] <;> rfl) | (simp [*, errW_none, errW_some] <;> rfl), by repeat (first | (with_reducible first | exact HB.out | apply below_alloc | apply pw_below_drewN | apply below_drew1 | refine below_set ?_ GE354.out | refine below_set ?_ GE355.out | refine below_set ?_ GE356.out | refine below_set ?_ GE357.out) | exact HB.out)⟩

end Go.Proofs.YtlooelfkkbgmhaaDoor.QS
