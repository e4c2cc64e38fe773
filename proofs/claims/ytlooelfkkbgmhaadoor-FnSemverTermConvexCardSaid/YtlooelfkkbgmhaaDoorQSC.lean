-- written by a program of mine (wip/tools/myprint.py) for this claim. Not trusted: Lean checks it.
import Derived.Test.YtlooelfkkbgmhaaDoorQSA
import Derived.Test.YtlooelfkkbgmhaaDoorQSP
import Derived.Test.YtlooelfkkbgmhaaDoorGivSpec
namespace Go.Proofs.YtlooelfkkbgmhaaDoor.QS
open Go.RowKit Go.Proofs.YtlooelfkkbgmhaaDoorW.PrintWords Go.Proofs.YtlooelfkkbgmhaaDoorW.PrintLast
attribute [local go_sem] min_pair max_pair
set_option linter.unusedVariables false
set_option linter.unusedSimpArgs false

/-! ### spec_Compare: function 47 -/
def spec_Compare.f (k : Nat) (a0_0 : Int) (a0_1 : Int) (a0_2 : Int) (a0_3 : ByteArray) (a0_4 : ByteArray) (a1_0 : Int) (a1_1 : Int) (a1_2 : Int) (a1_3 : ByteArray) (a1_4 : ByteArray) : Option (Int) := (spec_CompareNumbers.f a0_0 a0_1 a0_2 a0_3 a0_4 a1_0 a1_1 a1_2 a1_3 a1_4 3).bind fun t275 => (if t275 = 0 then ((spec_ComparePre.f k a0_3 a1_3).bind fun t276 => (some t276)) else (some t275))
theorem spec_Compare.mono : ∀ a0 a1 a2 a3 a4 a5 a6 a7 a8 a9 k, LeO (spec_Compare.f k a0 a1 a2 a3 a4 a5 a6 a7 a8 a9) (spec_Compare.f (k + 1) a0 a1 a2 a3 a4 a5 a6 a7 a8 a9) := by
  intro a0 a1 a2 a3 a4 a5 a6 a7 a8 a9 k
  unfold spec_Compare.f
  repeat' first
      | (with_reducible exact spec_ComparePre.mono _ _ _)
      | (with_reducible exact LeO.refl _)
      | (with_reducible exact LeO.none _)
      | (with_reducible refine LeO.ite ?_ ?_)
      | (with_reducible refine LeO.bind ?_ (fun _ => ?_))
      | exact spec_ComparePre.mono _ _ _
      | exact LeO.none _
      | refine LeO.ite ?_ ?_
      | refine LeO.bind ?_ (fun _ => ?_)
set_option maxHeartbeats 8000000 in
set_option maxRecDepth 100000 in
theorem spec_Compare.calls (k : Nat) (a0_0 : Int) (a0_1 : Int) (a0_2 : Int) (a0_3 : ByteArray) (a0_4 : ByteArray) (a1_0 : Int) (a1_1 : Int) (a1_2 : Int) (a1_3 : ByteArray) (a1_4 : ByteArray) (r : Int) (w : World) (h : spec_Compare.f k a0_0 a0_1 a0_2 a0_3 a0_4 a1_0 a1_1 a1_2 a1_3 a1_4 = some r) :
    Calls Tryd.prog 47 #[.agg #[.int .u64 a0_0, .int .u64 a0_1, .int .u64 a0_2, .string a0_3, .string a0_4], .agg #[.int .u64 a1_0, .int .u64 a1_1, .int .u64 a1_2, .string a1_3, .string a1_4]] w fun e w' => e = .returned (.int .i64 r) ∧ Below w.heap.size w w' := by
  have hu24 := Tryd.underlying24
  have HB := Aside0.mk (Below.refl w.heap.size w)
  have H : ((spec_CompareNumbers.f a0_0 a0_1 a0_2 a0_3 a0_4 a1_0 a1_1 a1_2 a1_3 a1_4 3).bind fun t275 => (if t275 = 0 then ((spec_ComparePre.f k a0_3 a1_3).bind fun t276 => (some t276)) else (some t275))) = some r := h
  clear h
  replace H := Option.bind_eq_some_iff.mp H
  obtain ⟨t275, A30, H⟩ := H
  replace H : (if t275 = 0 then ((spec_ComparePre.f k a0_3 a1_3).bind fun t276 => (some t276)) else (some t275)) = some r := H
  have A3 := Aside0.mk A30
  clear A30
  by_cases c4 : t275 = 0
  · rw [if_pos c4] at H
    have c4b0 : (t275 == 0) = true := beq_iff_eq.mpr c4
    have c4b1 : (t275 != 0) = false := bne_eq_false_iff_eq.mpr c4
    clear c4
    replace H := Option.bind_eq_some_iff.mp H
    obtain ⟨t276, A50, H⟩ := H
    replace H : (some t276) = some r := H
    have A5 := Aside0.mk A50
    clear A50
    obtain rfl := Option.some.inj H
    go_enter Tryd.func47, Tryd.ntmps47
    go_wp2_with (first | ((with_reducible refine gate_dst (N := 2) rfl ?_); refine box_event ?hg (N := 2) ?hd (cs := #[.int .u64 a0_0, .int .u64 a0_1, .int .u64 a0_2, .string a0_3, .string a0_4]) (t := 24) ?hr ?_; (case hd => rfl); (case hg => rfl); (case hr => first | (go_simp; done) | (go_simp; rfl)); intro gb273 hg w6 hbox hb; have n0_ := Aside0.mk (below_step (by repeat (first | (with_reducible first | exact HB.out | apply below_alloc | apply pw_below_drewN | apply below_drew1) | exact HB.out)) hb); have n1_ := Aside0.mk (hbox); have n2_ := Aside0.mk ((by rw [hg]; exact (below_size (by repeat (first | (with_reducible first | exact HB.out | apply below_alloc | apply pw_below_drewN | apply below_drew1) | exact HB.out))) : w.heap.size ≤ gb273)); have n3_ := Aside0.mk ((by rw [hg]; exact (below_size (by repeat (first | (with_reducible first | exact HB.out | apply below_alloc | apply pw_below_drewN | apply below_drew1) | exact HB.out))) : w.heap.size ≤ gb273)); clear HB; have HB := n0_; have BK273 := n1_; have GW273 := n2_; have GE273 := n3_; clear n0_ n1_ n2_ n3_; clear hb hbox hg) | ((with_reducible refine gate_dst (N := 3) rfl ?_); refine box_event ?hg (N := 3) ?hd (cs := #[.int .u64 a1_0, .int .u64 a1_1, .int .u64 a1_2, .string a1_3, .string a1_4]) (t := 24) ?hr ?_; (case hd => rfl); (case hg => rfl); (case hr => first | (go_simp; done) | (go_simp; rfl)); intro gb274 hg w7 hbox hb; have n0_ := Aside0.mk (blk_below (g := gb273) (o := .cells #[.int .u64 a0_0, .int .u64 a0_1, .int .u64 a0_2, .string a0_3, .string a0_4] 24 (0, 0)) (by (with_reducible repeat (first | refine blk_drewN ?_ _ | refine blk_drew ?_ | refine blk_alloc ?_ _)); exact BK273.out) hb); have n1_ := Aside0.mk (below_step (by repeat (first | (with_reducible first | exact HB.out | apply below_alloc | apply pw_below_drewN | apply below_drew1 | refine below_set ?_ GE273.out) | exact HB.out)) hb); have n2_ := Aside0.mk (hbox); have n3_ := Aside0.mk ((by rw [hg]; exact (below_size (by repeat (first | (with_reducible first | exact HB.out | apply below_alloc | apply pw_below_drewN | apply below_drew1 | refine below_set ?_ GE273.out) | exact HB.out))) : w.heap.size ≤ gb274)); have n4_ := Aside0.mk ((by rw [hg]; exact (below_size (by repeat (first | (with_reducible first | exact HB.out | apply below_alloc | apply pw_below_drewN | apply below_drew1 | refine below_set ?_ GE273.out) | exact HB.out))) : w.heap.size ≤ gb274)); have n5_ := Aside0.mk ((by rw [hg]; exact Nat.ne_of_lt (blk_lt (g := gb273) (o := .cells #[.int .u64 a0_0, .int .u64 a0_1, .int .u64 a0_2, .string a0_3, .string a0_4] 24 (0, 0)) (by (with_reducible repeat (first | refine blk_drewN ?_ _ | refine blk_drew ?_ | refine blk_alloc ?_ _)); exact BK273.out)) : gb273 ≠ gb274)); have n6_ := Aside0.mk ((by rw [hg]; exact Nat.ne_of_gt (blk_lt (g := gb273) (o := .cells #[.int .u64 a0_0, .int .u64 a0_1, .int .u64 a0_2, .string a0_3, .string a0_4] 24 (0, 0)) (by (with_reducible repeat (first | refine blk_drewN ?_ _ | refine blk_drew ?_ | refine blk_alloc ?_ _)); exact BK273.out)) : gb274 ≠ gb273)); clear BK273; clear HB; have BK273 := n0_; have HB := n1_; have BK274 := n2_; have GW274 := n3_; have GE274 := n4_; have NB273_274 := n5_; have NB274_273 := n6_; clear n0_ n1_ n2_ n3_ n4_ n5_ n6_; clear hb hbox hg; have hnb8 := NB273_274.out; have hnc8 := NB274_273.out; have hcz9_0 : w7.cell? ⟨gb273, 0, none⟩ = some (.int .u64 a0_0) := (blk_cell BK273.out 0).trans rfl; have hcz9_1 : w7.cell? ⟨gb273, 1, none⟩ = some (.int .u64 a0_1) := (blk_cell BK273.out 1).trans rfl; have hcz9_2 : w7.cell? ⟨gb273, 2, none⟩ = some (.int .u64 a0_2) := (blk_cell BK273.out 2).trans rfl; have hcz9_3 : w7.cell? ⟨gb273, 3, none⟩ = some (.string a0_3) := (blk_cell BK273.out 3).trans rfl; have hcz9_4 : w7.cell? ⟨gb273, 4, none⟩ = some (.string a0_4) := (blk_cell BK273.out 4).trans rfl; have hfz9_0 := blk_frozen BK273.out 0; have hfz9_1 := blk_frozen BK273.out 1; have hfz9_2 := blk_frozen BK273.out 2; have hfz9_3 := blk_frozen BK273.out 3; have hfz9_4 := blk_frozen BK273.out 4; have hcz10_0 : w7.cell? ⟨gb274, 0, none⟩ = some (.int .u64 a1_0) := (blk_cell BK274.out 0).trans rfl; have hcz10_1 : w7.cell? ⟨gb274, 1, none⟩ = some (.int .u64 a1_1) := (blk_cell BK274.out 1).trans rfl; have hcz10_2 : w7.cell? ⟨gb274, 2, none⟩ = some (.int .u64 a1_2) := (blk_cell BK274.out 2).trans rfl; have hcz10_3 : w7.cell? ⟨gb274, 3, none⟩ = some (.string a1_3) := (blk_cell BK274.out 3).trans rfl; have hcz10_4 : w7.cell? ⟨gb274, 4, none⟩ = some (.string a1_4) := (blk_cell BK274.out 4).trans rfl; have hfz10_0 := blk_frozen BK274.out 0; have hfz10_1 := blk_frozen BK274.out 1; have hfz10_2 := blk_frozen BK274.out 2; have hfz10_3 := blk_frozen BK274.out 3; have hfz10_4 := blk_frozen BK274.out 4) | ((with_reducible refine only_callee (f := 94) rfl ?_); refine goesL_ (some 8) rfl rfl Tryd.func94 (by kernel_rfl) rfl #[.agg #[.int .u64 a0_0, .int .u64 a0_1, .int .u64 a0_2, .string a0_3, .string a0_4], .agg #[.int .u64 a1_0, .int .u64 a1_1, .int .u64 a1_2, .string a1_3, .string a1_4], .int .i64 3] rfl (by (try simp only [List.map_toArray, List.map_cons, List.map_nil]); first | done | rfl | (simp only [List.length_drop, List.length_take]; rfl)) ?_; (with_reducible refine (spec_CompareNumbers.calls a0_0 a0_1 a0_2 a0_3 a0_4 a1_0 a1_1 a1_2 a1_3 a1_4 3 t275 _ A3.out).mono ?_); rintro e w11 ⟨rfl, hb⟩; refine ⟨_, rfl, ?_⟩; have n0_ := Aside0.mk (blk_below (g := gb273) (o := .cells #[.int .u64 a0_0, .int .u64 a0_1, .int .u64 a0_2, .string a0_3, .string a0_4] 24 (0, 0)) (by (with_reducible repeat (first | refine blk_drewN ?_ _ | refine blk_drew ?_ | refine blk_alloc ?_ _)); exact BK273.out) hb); have n1_ := Aside0.mk (blk_below (g := gb274) (o := .cells #[.int .u64 a1_0, .int .u64 a1_1, .int .u64 a1_2, .string a1_3, .string a1_4] 24 (0, 0)) (by (with_reducible repeat (first | refine blk_drewN ?_ _ | refine blk_drew ?_ | refine blk_alloc ?_ _)); exact BK274.out) hb); have n2_ := Aside0.mk (below_step (by repeat (first | (with_reducible first | exact HB.out | apply below_alloc | apply pw_below_drewN | apply below_drew1 | refine below_set ?_ GE273.out | refine below_set ?_ GE274.out) | exact HB.out)) hb); clear BK273; clear BK274; clear HB; have BK273 := n0_; have BK274 := n1_; have HB := n2_; clear n0_ n1_ n2_; (try clear hb); (try clear hb2); (try clear hk); (try clear hi); have hcz12_0 : w11.cell? ⟨gb273, 0, none⟩ = some (.int .u64 a0_0) := (blk_cell BK273.out 0).trans rfl; have hcz12_1 : w11.cell? ⟨gb273, 1, none⟩ = some (.int .u64 a0_1) := (blk_cell BK273.out 1).trans rfl; have hcz12_2 : w11.cell? ⟨gb273, 2, none⟩ = some (.int .u64 a0_2) := (blk_cell BK273.out 2).trans rfl; have hcz12_3 : w11.cell? ⟨gb273, 3, none⟩ = some (.string a0_3) := (blk_cell BK273.out 3).trans rfl; have hcz12_4 : w11.cell? ⟨gb273, 4, none⟩ = some (.string a0_4) := (blk_cell BK273.out 4).trans rfl; have hfz12_0 := blk_frozen BK273.out 0; have hfz12_1 := blk_frozen BK273.out 1; have hfz12_2 := blk_frozen BK273.out 2; have hfz12_3 := blk_frozen BK273.out 3; have hfz12_4 := blk_frozen BK273.out 4; have hcz13_0 : w11.cell? ⟨gb274, 0, none⟩ = some (.int .u64 a1_0) := (blk_cell BK274.out 0).trans rfl; have hcz13_1 : w11.cell? ⟨gb274, 1, none⟩ = some (.int .u64 a1_1) := (blk_cell BK274.out 1).trans rfl; have hcz13_2 : w11.cell? ⟨gb274, 2, none⟩ = some (.int .u64 a1_2) := (blk_cell BK274.out 2).trans rfl; have hcz13_3 : w11.cell? ⟨gb274, 3, none⟩ = some (.string a1_3) := (blk_cell BK274.out 3).trans rfl; have hcz13_4 : w11.cell? ⟨gb274, 4, none⟩ = some (.string a1_4) := (blk_cell BK274.out 4).trans rfl; have hfz13_0 := blk_frozen BK274.out 0; have hfz13_1 := blk_frozen BK274.out 1; have hfz13_2 := blk_frozen BK274.out 2; have hfz13_3 := blk_frozen BK274.out 3; have hfz13_4 := blk_frozen BK274.out 4) | ((with_reducible refine only_callee (f := 95) rfl ?_); refine goesL_ (some 16) rfl rfl Tryd.func95 (by kernel_rfl) rfl #[.string a0_3, .string a1_3] rfl (by (try simp only [List.map_toArray, List.map_cons, List.map_nil]); first | done | rfl | (simp only [List.length_drop, List.length_take]; rfl)) ?_; (with_reducible refine (spec_ComparePre.calls k a0_3 a1_3 t276 _ A5.out).mono ?_); rintro e w14 ⟨rfl, hb⟩; refine ⟨_, rfl, ?_⟩; have n0_ := Aside0.mk (blk_below (g := gb273) (o := .cells #[.int .u64 a0_0, .int .u64 a0_1, .int .u64 a0_2, .string a0_3, .string a0_4] 24 (0, 0)) (by (with_reducible repeat (first | refine blk_drewN ?_ _ | refine blk_drew ?_ | refine blk_alloc ?_ _)); exact BK273.out) hb); have n1_ := Aside0.mk (blk_below (g := gb274) (o := .cells #[.int .u64 a1_0, .int .u64 a1_1, .int .u64 a1_2, .string a1_3, .string a1_4] 24 (0, 0)) (by (with_reducible repeat (first | refine blk_drewN ?_ _ | refine blk_drew ?_ | refine blk_alloc ?_ _)); exact BK274.out) hb); have n2_ := Aside0.mk (below_step (by repeat (first | (with_reducible first | exact HB.out | apply below_alloc | apply pw_below_drewN | apply below_drew1 | refine below_set ?_ GE273.out | refine below_set ?_ GE274.out) | exact HB.out)) hb); clear BK273; clear BK274; clear HB; have BK273 := n0_; have BK274 := n1_; have HB := n2_; clear n0_ n1_ n2_; (try clear hb); (try clear hb2); (try clear hk); (try clear hi)))
    go_ret
    exact ⟨by first | rfl | (simp [errW_none, errW_some] <;> rfl) | (simp [*, errW_none, errW_some] <;> rfl), by repeat (first | (with_reducible first | exact HB.out | apply below_alloc | apply pw_below_drewN | apply below_drew1 | refine below_set ?_ GE273.out | refine below_set ?_ GE274.out) | exact HB.out)⟩
  · rw [if_neg c4] at H
    have c4b0 : (t275 == 0) = false := beq_eq_false_iff_ne.mpr c4
    have c4b1 : (t275 != 0) = true := bne_iff_ne.mpr c4
    obtain rfl := Option.some.inj H
    go_enter Tryd.func47, Tryd.ntmps47
    go_wp2_with (first | ((with_reducible refine gate_dst (N := 2) rfl ?_); refine box_event ?hg (N := 2) ?hd (cs := #[.int .u64 a0_0, .int .u64 a0_1, .int .u64 a0_2, .string a0_3, .string a0_4]) (t := 24) ?hr ?_; (case hd => rfl); (case hg => rfl); (case hr => first | (go_simp; done) | (go_simp; rfl)); intro gb273 hg w15 hbox hb; have n0_ := Aside0.mk (below_step (by repeat (first | (with_reducible first | exact HB.out | apply below_alloc | apply pw_below_drewN | apply below_drew1) | exact HB.out)) hb); have n1_ := Aside0.mk (hbox); have n2_ := Aside0.mk ((by rw [hg]; exact (below_size (by repeat (first | (with_reducible first | exact HB.out | apply below_alloc | apply pw_below_drewN | apply below_drew1) | exact HB.out))) : w.heap.size ≤ gb273)); have n3_ := Aside0.mk ((by rw [hg]; exact (below_size (by repeat (first | (with_reducible first | exact HB.out | apply below_alloc | apply pw_below_drewN | apply below_drew1) | exact HB.out))) : w.heap.size ≤ gb273)); clear HB; have HB := n0_; have BK273 := n1_; have GW273 := n2_; have GE273 := n3_; clear n0_ n1_ n2_ n3_; clear hb hbox hg) | ((with_reducible refine gate_dst (N := 3) rfl ?_); refine box_event ?hg (N := 3) ?hd (cs := #[.int .u64 a1_0, .int .u64 a1_1, .int .u64 a1_2, .string a1_3, .string a1_4]) (t := 24) ?hr ?_; (case hd => rfl); (case hg => rfl); (case hr => first | (go_simp; done) | (go_simp; rfl)); intro gb274 hg w16 hbox hb; have n0_ := Aside0.mk (blk_below (g := gb273) (o := .cells #[.int .u64 a0_0, .int .u64 a0_1, .int .u64 a0_2, .string a0_3, .string a0_4] 24 (0, 0)) (by (with_reducible repeat (first | refine blk_drewN ?_ _ | refine blk_drew ?_ | refine blk_alloc ?_ _)); exact BK273.out) hb); have n1_ := Aside0.mk (below_step (by repeat (first | (with_reducible first | exact HB.out | apply below_alloc | apply pw_below_drewN | apply below_drew1 | refine below_set ?_ GE273.out) | exact HB.out)) hb); have n2_ := Aside0.mk (hbox); have n3_ := Aside0.mk ((by rw [hg]; exact (below_size (by repeat (first | (with_reducible first | exact HB.out | apply below_alloc | apply pw_below_drewN | apply below_drew1 | refine below_set ?_ GE273.out) | exact HB.out))) : w.heap.size ≤ gb274)); have n4_ := Aside0.mk ((by rw [hg]; exact (below_size (by repeat (first | (with_reducible first | exact HB.out | apply below_alloc | apply pw_below_drewN | apply below_drew1 | refine below_set ?_ GE273.out) | exact HB.out))) : w.heap.size ≤ gb274)); have n5_ := Aside0.mk ((by rw [hg]; exact Nat.ne_of_lt (blk_lt (g := gb273) (o := .cells #[.int .u64 a0_0, .int .u64 a0_1, .int .u64 a0_2, .string a0_3, .string a0_4] 24 (0, 0)) (by (with_reducible repeat (first | refine blk_drewN ?_ _ | refine blk_drew ?_ | refine blk_alloc ?_ _)); exact BK273.out)) : gb273 ≠ gb274)); have n6_ := Aside0.mk ((by rw [hg]; exact Nat.ne_of_gt (blk_lt (g := gb273) (o := .cells #[.int .u64 a0_0, .int .u64 a0_1, .int .u64 a0_2, .string a0_3, .string a0_4] 24 (0, 0)) (by (with_reducible repeat (first | refine blk_drewN ?_ _ | refine blk_drew ?_ | refine blk_alloc ?_ _)); exact BK273.out)) : gb274 ≠ gb273)); clear BK273; clear HB; have BK273 := n0_; have HB := n1_; have BK274 := n2_; have GW274 := n3_; have GE274 := n4_; have NB273_274 := n5_; have NB274_273 := n6_; clear n0_ n1_ n2_ n3_ n4_ n5_ n6_; clear hb hbox hg; have hnb17 := NB273_274.out; have hnc17 := NB274_273.out; have hcz18_0 : w16.cell? ⟨gb273, 0, none⟩ = some (.int .u64 a0_0) := (blk_cell BK273.out 0).trans rfl; have hcz18_1 : w16.cell? ⟨gb273, 1, none⟩ = some (.int .u64 a0_1) := (blk_cell BK273.out 1).trans rfl; have hcz18_2 : w16.cell? ⟨gb273, 2, none⟩ = some (.int .u64 a0_2) := (blk_cell BK273.out 2).trans rfl; have hcz18_3 : w16.cell? ⟨gb273, 3, none⟩ = some (.string a0_3) := (blk_cell BK273.out 3).trans rfl; have hcz18_4 : w16.cell? ⟨gb273, 4, none⟩ = some (.string a0_4) := (blk_cell BK273.out 4).trans rfl; have hfz18_0 := blk_frozen BK273.out 0; have hfz18_1 := blk_frozen BK273.out 1; have hfz18_2 := blk_frozen BK273.out 2; have hfz18_3 := blk_frozen BK273.out 3; have hfz18_4 := blk_frozen BK273.out 4; have hcz19_0 : w16.cell? ⟨gb274, 0, none⟩ = some (.int .u64 a1_0) := (blk_cell BK274.out 0).trans rfl; have hcz19_1 : w16.cell? ⟨gb274, 1, none⟩ = some (.int .u64 a1_1) := (blk_cell BK274.out 1).trans rfl; have hcz19_2 : w16.cell? ⟨gb274, 2, none⟩ = some (.int .u64 a1_2) := (blk_cell BK274.out 2).trans rfl; have hcz19_3 : w16.cell? ⟨gb274, 3, none⟩ = some (.string a1_3) := (blk_cell BK274.out 3).trans rfl; have hcz19_4 : w16.cell? ⟨gb274, 4, none⟩ = some (.string a1_4) := (blk_cell BK274.out 4).trans rfl; have hfz19_0 := blk_frozen BK274.out 0; have hfz19_1 := blk_frozen BK274.out 1; have hfz19_2 := blk_frozen BK274.out 2; have hfz19_3 := blk_frozen BK274.out 3; have hfz19_4 := blk_frozen BK274.out 4) | ((with_reducible refine only_callee (f := 94) rfl ?_); refine goesL_ (some 8) rfl rfl Tryd.func94 (by kernel_rfl) rfl #[.agg #[.int .u64 a0_0, .int .u64 a0_1, .int .u64 a0_2, .string a0_3, .string a0_4], .agg #[.int .u64 a1_0, .int .u64 a1_1, .int .u64 a1_2, .string a1_3, .string a1_4], .int .i64 3] rfl (by (try simp only [List.map_toArray, List.map_cons, List.map_nil]); first | done | rfl | (simp only [List.length_drop, List.length_take]; rfl)) ?_; (with_reducible refine (spec_CompareNumbers.calls a0_0 a0_1 a0_2 a0_3 a0_4 a1_0 a1_1 a1_2 a1_3 a1_4 3 t275 _ A3.out).mono ?_); rintro e w20 ⟨rfl, hb⟩; refine ⟨_, rfl, ?_⟩; have n0_ := Aside0.mk (blk_below (g := gb273) (o := .cells #[.int .u64 a0_0, .int .u64 a0_1, .int .u64 a0_2, .string a0_3, .string a0_4] 24 (0, 0)) (by (with_reducible repeat (first | refine blk_drewN ?_ _ | refine blk_drew ?_ | refine blk_alloc ?_ _)); exact BK273.out) hb); have n1_ := Aside0.mk (blk_below (g := gb274) (o := .cells #[.int .u64 a1_0, .int .u64 a1_1, .int .u64 a1_2, .string a1_3, .string a1_4] 24 (0, 0)) (by (with_reducible repeat (first | refine blk_drewN ?_ _ | refine blk_drew ?_ | refine blk_alloc ?_ _)); exact BK274.out) hb); have n2_ := Aside0.mk (below_step (by repeat (first | (with_reducible first | exact HB.out | apply below_alloc | apply pw_below_drewN | apply below_drew1 | refine below_set ?_ GE273.out | refine below_set ?_ GE274.out) | exact HB.out)) hb); clear BK273; clear BK274; clear HB; have BK273 := n0_; have BK274 := n1_; have HB := n2_; clear n0_ n1_ n2_; (try clear hb); (try clear hb2); (try clear hk); (try clear hi)))
    go_ret
    exact ⟨by first | rfl | (simp [errW_none, errW_some] <;> rfl) | (simp [*, errW_none, errW_some] <;> rfl), by repeat (first | (with_reducible first | exact HB.out | apply below_alloc | apply pw_below_drewN | apply below_drew1 | refine below_set ?_ GE273.out | refine below_set ?_ GE274.out) | exact HB.out)⟩

/-! ### spec_Least: function 49 -/
def spec_Least.f (a0_0 : Int) (a0_1 : Int) (a0_2 : Int) (a0_3 : Int) (a0_4 : Int) (a0_5 : ByteArray) : Option (Int × Int × Int × ByteArray × ByteArray) := some (a0_2, a0_3, a0_4, a0_5, (⟨#[]⟩ : ByteArray))
set_option maxHeartbeats 8000000 in
set_option maxRecDepth 100000 in
theorem spec_Least.calls (a0_0 : Int) (a0_1 : Int) (a0_2 : Int) (a0_3 : Int) (a0_4 : Int) (a0_5 : ByteArray) (r1 : Int) (r2 : Int) (r3 : Int) (r4 : ByteArray) (r5 : ByteArray) (w : World) (h : spec_Least.f a0_0 a0_1 a0_2 a0_3 a0_4 a0_5 = some (r1, r2, r3, r4, r5)) :
    Calls Tryd.prog 49 #[.agg #[.int .i64 a0_0, .int .i64 a0_1, .int .u64 a0_2, .int .u64 a0_3, .int .u64 a0_4, .string a0_5]] w fun e w' => e = .returned (.agg #[.int .u64 r1, .int .u64 r2, .int .u64 r3, .string r4, .string r5]) ∧ Below w.heap.size w w' := by
  have hu36 := Tryd.underlying36
  have hu24 := Tryd.underlying24
  have HB := Aside0.mk (Below.refl w.heap.size w)
  have H : (some (a0_2, a0_3, a0_4, a0_5, (⟨#[]⟩ : ByteArray))) = some (r1, r2, r3, r4, r5) := h
  clear h
  simp only [Option.some.injEq, Prod.mk.injEq] at H
  obtain ⟨rfl, rfl, rfl, rfl, rfl⟩ := H
  go_enter Tryd.func49, Tryd.ntmps49
  go_wp2_with (first | ((with_reducible refine gate_dst (N := 1) rfl ?_); refine box_event ?hg (N := 1) ?hd (cs := #[.int .i64 a0_0, .int .i64 a0_1, .int .u64 a0_2, .int .u64 a0_3, .int .u64 a0_4, .string a0_5]) (t := 36) ?hr ?_; (case hd => rfl); (case hg => rfl); (case hr => first | (go_simp; done) | (go_simp; rfl)); intro gb277 hg w2 hbox hb; have n0_ := Aside0.mk (below_step (by repeat (first | (with_reducible first | exact HB.out | apply below_alloc | apply pw_below_drewN | apply below_drew1) | exact HB.out)) hb); have n1_ := Aside0.mk (hbox); have n2_ := Aside0.mk ((by rw [hg]; exact (below_size (by repeat (first | (with_reducible first | exact HB.out | apply below_alloc | apply pw_below_drewN | apply below_drew1) | exact HB.out))) : w.heap.size ≤ gb277)); have n3_ := Aside0.mk ((by rw [hg]; exact (below_size (by repeat (first | (with_reducible first | exact HB.out | apply below_alloc | apply pw_below_drewN | apply below_drew1) | exact HB.out))) : w.heap.size ≤ gb277)); clear HB; have HB := n0_; have BK277 := n1_; have GW277 := n2_; have GE277 := n3_; clear n0_ n1_ n2_ n3_; clear hb hbox hg) | ((with_reducible refine gate_dst (N := 2) rfl ?_); refine box_event ?hg (N := 2) ?hd (cs := #[.int .u64 0, .int .u64 0, .int .u64 0, .string (⟨#[]⟩ : ByteArray), .string (⟨#[]⟩ : ByteArray)]) (t := 24) ?hr ?_; (case hd => rfl); (case hg => rfl); (case hr => first | (go_simp; done) | (go_simp; rfl)); intro gb278 hg w3 hbox hb; have n0_ := Aside0.mk (blk_below (g := gb277) (o := .cells #[.int .i64 a0_0, .int .i64 a0_1, .int .u64 a0_2, .int .u64 a0_3, .int .u64 a0_4, .string a0_5] 36 (0, 0)) (by (with_reducible repeat (first | refine blk_drewN ?_ _ | refine blk_drew ?_ | refine blk_alloc ?_ _)); exact BK277.out) hb); have n1_ := Aside0.mk (below_step (by repeat (first | (with_reducible first | exact HB.out | apply below_alloc | apply pw_below_drewN | apply below_drew1 | refine below_set ?_ GE277.out) | exact HB.out)) hb); have n2_ := Aside0.mk (hbox); have n3_ := Aside0.mk ((by rw [hg]; exact (below_size (by repeat (first | (with_reducible first | exact HB.out | apply below_alloc | apply pw_below_drewN | apply below_drew1 | refine below_set ?_ GE277.out) | exact HB.out))) : w.heap.size ≤ gb278)); have n4_ := Aside0.mk ((by rw [hg]; exact (below_size (by repeat (first | (with_reducible first | exact HB.out | apply below_alloc | apply pw_below_drewN | apply below_drew1 | refine below_set ?_ GE277.out) | exact HB.out))) : w.heap.size ≤ gb278)); have n5_ := Aside0.mk ((by rw [hg]; exact Nat.ne_of_lt (blk_lt (g := gb277) (o := .cells #[.int .i64 a0_0, .int .i64 a0_1, .int .u64 a0_2, .int .u64 a0_3, .int .u64 a0_4, .string a0_5] 36 (0, 0)) (by (with_reducible repeat (first | refine blk_drewN ?_ _ | refine blk_drew ?_ | refine blk_alloc ?_ _)); exact BK277.out)) : gb277 ≠ gb278)); have n6_ := Aside0.mk ((by rw [hg]; exact Nat.ne_of_gt (blk_lt (g := gb277) (o := .cells #[.int .i64 a0_0, .int .i64 a0_1, .int .u64 a0_2, .int .u64 a0_3, .int .u64 a0_4, .string a0_5] 36 (0, 0)) (by (with_reducible repeat (first | refine blk_drewN ?_ _ | refine blk_drew ?_ | refine blk_alloc ?_ _)); exact BK277.out)) : gb278 ≠ gb277)); clear BK277; clear HB; have BK277 := n0_; have HB := n1_; have BK278 := n2_; have GW278 := n3_; have GE278 := n4_; have NB277_278 := n5_; have NB278_277 := n6_; clear n0_ n1_ n2_ n3_ n4_ n5_ n6_; clear hb hbox hg; have hnb4 := NB277_278.out; have hnc4 := NB278_277.out; have hcz5_0 : w3.cell? ⟨gb277, 0, none⟩ = some (.int .i64 a0_0) := (blk_cell BK277.out 0).trans rfl; have hcz5_1 : w3.cell? ⟨gb277, 1, none⟩ = some (.int .i64 a0_1) := (blk_cell BK277.out 1).trans rfl; have hcz5_2 : w3.cell? ⟨gb277, 2, none⟩ = some (.int .u64 a0_2) := (blk_cell BK277.out 2).trans rfl; have hcz5_3 : w3.cell? ⟨gb277, 3, none⟩ = some (.int .u64 a0_3) := (blk_cell BK277.out 3).trans rfl; have hcz5_4 : w3.cell? ⟨gb277, 4, none⟩ = some (.int .u64 a0_4) := (blk_cell BK277.out 4).trans rfl; have hcz5_5 : w3.cell? ⟨gb277, 5, none⟩ = some (.string a0_5) := (blk_cell BK277.out 5).trans rfl; have hfz5_0 := blk_frozen BK277.out 0; have hfz5_1 := blk_frozen BK277.out 1; have hfz5_2 := blk_frozen BK277.out 2; have hfz5_3 := blk_frozen BK277.out 3; have hfz5_4 := blk_frozen BK277.out 4; have hfz5_5 := blk_frozen BK277.out 5; have hcz6_0 : w3.cell? ⟨gb278, 0, none⟩ = some (.int .u64 0) := (blk_cell BK278.out 0).trans rfl; have hcz6_1 : w3.cell? ⟨gb278, 1, none⟩ = some (.int .u64 0) := (blk_cell BK278.out 1).trans rfl; have hcz6_2 : w3.cell? ⟨gb278, 2, none⟩ = some (.int .u64 0) := (blk_cell BK278.out 2).trans rfl; have hcz6_3 : w3.cell? ⟨gb278, 3, none⟩ = some (.string (⟨#[]⟩ : ByteArray)) := (blk_cell BK278.out 3).trans rfl; have hcz6_4 : w3.cell? ⟨gb278, 4, none⟩ = some (.string (⟨#[]⟩ : ByteArray)) := (blk_cell BK278.out 4).trans rfl; have hfz6_0 := blk_frozen BK278.out 0; have hfz6_1 := blk_frozen BK278.out 1; have hfz6_2 := blk_frozen BK278.out 2; have hfz6_3 := blk_frozen BK278.out 3; have hfz6_4 := blk_frozen BK278.out 4))
  refine bodyPost_ret (results_cell_row rfl _ _ gb278 24 #[.int .u64 a0_2, .int .u64 a0_3, .int .u64 a0_4, .string a0_5, .string (⟨#[]⟩ : ByteArray)] (0, 0) _ rfl (by (with_reducible repeat (first | refine blk_drewN ?_ _ | refine blk_drew ?_ | refine blk_alloc ?_ _)); refine blk_put (cs := #[.int .u64 a0_2, .int .u64 a0_3, .int .u64 a0_4, .string a0_5, .string (⟨#[]⟩ : ByteArray)]) ?_ 4 _ rfl; (with_reducible repeat (first | refine blk_drewN ?_ _ | refine blk_drew ?_ | refine blk_alloc ?_ _)); refine blk_put (cs := #[.int .u64 a0_2, .int .u64 a0_3, .int .u64 a0_4, .string (⟨#[]⟩ : ByteArray), .string (⟨#[]⟩ : ByteArray)]) ?_ 3 _ rfl; (with_reducible repeat (first | refine blk_drewN ?_ _ | refine blk_drew ?_ | refine blk_alloc ?_ _)); refine blk_put (cs := #[.int .u64 a0_2, .int .u64 a0_3, .int .u64 0, .string (⟨#[]⟩ : ByteArray), .string (⟨#[]⟩ : ByteArray)]) ?_ 2 _ rfl; (with_reducible repeat (first | refine blk_drewN ?_ _ | refine blk_drew ?_ | refine blk_alloc ?_ _)); refine blk_put (cs := #[.int .u64 a0_2, .int .u64 0, .int .u64 0, .string (⟨#[]⟩ : ByteArray), .string (⟨#[]⟩ : ByteArray)]) ?_ 1 _ rfl; (with_reducible repeat (first | refine blk_drewN ?_ _ | refine blk_drew ?_ | refine blk_alloc ?_ _)); refine blk_put (cs := #[.int .u64 0, .int .u64 0, .int .u64 0, .string (⟨#[]⟩ : ByteArray), .string (⟨#[]⟩ : ByteArray)]) ?_ 0 _ rfl; (with_reducible repeat (first | refine blk_drewN ?_ _ | refine blk_drew ?_ | refine blk_alloc ?_ _)); exact BK278.out) Tryd.underlying24 rfl (by kernel_rfl)) rfl ?_
  exact ⟨by first | rfl | (simp [errW_none, errW_some] <;> rfl) | (simp [*, errW_none, errW_some] <;> rfl), by repeat (first | (with_reducible first | exact HB.out | apply below_alloc | apply pw_below_drewN | apply below_drew1 | refine below_set ?_ GE277.out | refine below_set ?_ GE278.out) | exact HB.out)⟩

/-! ### spec_tildeNumbers: function 125 -/
def spec_tildeNumbers.f (a0_0 : Int) (a0_1 : Int) (a0_2 : Int) (a0_3 : Int) (a0_4 : Int) (a0_5 : ByteArray) : Option (Int) := some (mn 2 a0_1)
set_option maxHeartbeats 8000000 in
set_option maxRecDepth 100000 in
theorem spec_tildeNumbers.calls (a0_0 : Int) (a0_1 : Int) (a0_2 : Int) (a0_3 : Int) (a0_4 : Int) (a0_5 : ByteArray) (r : Int) (w : World) (h : spec_tildeNumbers.f a0_0 a0_1 a0_2 a0_3 a0_4 a0_5 = some r) :
    Calls Tryd.prog 125 #[.agg #[.int .i64 a0_0, .int .i64 a0_1, .int .u64 a0_2, .int .u64 a0_3, .int .u64 a0_4, .string a0_5]] w fun e w' => e = .returned (.int .i64 r) ∧ Below w.heap.size w w' := by
  have hu36 := Tryd.underlying36
  have HB := Aside0.mk (Below.refl w.heap.size w)
  have H : (some (mn 2 a0_1)) = some r := h
  clear h
  obtain ⟨ji2, hji2⟩ : ∃ j_ : Int, (mn 2 a0_1) = j_ := ⟨_, rfl⟩
  replace H : (some ji2) = some r := by first | (rw [hji2] at H; exact H) | (simp only [hji2] at H ⊢; exact H)
  (try (have hji2h : ji2 ≤ 2 := by (rw [← hji2]; unfold mn; (repeat' split) <;> omega)))
  (try (have hji2g : ji2 ≤ 64 := by omega))
  have hji2_ : (if a0_1 < 2 then a0_1 else 2) = ji2 := hji2
  obtain rfl := Option.some.inj H
  go_enter Tryd.func125, Tryd.ntmps125
  go_wp2_with (first | ((with_reducible refine gate_dst (N := 1) rfl ?_); refine box_event ?hg (N := 1) ?hd (cs := #[.int .i64 a0_0, .int .i64 a0_1, .int .u64 a0_2, .int .u64 a0_3, .int .u64 a0_4, .string a0_5]) (t := 36) ?hr ?_; (case hd => rfl); (case hg => rfl); (case hr => first | (go_simp; done) | (go_simp; rfl)); intro gb279 hg w3 hbox hb; have n0_ := Aside0.mk (below_step (by repeat (first | (with_reducible first | exact HB.out | apply below_alloc | apply pw_below_drewN | apply below_drew1) | exact HB.out)) hb); have n1_ := Aside0.mk (hbox); have n2_ := Aside0.mk ((by rw [hg]; exact (below_size (by repeat (first | (with_reducible first | exact HB.out | apply below_alloc | apply pw_below_drewN | apply below_drew1) | exact HB.out))) : w.heap.size ≤ gb279)); have n3_ := Aside0.mk ((by rw [hg]; exact (below_size (by repeat (first | (with_reducible first | exact HB.out | apply below_alloc | apply pw_below_drewN | apply below_drew1) | exact HB.out))) : w.heap.size ≤ gb279)); clear HB; have HB := n0_; have BK279 := n1_; have GW279 := n2_; have GE279 := n3_; clear n0_ n1_ n2_ n3_; clear hb hbox hg; have hcz4_0 : w3.cell? ⟨gb279, 0, none⟩ = some (.int .i64 a0_0) := (blk_cell BK279.out 0).trans rfl; have hcz4_1 : w3.cell? ⟨gb279, 1, none⟩ = some (.int .i64 a0_1) := (blk_cell BK279.out 1).trans rfl; have hcz4_2 : w3.cell? ⟨gb279, 2, none⟩ = some (.int .u64 a0_2) := (blk_cell BK279.out 2).trans rfl; have hcz4_3 : w3.cell? ⟨gb279, 3, none⟩ = some (.int .u64 a0_3) := (blk_cell BK279.out 3).trans rfl; have hcz4_4 : w3.cell? ⟨gb279, 4, none⟩ = some (.int .u64 a0_4) := (blk_cell BK279.out 4).trans rfl; have hcz4_5 : w3.cell? ⟨gb279, 5, none⟩ = some (.string a0_5) := (blk_cell BK279.out 5).trans rfl; have hfz4_0 := blk_frozen BK279.out 0; have hfz4_1 := blk_frozen BK279.out 1; have hfz4_2 := blk_frozen BK279.out 2; have hfz4_3 := blk_frozen BK279.out 3; have hfz4_4 := blk_frozen BK279.out 4; have hfz4_5 := blk_frozen BK279.out 5))
  go_ret
  exact ⟨by first | rfl | (simp [errW_none, errW_some] <;> rfl) | (simp only [← hji2]; first | rfl | (simp [errW_none, errW_some] <;> rfl)) | (simp [*, errW_none, errW_some] <;> rfl), by repeat (first | (with_reducible first | exact HB.out | apply below_alloc | apply pw_below_drewN | apply below_drew1 | refine below_set ?_ GE279.out) | exact HB.out)⟩

/-! ### spec_caretNumbers: function 126 -/
def spec_caretNumbers.l0 : Nat → List Int → Int → Int → Int → Int → Int → Int → Int → ByteArray → Option (Int)
  | 0, _, _, _, _, _, _, _, _, _ => none
  | k + 1, x11, x12, x13, x281000, x281001, x281002, x281003, x281004, x281005 => if x13 < x12 then (if 0 ≤ x13 then (if x13 < (x11.length : Int) then (if (rd x11 x13) = 0 then (spec_caretNumbers.l0 k x11 x12 (wrap64 (x13 + 1)) x281000 x281001 x281002 x281003 x281004 x281005) else (some (wrap64 (x13 + 1)))) else (none)) else (none)) else (some x281001)
def spec_caretNumbers.f (k : Nat) (a0_0 : Int) (a0_1 : Int) (a0_2 : Int) (a0_3 : Int) (a0_4 : Int) (a0_5 : ByteArray) : Option (Int) := (some (([a0_2, a0_3, a0_4] : List Int) : List Int)).bind fun y281 => (spec_caretNumbers.l0 k y281 (y281.length : Int) 0 a0_0 a0_1 a0_2 a0_3 a0_4 a0_5)
theorem spec_caretNumbers.mono_l : ∀ k, (∀ y0 y1 y2 y3 y4 y5 y6 y7 y8, LeO (spec_caretNumbers.l0 k y0 y1 y2 y3 y4 y5 y6 y7 y8) (spec_caretNumbers.l0 (k + 1) y0 y1 y2 y3 y4 y5 y6 y7 y8))
  | 0 => fun _ _ _ _ _ _ _ _ _ r h => by simp [spec_caretNumbers.l0] at h
  | k + 1 => by
    have ih0 := spec_caretNumbers.mono_l k
    · intro y0 y1 y2 y3 y4 y5 y6 y7 y8
      unfold spec_caretNumbers.l0
      repeat' first
      | (with_reducible exact ih0 _ _ _ _ _ _ _ _ _)
      | (with_reducible exact LeO.refl _)
      | (with_reducible exact LeO.none _)
      | (with_reducible refine LeO.ite ?_ ?_)
      | (with_reducible refine LeO.bind ?_ (fun _ => ?_))
      | exact ih0 _ _ _ _ _ _ _ _ _
      | exact LeO.none _
      | refine LeO.ite ?_ ?_
      | refine LeO.bind ?_ (fun _ => ?_)
theorem spec_caretNumbers.mono : ∀ a0 a1 a2 a3 a4 a5 k, LeO (spec_caretNumbers.f k a0 a1 a2 a3 a4 a5) (spec_caretNumbers.f (k + 1) a0 a1 a2 a3 a4 a5) := by
  intro a0 a1 a2 a3 a4 a5 k
  have ih0 := spec_caretNumbers.mono_l k
  unfold spec_caretNumbers.f
  repeat' first
      | (with_reducible exact ih0 _ _ _ _ _ _ _ _ _)
      | (with_reducible exact LeO.refl _)
      | (with_reducible exact LeO.none _)
      | (with_reducible refine LeO.ite ?_ ?_)
      | (with_reducible refine LeO.bind ?_ (fun _ => ?_))
      | exact ih0 _ _ _ _ _ _ _ _ _
      | exact LeO.none _
      | refine LeO.ite ?_ ?_
      | refine LeO.bind ?_ (fun _ => ?_)
set_option maxHeartbeats 8000000 in
set_option maxRecDepth 100000 in
theorem spec_caretNumbers.calls (k : Nat) (a0_0 : Int) (a0_1 : Int) (a0_2 : Int) (a0_3 : Int) (a0_4 : Int) (a0_5 : ByteArray) (r : Int) (w : World) (h : spec_caretNumbers.f k a0_0 a0_1 a0_2 a0_3 a0_4 a0_5 = some r) :
    Calls Tryd.prog 126 #[.agg #[.int .i64 a0_0, .int .i64 a0_1, .int .u64 a0_2, .int .u64 a0_3, .int .u64 a0_4, .string a0_5]] w fun e w' => e = .returned (.int .i64 r) ∧ Below w.heap.size w w' := by
  have hu36 := Tryd.underlying36
  have HB := Aside0.mk (Below.refl w.heap.size w)
  have H : ((some (([a0_2, a0_3, a0_4] : List Int) : List Int)).bind fun y281 => (spec_caretNumbers.l0 k y281 (y281.length : Int) 0 a0_0 a0_1 a0_2 a0_3 a0_4 a0_5)) = some r := h
  clear h
  obtain ⟨y281, hy281⟩ : ∃ y_ : List Int, y_ = (([a0_2, a0_3, a0_4] : List Int)) := ⟨_, rfl⟩
  replace H : (spec_caretNumbers.l0 k y281 (y281.length : Int) 0 a0_0 a0_1 a0_2 a0_3 a0_4 a0_5) = some r := by first | (rw [hy281]; with_reducible exact H) | (have H2_ := (Option.bind_some _ _).symm.trans H; rw [hy281]; with_reducible exact H2_) | (have H2_ := (Option.bind_some _ _).symm.trans H; with_reducible exact H2_) | with_reducible exact H | (rw [hy281]; exact H) | exact H
  have Ny281 := Aside0.mk hy281
  clear hy281
  have H' := Aside0.mk H
  clear H
  go_enter Tryd.func126, Tryd.ntmps126
  go_wp2_with (first | ((with_reducible refine gate_dst (N := 1) rfl ?_); refine box_event ?hg (N := 1) ?hd (cs := #[.int .i64 a0_0, .int .i64 a0_1, .int .u64 a0_2, .int .u64 a0_3, .int .u64 a0_4, .string a0_5]) (t := 36) ?hr ?_; (case hd => rfl); (case hg => rfl); (case hr => first | (go_simp; done) | (go_simp; rfl)); intro gb280 hg w2 hbox hb; have n0_ := Aside0.mk (below_step (by repeat (first | (with_reducible first | exact HB.out | apply below_alloc | apply pw_below_drewN | apply below_drew1) | exact HB.out)) hb); have n1_ := Aside0.mk (hbox); have n2_ := Aside0.mk ((by rw [hg]; exact (below_size (by repeat (first | (with_reducible first | exact HB.out | apply below_alloc | apply pw_below_drewN | apply below_drew1) | exact HB.out))) : w.heap.size ≤ gb280)); have n3_ := Aside0.mk ((by rw [hg]; exact (below_size (by repeat (first | (with_reducible first | exact HB.out | apply below_alloc | apply pw_below_drewN | apply below_drew1) | exact HB.out))) : w.heap.size ≤ gb280)); clear HB; have HB := n0_; have BK280 := n1_; have GW280 := n2_; have GE280 := n3_; clear n0_ n1_ n2_ n3_; clear hb hbox hg; have hcz3_0 : w2.cell? ⟨gb280, 0, none⟩ = some (.int .i64 a0_0) := (blk_cell BK280.out 0).trans rfl; have hcz3_1 : w2.cell? ⟨gb280, 1, none⟩ = some (.int .i64 a0_1) := (blk_cell BK280.out 1).trans rfl; have hcz3_2 : w2.cell? ⟨gb280, 2, none⟩ = some (.int .u64 a0_2) := (blk_cell BK280.out 2).trans rfl; have hcz3_3 : w2.cell? ⟨gb280, 3, none⟩ = some (.int .u64 a0_3) := (blk_cell BK280.out 3).trans rfl; have hcz3_4 : w2.cell? ⟨gb280, 4, none⟩ = some (.int .u64 a0_4) := (blk_cell BK280.out 4).trans rfl; have hcz3_5 : w2.cell? ⟨gb280, 5, none⟩ = some (.string a0_5) := (blk_cell BK280.out 5).trans rfl; have hfz3_0 := blk_frozen BK280.out 0; have hfz3_1 := blk_frozen BK280.out 1; have hfz3_2 := blk_frozen BK280.out 2; have hfz3_3 := blk_frozen BK280.out 3; have hfz3_4 := blk_frozen BK280.out 4; have hfz3_5 := blk_frozen BK280.out 5) | ((with_reducible refine gate_dst (N := 11) rfl ?_); refine Kd.R_lit (Kd.int .u64) _ 22 ?hg (N := 11) ?hd (xs := ([a0_2, a0_3, a0_4] : List Int)) (inner := [.int .u64 a0_2, .int .u64 a0_3, .int .u64 a0_4]) (ok := fun _ => True) (okp := fun _ => True) ?hr ?hp (fun _ hk => hk) trivial (Below.refl _ _) (Nat.le_refl _) (by simp) ?_; (case hd => rfl); (case hg => rfl); (case hr => first | (go_simp; done) | (go_simp; rfl)); (case hp => exact (Reps.one (show Kd.M (Kd.int .u64) _ _ _ a0_2 [.int .u64 a0_2] from rfl) (Reps.one (show Kd.M (Kd.int .u64) _ _ _ a0_3 [.int .u64 a0_3] from rfl) (Reps.one (show Kd.M (Kd.int .u64) _ _ _ a0_4 [.int .u64 a0_4] from rfl) (Reps.none _ _))))); intro v282 w4 ho5 hb hg_ hnew_; clear hg_ hnew_; (first | rw [← Ny281.out] at ho5 | (simp only [Int.reduceToNat] at ho5; rw [← Ny281.out] at ho5)); have n0_ := Aside0.mk (Kd.R_lower ho5 (below_size (by repeat (first | (with_reducible first | exact HB.out | apply below_alloc | apply pw_below_drewN | apply below_drew1 | refine below_set ?_ GE280.out) | exact HB.out)))); have n1_ := Aside0.mk (blk_below (g := gb280) (o := .cells #[.int .i64 a0_0, .int .i64 a0_1, .int .u64 a0_2, .int .u64 a0_3, .int .u64 a0_4, .string a0_5] 36 (0, 0)) (by (with_reducible repeat (first | refine blk_drewN ?_ _ | refine blk_drew ?_ | refine blk_alloc ?_ _)); exact BK280.out) hb); have n2_ := Aside0.mk (below_step (by repeat (first | (with_reducible first | exact HB.out | apply below_alloc | apply pw_below_drewN | apply below_drew1 | refine below_set ?_ GE280.out) | exact HB.out)) hb); clear BK280; clear HB; have HO283 := n0_; have BK280 := n1_; have HB := n2_; clear n0_ n1_ n2_; clear hb ho5; obtain ⟨Ao6, co6, eo6⟩ := Kd.R_slice HO283.out; subst eo6))
  go_loopg [13] k (fun kq v13 w' => ∃ (x13_1 : Int), v13 = .int .i64 x13_1 ∧ Aside0 (spec_caretNumbers.l0 kq y281 (y281.length : Int) x13_1 a0_0 a0_1 a0_2 a0_3 a0_4 a0_5 = some r) ∧ Aside0 (kq ≤ k) ∧ Aside0 (Kd.R (Kd.int .u64) 22 w' w.heap.size (fun _ => True) (.slice Ao6 y281.length co6) y281) ∧ Aside0 (w'.heap[gb280]? = some (.cells #[.int .i64 a0_0, .int .i64 a0_1, .int .u64 a0_2, .int .u64 a0_3, .int .u64 a0_4, .string a0_5] 36 (0, 0))) ∧ Aside0 (Below w.heap.size w w'))
  case atStart => exact ⟨(0), (by first | rfl | (simp; done) | (simp [*]; done) | (simp [nil_bne]; done)), H', ⟨Nat.le_refl _⟩, ⟨by (with_reducible repeat (first | apply Kd.R_alloc | apply Kd.R_drewN | apply Kd.R_drew)); exact HO283.out⟩, ⟨by (with_reducible repeat (first | refine blk_drewN ?_ _ | refine blk_drew ?_ | refine blk_alloc ?_ _)); exact BK280.out⟩, ⟨by repeat (first | (with_reducible first | exact HB.out | apply below_alloc | apply pw_below_drewN | apply below_drew1 | refine below_set ?_ GE280.out) | exact HB.out)⟩⟩
  case round =>
    clear H'
    try clear c1
    try clear p2
    try clear hcz3_0
    try clear hcz3_1
    try clear hcz3_2
    try clear hcz3_3
    try clear hcz3_4
    try clear hcz3_5
    try clear hfz3_0
    try clear hfz3_1
    try clear hfz3_2
    try clear hfz3_3
    try clear hfz3_4
    try clear hfz3_5
    obtain ⟨x13_1, rfl, HA, HK1, HO_11, BK280, HB⟩ := hrel
    cases gk with
    | zero => exact absurd HA.out (by simp [spec_caretNumbers.l0])
    | succ k1 =>
      have H := HA.out
      clear HA
      simp only [spec_caretNumbers.l0] at H
      by_cases c7 : x13_1 < (y281.length : Int)
      · rw [if_pos c7] at H
        have c7b0 : decide (x13_1 < (y281.length : Int)) = true := decide_eq_true c7
        clear c7
        by_cases c8 : 0 ≤ x13_1
        · rw [if_pos c8] at H
          have c8b0 : decide (0 ≤ x13_1) = true := decide_eq_true c8
          clear c8
          by_cases c9 : x13_1 < (y281.length : Int)
          · rw [if_pos c9] at H
            have c9b0 : decide (x13_1 < (y281.length : Int)) = true := decide_eq_true c9
            clear c9
            by_cases c10 : (rd y281 x13_1) = 0
            · rw [if_pos c10] at H
              have c10b0 : ((rd y281 x13_1) == 0) = true := beq_iff_eq.mpr c10
              have c10b1 : ((rd y281 x13_1) != 0) = false := bne_eq_false_iff_eq.mpr c10
              clear c10
              have H' := Aside0.mk H
              clear H
              have p284 : 0 ≤ (x13_1 : Int) := of_decide_eq_true (by first | (with_reducible assumption) | assumption)
              have q284 : x13_1 < (y281.length : Int) := of_decide_eq_true (by first | (with_reducible assumption) | assumption)
              obtain ⟨ad284, e284, hx284_0⟩ := Kd.at_int (Kd.R_reads' HO_11.out).2.2 x13_1 p284 q284
              cases e284
              replace p284 := eq_true p284
              replace q284 := eq_true q284
              go_wp2
              go_roundg k1
              case measure => have := HK1.out; omega
              case rel => exact ⟨(wrap64 (x13_1 + 1)), (by first | rfl | (simp; done) | (simp [*]; done) | (simp [nil_bne]; done)), H', ⟨by have := HK1.out; omega⟩, ⟨by (with_reducible repeat (first | apply Kd.R_alloc | apply Kd.R_drewN | apply Kd.R_drew)); exact HO_11.out⟩, ⟨by (with_reducible repeat (first | refine blk_drewN ?_ _ | refine blk_drew ?_ | refine blk_alloc ?_ _)); exact BK280.out⟩, ⟨by repeat (first | (with_reducible first | exact HB.out | apply below_alloc | apply pw_below_drewN | apply below_drew1 | refine below_set ?_ GE280.out) | exact HB.out)⟩⟩
            · rw [if_neg c10] at H
              have c10b0 : ((rd y281 x13_1) == 0) = false := beq_eq_false_iff_ne.mpr c10
              have c10b1 : ((rd y281 x13_1) != 0) = true := bne_iff_ne.mpr c10
              obtain rfl := Option.some.inj H
              have p284 : 0 ≤ (x13_1 : Int) := of_decide_eq_true (by first | (with_reducible assumption) | assumption)
              have q284 : x13_1 < (y281.length : Int) := of_decide_eq_true (by first | (with_reducible assumption) | assumption)
              obtain ⟨ad284, e284, hx284_0⟩ := Kd.at_int (Kd.R_reads' HO_11.out).2.2 x13_1 p284 q284
              cases e284
              replace p284 := eq_true p284
              replace q284 := eq_true q284
              go_wp2
              go_ret
              exact ⟨by first | rfl | (simp [errW_none, errW_some] <;> rfl) | (simp [*, errW_none, errW_some] <;> rfl), by repeat (first | (with_reducible first | exact HB.out | apply below_alloc | apply pw_below_drewN | apply below_drew1 | refine below_set ?_ GE280.out) | exact HB.out)⟩
          · rw [if_neg c9] at H
            exact absurd H (by simp)
        · rw [if_neg c8] at H
          exact absurd H (by simp)
      · rw [if_neg c7] at H
        have c7b0 : decide (x13_1 < (y281.length : Int)) = false := decide_eq_false c7
        clear c7
        obtain rfl := Option.some.inj H
        have hcz11_0 : wr.cell? ⟨gb280, 0, none⟩ = some (.int .i64 a0_0) := (blk_cell BK280.out 0).trans rfl
        have hcz11_1 : wr.cell? ⟨gb280, 1, none⟩ = some (.int .i64 a0_1) := (blk_cell BK280.out 1).trans rfl
        have hcz11_2 : wr.cell? ⟨gb280, 2, none⟩ = some (.int .u64 a0_2) := (blk_cell BK280.out 2).trans rfl
        have hcz11_3 : wr.cell? ⟨gb280, 3, none⟩ = some (.int .u64 a0_3) := (blk_cell BK280.out 3).trans rfl
        have hcz11_4 : wr.cell? ⟨gb280, 4, none⟩ = some (.int .u64 a0_4) := (blk_cell BK280.out 4).trans rfl
        have hcz11_5 : wr.cell? ⟨gb280, 5, none⟩ = some (.string a0_5) := (blk_cell BK280.out 5).trans rfl
        have hfz11_0 := blk_frozen BK280.out 0
        have hfz11_1 := blk_frozen BK280.out 1
        have hfz11_2 := blk_frozen BK280.out 2
        have hfz11_3 := blk_frozen BK280.out 3
        have hfz11_4 := blk_frozen BK280.out 4
        have hfz11_5 := blk_frozen BK280.out 5
        go_wp2
        go_ret
        exact ⟨by first | rfl | (simp [errW_none, errW_some] <;> rfl) | (simp [*, errW_none, errW_some] <;> rfl), by repeat (first | (with_reducible first | exact HB.out | apply below_alloc | apply pw_below_drewN | apply below_drew1 | refine below_set ?_ GE280.out) | exact HB.out)⟩

end Go.Proofs.YtlooelfkkbgmhaaDoor.QS
