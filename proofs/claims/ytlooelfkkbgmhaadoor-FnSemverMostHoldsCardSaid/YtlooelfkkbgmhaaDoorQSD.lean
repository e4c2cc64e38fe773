-- written by a program of mine (wip/tools/myprint.py) for this claim. Not trusted: Lean checks it.
import Derived.Test.YtlooelfkkbgmhaaDoorQSA
import Derived.Test.YtlooelfkkbgmhaaDoorGivSpec
import Derived.Test.YtlooelfkkbgmhaaDoorQSB
import Derived.Test.YtlooelfkkbgmhaaDoorQspecCompares
namespace Go.Proofs.YtlooelfkkbgmhaaDoor.QS
open Go.RowKit Go.Proofs.YtlooelfkkbgmhaaDoorW.PrintWords Go.Proofs.YtlooelfkkbgmhaaDoorW.PrintLast
set_option linter.unusedVariables false
set_option linter.unusedSimpArgs false

/-! ### laws_snAs: function 82 -/
def laws_snAs.f (a0_0 : Int) (a0_1 : Int) (a0_2 : Int) (a0_3 : Int) (a0_4 : Int) (a0_5 : ByteArray) (a1 : Int) : Option (Int × Int × Int × Int × Int × ByteArray) := some (a1, a0_1, a0_2, a0_3, a0_4, a0_5)
set_option maxHeartbeats 8000000 in
set_option maxRecDepth 100000 in
theorem laws_snAs.calls (a0_0 : Int) (a0_1 : Int) (a0_2 : Int) (a0_3 : Int) (a0_4 : Int) (a0_5 : ByteArray) (a1 : Int) (r1 : Int) (r2 : Int) (r3 : Int) (r4 : Int) (r5 : Int) (r6 : ByteArray) (w : World) (h : laws_snAs.f a0_0 a0_1 a0_2 a0_3 a0_4 a0_5 a1 = some (r1, r2, r3, r4, r5, r6)) :
    Calls Tryd.prog 82 #[.agg #[.int .i64 a0_0, .int .i64 a0_1, .int .u64 a0_2, .int .u64 a0_3, .int .u64 a0_4, .string a0_5], .int .i64 a1] w fun e w' => e = .returned (.agg #[.int .i64 r1, .int .i64 r2, .int .u64 r3, .int .u64 r4, .int .u64 r5, .string r6]) ∧ Below w.heap.size w w' := by
  have hu36 := Tryd.underlying36
  have HB := Aside0.mk (Below.refl w.heap.size w)
  have H : (some (a1, a0_1, a0_2, a0_3, a0_4, a0_5)) = some (r1, r2, r3, r4, r5, r6) := h
  clear h
  simp only [Option.some.injEq, Prod.mk.injEq] at H
  obtain ⟨rfl, rfl, rfl, rfl, rfl, rfl⟩ := H
  go_enter Tryd.func82, Tryd.ntmps82
  go_wp2_with (first | ((with_reducible refine gate_dst (N := 2) rfl ?_); refine box_event ?hg (N := 2) ?hd (cs := #[.int .i64 a0_0, .int .i64 a0_1, .int .u64 a0_2, .int .u64 a0_3, .int .u64 a0_4, .string a0_5]) (t := 36) ?hr ?_; (case hd => rfl); (case hg => rfl); (case hr => first | (go_simp; done) | (go_simp; rfl)); intro gb243 hg w3 hbox hb; have n0_ := Aside0.mk (below_step (by repeat (first | (with_reducible first | exact HB.out | apply below_alloc | apply pw_below_drewN | apply below_drew1) | exact HB.out)) hb); have n1_ := Aside0.mk (hbox); have n2_ := Aside0.mk ((by rw [hg]; exact (below_size (by repeat (first | (with_reducible first | exact HB.out | apply below_alloc | apply pw_below_drewN | apply below_drew1) | exact HB.out))) : w.heap.size ≤ gb243)); have n3_ := Aside0.mk ((by rw [hg]; exact (below_size (by repeat (first | (with_reducible first | exact HB.out | apply below_alloc | apply pw_below_drewN | apply below_drew1) | exact HB.out))) : w.heap.size ≤ gb243)); clear HB; have HB := n0_; have BK243 := n1_; have GW243 := n2_; have GE243 := n3_; clear n0_ n1_ n2_ n3_; clear hb hbox hg) | ((with_reducible refine gate_dst (N := 4) rfl ?_); refine box_event ?hg (N := 4) ?hd (cs := #[.int .i64 0, .int .i64 0, .int .u64 0, .int .u64 0, .int .u64 0, .string (⟨#[]⟩ : ByteArray)]) (t := 36) ?hr ?_; (case hd => rfl); (case hg => rfl); (case hr => first | (go_simp; done) | (go_simp; rfl)); intro gb244 hg w4 hbox hb; have n0_ := Aside0.mk (blk_below (g := gb243) (o := .cells #[.int .i64 a0_0, .int .i64 a0_1, .int .u64 a0_2, .int .u64 a0_3, .int .u64 a0_4, .string a0_5] 36 (0, 0)) (by (with_reducible repeat (first | refine blk_drewN ?_ _ | refine blk_drew ?_ | refine blk_alloc ?_ _)); exact BK243.out) hb); have n1_ := Aside0.mk (below_step (by repeat (first | (with_reducible first | exact HB.out | apply below_alloc | apply pw_below_drewN | apply below_drew1 | refine below_set ?_ GE243.out) | exact HB.out)) hb); have n2_ := Aside0.mk (hbox); have n3_ := Aside0.mk ((by rw [hg]; exact (below_size (by repeat (first | (with_reducible first | exact HB.out | apply below_alloc | apply pw_below_drewN | apply below_drew1 | refine below_set ?_ GE243.out) | exact HB.out))) : w.heap.size ≤ gb244)); have n4_ := Aside0.mk ((by rw [hg]; exact (below_size (by repeat (first | (with_reducible first | exact HB.out | apply below_alloc | apply pw_below_drewN | apply below_drew1 | refine below_set ?_ GE243.out) | exact HB.out))) : w.heap.size ≤ gb244)); have n5_ := Aside0.mk ((by rw [hg]; exact Nat.ne_of_lt (blk_lt (g := gb243) (o := .cells #[.int .i64 a0_0, .int .i64 a0_1, .int .u64 a0_2, .int .u64 a0_3, .int .u64 a0_4, .string a0_5] 36 (0, 0)) (by (with_reducible repeat (first | refine blk_drewN ?_ _ | refine blk_drew ?_ | refine blk_alloc ?_ _)); exact BK243.out)) : gb243 ≠ gb244)); have n6_ := Aside0.mk ((by rw [hg]; exact Nat.ne_of_gt (blk_lt (g := gb243) (o := .cells #[.int .i64 a0_0, .int .i64 a0_1, .int .u64 a0_2, .int .u64 a0_3, .int .u64 a0_4, .string a0_5] 36 (0, 0)) (by (with_reducible repeat (first | refine blk_drewN ?_ _ | refine blk_drew ?_ | refine blk_alloc ?_ _)); exact BK243.out)) : gb244 ≠ gb243)); clear BK243; clear HB; have BK243 := n0_; have HB := n1_; have BK244 := n2_; have GW244 := n3_; have GE244 := n4_; have NB243_244 := n5_; have NB244_243 := n6_; clear n0_ n1_ n2_ n3_ n4_ n5_ n6_; clear hb hbox hg; have hnb5 := NB243_244.out; have hnc5 := NB244_243.out; have hcz6_0 : w4.cell? ⟨gb243, 0, none⟩ = some (.int .i64 a0_0) := (blk_cell BK243.out 0).trans rfl; have hcz6_1 : w4.cell? ⟨gb243, 1, none⟩ = some (.int .i64 a0_1) := (blk_cell BK243.out 1).trans rfl; have hcz6_2 : w4.cell? ⟨gb243, 2, none⟩ = some (.int .u64 a0_2) := (blk_cell BK243.out 2).trans rfl; have hcz6_3 : w4.cell? ⟨gb243, 3, none⟩ = some (.int .u64 a0_3) := (blk_cell BK243.out 3).trans rfl; have hcz6_4 : w4.cell? ⟨gb243, 4, none⟩ = some (.int .u64 a0_4) := (blk_cell BK243.out 4).trans rfl; have hcz6_5 : w4.cell? ⟨gb243, 5, none⟩ = some (.string a0_5) := (blk_cell BK243.out 5).trans rfl; have hfz6_0 := blk_frozen BK243.out 0; have hfz6_1 := blk_frozen BK243.out 1; have hfz6_2 := blk_frozen BK243.out 2; have hfz6_3 := blk_frozen BK243.out 3; have hfz6_4 := blk_frozen BK243.out 4; have hfz6_5 := blk_frozen BK243.out 5; have hcz7_0 : w4.cell? ⟨gb244, 0, none⟩ = some (.int .i64 0) := (blk_cell BK244.out 0).trans rfl; have hcz7_1 : w4.cell? ⟨gb244, 1, none⟩ = some (.int .i64 0) := (blk_cell BK244.out 1).trans rfl; have hcz7_2 : w4.cell? ⟨gb244, 2, none⟩ = some (.int .u64 0) := (blk_cell BK244.out 2).trans rfl; have hcz7_3 : w4.cell? ⟨gb244, 3, none⟩ = some (.int .u64 0) := (blk_cell BK244.out 3).trans rfl; have hcz7_4 : w4.cell? ⟨gb244, 4, none⟩ = some (.int .u64 0) := (blk_cell BK244.out 4).trans rfl; have hcz7_5 : w4.cell? ⟨gb244, 5, none⟩ = some (.string (⟨#[]⟩ : ByteArray)) := (blk_cell BK244.out 5).trans rfl; have hfz7_0 := blk_frozen BK244.out 0; have hfz7_1 := blk_frozen BK244.out 1; have hfz7_2 := blk_frozen BK244.out 2; have hfz7_3 := blk_frozen BK244.out 3; have hfz7_4 := blk_frozen BK244.out 4; have hfz7_5 := blk_frozen BK244.out 5))
  refine bodyPost_ret (results_cell_row rfl _ _ gb244 36 #[.int .i64 a1, .int .i64 a0_1, .int .u64 a0_2, .int .u64 a0_3, .int .u64 a0_4, .string a0_5] (0, 0) _ rfl (by (with_reducible repeat (first | refine blk_drewN ?_ _ | refine blk_drew ?_ | refine blk_alloc ?_ _)); refine blk_put (cs := #[.int .i64 a1, .int .i64 a0_1, .int .u64 a0_2, .int .u64 a0_3, .int .u64 a0_4, .string (⟨#[]⟩ : ByteArray)]) ?_ 5 _ rfl; (with_reducible repeat (first | refine blk_drewN ?_ _ | refine blk_drew ?_ | refine blk_alloc ?_ _)); refine blk_put (cs := #[.int .i64 a1, .int .i64 a0_1, .int .u64 a0_2, .int .u64 a0_3, .int .u64 0, .string (⟨#[]⟩ : ByteArray)]) ?_ 4 _ rfl; (with_reducible repeat (first | refine blk_drewN ?_ _ | refine blk_drew ?_ | refine blk_alloc ?_ _)); refine blk_put (cs := #[.int .i64 a1, .int .i64 a0_1, .int .u64 a0_2, .int .u64 0, .int .u64 0, .string (⟨#[]⟩ : ByteArray)]) ?_ 3 _ rfl; (with_reducible repeat (first | refine blk_drewN ?_ _ | refine blk_drew ?_ | refine blk_alloc ?_ _)); refine blk_put (cs := #[.int .i64 a1, .int .i64 a0_1, .int .u64 0, .int .u64 0, .int .u64 0, .string (⟨#[]⟩ : ByteArray)]) ?_ 2 _ rfl; (with_reducible repeat (first | refine blk_drewN ?_ _ | refine blk_drew ?_ | refine blk_alloc ?_ _)); refine blk_put (cs := #[.int .i64 a1, .int .i64 0, .int .u64 0, .int .u64 0, .int .u64 0, .string (⟨#[]⟩ : ByteArray)]) ?_ 1 _ rfl; (with_reducible repeat (first | refine blk_drewN ?_ _ | refine blk_drew ?_ | refine blk_alloc ?_ _)); refine blk_put (cs := #[.int .i64 0, .int .i64 0, .int .u64 0, .int .u64 0, .int .u64 0, .string (⟨#[]⟩ : ByteArray)]) ?_ 0 _ rfl; (with_reducible repeat (first | refine blk_drewN ?_ _ | refine blk_drew ?_ | refine blk_alloc ?_ _)); refine blk_far ?_ NB244_243.out _; (with_reducible repeat (first | refine blk_drewN ?_ _ | refine blk_drew ?_ | refine blk_alloc ?_ _)); exact BK244.out) Tryd.underlying36 rfl (by kernel_rfl)) rfl ?_
  exact ⟨by first | rfl | (simp [errW_none, errW_some] <;> rfl) | (simp [*, errW_none, errW_some] <;> rfl), by repeat (first | (with_reducible first | exact HB.out | apply below_alloc | apply pw_below_drewN | apply below_drew1 | refine below_set ?_ GE243.out | refine below_set ?_ GE244.out) | exact HB.out)⟩

-- GIVEN: function 94 (spec_CompareNumbers)

end Go.Proofs.YtlooelfkkbgmhaaDoor.QS

namespace Go.Proofs.YtlooelfkkbgmhaaDoor.QS
open Go.RowKit Go.Proofs.YtlooelfkkbgmhaaDoorW.PrintWords Go.Proofs.YtlooelfkkbgmhaaDoorW.PrintLast
set_option linter.unusedVariables false
set_option linter.unusedSimpArgs false

/-! ### spec_Spoken: function 83 -/
def spec_Spoken.j0 : Nat → Int → Int → Int → Int → Int → ByteArray → Int → Int → Int → ByteArray → ByteArray → Int → Int → Int → ByteArray → ByteArray → Option (Bool)
  | 0, _, _, _, _, _, _, _, _, _, _, _, _, _, _, _, _ => none
  | k + 1, x246000, x246001, x246002, x246003, x246004, x246005, x247000, x247001, x247002, x247003, x247004, x248000, x248001, x248002, x248003, x248004 => if x246001 = 3 then (some true) else (if x246000 = 5 then ((spec_CompareNumbers.f x247000 x247001 x247002 x247003 x247004 x248000 x248001 x248002 x248003 x248004 3).bind fun t248 => (some (t248 != 0))) else (if x246000 = 1 then (some (x247003.toList == ([] : List UInt8))) else (some true)))
def spec_Spoken.f (k : Nat) (a0_0 : Int) (a0_1 : Int) (a0_2 : Int) (a0_3 : Int) (a0_4 : Int) (a0_5 : ByteArray) (a1_0 : Int) (a1_1 : Int) (a1_2 : Int) (a1_3 : ByteArray) (a1_4 : ByteArray) : Option (Bool) := if a0_1 = 2 then (spec_Spoken.j0 k a0_0 a0_1 a0_2 a0_3 a0_4 a0_5 a1_0 a1_1 a1_2 a1_3 a1_4 a0_2 (IntKind.u64.wrap (a0_3 + 1)) 0 (⟨#[]⟩ : ByteArray) (⟨#[]⟩ : ByteArray)) else (spec_Spoken.j0 k a0_0 a0_1 a0_2 a0_3 a0_4 a0_5 a1_0 a1_1 a1_2 a1_3 a1_4 (IntKind.u64.wrap (a0_2 + 1)) 0 0 (⟨#[]⟩ : ByteArray) (⟨#[]⟩ : ByteArray))
theorem spec_Spoken.mono_l : ∀ k, (∀ y0 y1 y2 y3 y4 y5 y6 y7 y8 y9 y10 y11 y12 y13 y14 y15, LeO (spec_Spoken.j0 k y0 y1 y2 y3 y4 y5 y6 y7 y8 y9 y10 y11 y12 y13 y14 y15) (spec_Spoken.j0 (k + 1) y0 y1 y2 y3 y4 y5 y6 y7 y8 y9 y10 y11 y12 y13 y14 y15))
  | 0 => fun _ _ _ _ _ _ _ _ _ _ _ _ _ _ _ _ r h => by simp [spec_Spoken.j0] at h
  | k + 1 => by
    have ih0 := spec_Spoken.mono_l k
    · intro y0 y1 y2 y3 y4 y5 y6 y7 y8 y9 y10 y11 y12 y13 y14 y15
      unfold spec_Spoken.j0
      repeat' first
      | (with_reducible exact ih0 _ _ _ _ _ _ _ _ _ _ _ _ _ _ _ _)
      | (with_reducible exact LeO.refl _)
      | (with_reducible exact LeO.none _)
      | (with_reducible refine LeO.ite ?_ ?_)
      | (with_reducible refine LeO.bind ?_ (fun _ => ?_))
      | exact ih0 _ _ _ _ _ _ _ _ _ _ _ _ _ _ _ _
      | exact LeO.none _
      | refine LeO.ite ?_ ?_
      | refine LeO.bind ?_ (fun _ => ?_)
theorem spec_Spoken.mono : ∀ a0 a1 a2 a3 a4 a5 a6 a7 a8 a9 a10 k, LeO (spec_Spoken.f k a0 a1 a2 a3 a4 a5 a6 a7 a8 a9 a10) (spec_Spoken.f (k + 1) a0 a1 a2 a3 a4 a5 a6 a7 a8 a9 a10) := by
  intro a0 a1 a2 a3 a4 a5 a6 a7 a8 a9 a10 k
  have ih0 := spec_Spoken.mono_l k
  unfold spec_Spoken.f
  repeat' first
      | (with_reducible exact ih0 _ _ _ _ _ _ _ _ _ _ _ _ _ _ _ _)
      | (with_reducible exact LeO.refl _)
      | (with_reducible exact LeO.none _)
      | (with_reducible refine LeO.ite ?_ ?_)
      | (with_reducible refine LeO.bind ?_ (fun _ => ?_))
      | exact ih0 _ _ _ _ _ _ _ _ _ _ _ _ _ _ _ _
      | exact LeO.none _
      | refine LeO.ite ?_ ?_
      | refine LeO.bind ?_ (fun _ => ?_)
set_option maxHeartbeats 8000000 in
set_option maxRecDepth 100000 in
theorem spec_Spoken.calls (k : Nat) (a0_0 : Int) (a0_1 : Int) (a0_2 : Int) (a0_3 : Int) (a0_4 : Int) (a0_5 : ByteArray) (a1_0 : Int) (a1_1 : Int) (a1_2 : Int) (a1_3 : ByteArray) (a1_4 : ByteArray) (r : Bool) (w : World) (h : spec_Spoken.f k a0_0 a0_1 a0_2 a0_3 a0_4 a0_5 a1_0 a1_1 a1_2 a1_3 a1_4 = some r) :
    Calls Tryd.prog 83 #[.agg #[.int .i64 a0_0, .int .i64 a0_1, .int .u64 a0_2, .int .u64 a0_3, .int .u64 a0_4, .string a0_5], .agg #[.int .u64 a1_0, .int .u64 a1_1, .int .u64 a1_2, .string a1_3, .string a1_4]] w fun e w' => e = .returned (.bool r) ∧ Below w.heap.size w w' := by
  have hu36 := Tryd.underlying36
  have hu24 := Tryd.underlying24
  have HB := Aside0.mk (Below.refl w.heap.size w)
  have H : (if a0_1 = 2 then (spec_Spoken.j0 k a0_0 a0_1 a0_2 a0_3 a0_4 a0_5 a1_0 a1_1 a1_2 a1_3 a1_4 a0_2 (IntKind.u64.wrap (a0_3 + 1)) 0 (⟨#[]⟩ : ByteArray) (⟨#[]⟩ : ByteArray)) else (spec_Spoken.j0 k a0_0 a0_1 a0_2 a0_3 a0_4 a0_5 a1_0 a1_1 a1_2 a1_3 a1_4 (IntKind.u64.wrap (a0_2 + 1)) 0 0 (⟨#[]⟩ : ByteArray) (⟨#[]⟩ : ByteArray))) = some r := h
  clear h
  have HC3 := Aside0.mk H
  clear H
  go_enter Tryd.func83, Tryd.ntmps83
  go_upto_if 12 with (first | ((with_reducible refine gate_dst (N := 2) rfl ?_); refine box_event ?hg (N := 2) ?hd (cs := #[.int .i64 a0_0, .int .i64 a0_1, .int .u64 a0_2, .int .u64 a0_3, .int .u64 a0_4, .string a0_5]) (t := 36) ?hr ?_; (case hd => rfl); (case hg => rfl); (case hr => first | (go_simp; done) | (go_simp; rfl)); intro gb245 hg w4 hbox hb; have n0_ := Aside0.mk (below_step (by repeat (first | (with_reducible first | exact HB.out | apply below_alloc | apply pw_below_drewN | apply below_drew1) | exact HB.out)) hb); have n1_ := Aside0.mk (hbox); have n2_ := Aside0.mk ((by rw [hg]; exact (below_size (by repeat (first | (with_reducible first | exact HB.out | apply below_alloc | apply pw_below_drewN | apply below_drew1) | exact HB.out))) : w.heap.size ≤ gb245)); have n3_ := Aside0.mk ((by rw [hg]; exact (below_size (by repeat (first | (with_reducible first | exact HB.out | apply below_alloc | apply pw_below_drewN | apply below_drew1) | exact HB.out))) : w.heap.size ≤ gb245)); clear HB; have HB := n0_; have BK245 := n1_; have GW245 := n2_; have GE245 := n3_; clear n0_ n1_ n2_ n3_; clear hb hbox hg) | ((with_reducible refine gate_dst (N := 3) rfl ?_); refine box_event ?hg (N := 3) ?hd (cs := #[.int .u64 a1_0, .int .u64 a1_1, .int .u64 a1_2, .string a1_3, .string a1_4]) (t := 24) ?hr ?_; (case hd => rfl); (case hg => rfl); (case hr => first | (go_simp; done) | (go_simp; rfl)); intro gb246 hg w5 hbox hb; have n0_ := Aside0.mk (blk_below (g := gb245) (o := .cells #[.int .i64 a0_0, .int .i64 a0_1, .int .u64 a0_2, .int .u64 a0_3, .int .u64 a0_4, .string a0_5] 36 (0, 0)) (by (with_reducible repeat (first | refine blk_drewN ?_ _ | refine blk_drew ?_ | refine blk_alloc ?_ _)); exact BK245.out) hb); have n1_ := Aside0.mk (below_step (by repeat (first | (with_reducible first | exact HB.out | apply below_alloc | apply pw_below_drewN | apply below_drew1 | refine below_set ?_ GE245.out) | exact HB.out)) hb); have n2_ := Aside0.mk (hbox); have n3_ := Aside0.mk ((by rw [hg]; exact (below_size (by repeat (first | (with_reducible first | exact HB.out | apply below_alloc | apply pw_below_drewN | apply below_drew1 | refine below_set ?_ GE245.out) | exact HB.out))) : w.heap.size ≤ gb246)); have n4_ := Aside0.mk ((by rw [hg]; exact (below_size (by repeat (first | (with_reducible first | exact HB.out | apply below_alloc | apply pw_below_drewN | apply below_drew1 | refine below_set ?_ GE245.out) | exact HB.out))) : w.heap.size ≤ gb246)); have n5_ := Aside0.mk ((by rw [hg]; exact Nat.ne_of_lt (blk_lt (g := gb245) (o := .cells #[.int .i64 a0_0, .int .i64 a0_1, .int .u64 a0_2, .int .u64 a0_3, .int .u64 a0_4, .string a0_5] 36 (0, 0)) (by (with_reducible repeat (first | refine blk_drewN ?_ _ | refine blk_drew ?_ | refine blk_alloc ?_ _)); exact BK245.out)) : gb245 ≠ gb246)); have n6_ := Aside0.mk ((by rw [hg]; exact Nat.ne_of_gt (blk_lt (g := gb245) (o := .cells #[.int .i64 a0_0, .int .i64 a0_1, .int .u64 a0_2, .int .u64 a0_3, .int .u64 a0_4, .string a0_5] 36 (0, 0)) (by (with_reducible repeat (first | refine blk_drewN ?_ _ | refine blk_drew ?_ | refine blk_alloc ?_ _)); exact BK245.out)) : gb246 ≠ gb245)); clear BK245; clear HB; have BK245 := n0_; have HB := n1_; have BK246 := n2_; have GW246 := n3_; have GE246 := n4_; have NB245_246 := n5_; have NB246_245 := n6_; clear n0_ n1_ n2_ n3_ n4_ n5_ n6_; clear hb hbox hg; have hnb6 := NB245_246.out; have hnc6 := NB246_245.out; have hcz7_0 : w5.cell? ⟨gb245, 0, none⟩ = some (.int .i64 a0_0) := (blk_cell BK245.out 0).trans rfl; have hcz7_1 : w5.cell? ⟨gb245, 1, none⟩ = some (.int .i64 a0_1) := (blk_cell BK245.out 1).trans rfl; have hcz7_2 : w5.cell? ⟨gb245, 2, none⟩ = some (.int .u64 a0_2) := (blk_cell BK245.out 2).trans rfl; have hcz7_3 : w5.cell? ⟨gb245, 3, none⟩ = some (.int .u64 a0_3) := (blk_cell BK245.out 3).trans rfl; have hcz7_4 : w5.cell? ⟨gb245, 4, none⟩ = some (.int .u64 a0_4) := (blk_cell BK245.out 4).trans rfl; have hcz7_5 : w5.cell? ⟨gb245, 5, none⟩ = some (.string a0_5) := (blk_cell BK245.out 5).trans rfl; have hfz7_0 := blk_frozen BK245.out 0; have hfz7_1 := blk_frozen BK245.out 1; have hfz7_2 := blk_frozen BK245.out 2; have hfz7_3 := blk_frozen BK245.out 3; have hfz7_4 := blk_frozen BK245.out 4; have hfz7_5 := blk_frozen BK245.out 5) | ((with_reducible refine gate_dst (N := 5) rfl ?_); refine box_event ?hg (N := 5) ?hd (cs := #[.int .u64 0, .int .u64 0, .int .u64 0, .string (⟨#[]⟩ : ByteArray), .string (⟨#[]⟩ : ByteArray)]) (t := 24) ?hr ?_; (case hd => rfl); (case hg => rfl); (case hr => first | (go_simp; done) | (go_simp; rfl)); intro gb247 hg w8 hbox hb; have n0_ := Aside0.mk (blk_below (g := gb245) (o := .cells #[.int .i64 a0_0, .int .i64 a0_1, .int .u64 a0_2, .int .u64 a0_3, .int .u64 a0_4, .string a0_5] 36 (0, 0)) (by (with_reducible repeat (first | refine blk_drewN ?_ _ | refine blk_drew ?_ | refine blk_alloc ?_ _)); exact BK245.out) hb); have n1_ := Aside0.mk (blk_below (g := gb246) (o := .cells #[.int .u64 a1_0, .int .u64 a1_1, .int .u64 a1_2, .string a1_3, .string a1_4] 24 (0, 0)) (by (with_reducible repeat (first | refine blk_drewN ?_ _ | refine blk_drew ?_ | refine blk_alloc ?_ _)); exact BK246.out) hb); have n2_ := Aside0.mk (below_step (by repeat (first | (with_reducible first | exact HB.out | apply below_alloc | apply pw_below_drewN | apply below_drew1 | refine below_set ?_ GE245.out | refine below_set ?_ GE246.out) | exact HB.out)) hb); have n3_ := Aside0.mk (hbox); have n4_ := Aside0.mk ((by rw [hg]; exact (below_size (by repeat (first | (with_reducible first | exact HB.out | apply below_alloc | apply pw_below_drewN | apply below_drew1 | refine below_set ?_ GE245.out | refine below_set ?_ GE246.out) | exact HB.out))) : w.heap.size ≤ gb247)); have n5_ := Aside0.mk ((by rw [hg]; exact (below_size (by repeat (first | (with_reducible first | exact HB.out | apply below_alloc | apply pw_below_drewN | apply below_drew1 | refine below_set ?_ GE245.out | refine below_set ?_ GE246.out) | exact HB.out))) : w.heap.size ≤ gb247)); have n6_ := Aside0.mk ((by rw [hg]; exact Nat.ne_of_lt (blk_lt (g := gb245) (o := .cells #[.int .i64 a0_0, .int .i64 a0_1, .int .u64 a0_2, .int .u64 a0_3, .int .u64 a0_4, .string a0_5] 36 (0, 0)) (by (with_reducible repeat (first | refine blk_drewN ?_ _ | refine blk_drew ?_ | refine blk_alloc ?_ _)); exact BK245.out)) : gb245 ≠ gb247)); have n7_ := Aside0.mk ((by rw [hg]; exact Nat.ne_of_gt (blk_lt (g := gb245) (o := .cells #[.int .i64 a0_0, .int .i64 a0_1, .int .u64 a0_2, .int .u64 a0_3, .int .u64 a0_4, .string a0_5] 36 (0, 0)) (by (with_reducible repeat (first | refine blk_drewN ?_ _ | refine blk_drew ?_ | refine blk_alloc ?_ _)); exact BK245.out)) : gb247 ≠ gb245)); have n8_ := Aside0.mk ((by rw [hg]; exact Nat.ne_of_lt (blk_lt (g := gb246) (o := .cells #[.int .u64 a1_0, .int .u64 a1_1, .int .u64 a1_2, .string a1_3, .string a1_4] 24 (0, 0)) (by (with_reducible repeat (first | refine blk_drewN ?_ _ | refine blk_drew ?_ | refine blk_alloc ?_ _)); exact BK246.out)) : gb246 ≠ gb247)); have n9_ := Aside0.mk ((by rw [hg]; exact Nat.ne_of_gt (blk_lt (g := gb246) (o := .cells #[.int .u64 a1_0, .int .u64 a1_1, .int .u64 a1_2, .string a1_3, .string a1_4] 24 (0, 0)) (by (with_reducible repeat (first | refine blk_drewN ?_ _ | refine blk_drew ?_ | refine blk_alloc ?_ _)); exact BK246.out)) : gb247 ≠ gb246)); clear BK245; clear BK246; clear HB; have BK245 := n0_; have BK246 := n1_; have HB := n2_; have BK247 := n3_; have GW247 := n4_; have GE247 := n5_; have NB245_247 := n6_; have NB247_245 := n7_; have NB246_247 := n8_; have NB247_246 := n9_; clear n0_ n1_ n2_ n3_ n4_ n5_ n6_ n7_ n8_ n9_; clear hb hbox hg; have hnb9 := NB247_245.out; have hnc9 := NB245_247.out; have hnb10 := NB247_246.out; have hnc10 := NB246_247.out; have hcz11_0 : w8.cell? ⟨gb247, 0, none⟩ = some (.int .u64 0) := (blk_cell BK247.out 0).trans rfl; have hcz11_1 : w8.cell? ⟨gb247, 1, none⟩ = some (.int .u64 0) := (blk_cell BK247.out 1).trans rfl; have hcz11_2 : w8.cell? ⟨gb247, 2, none⟩ = some (.int .u64 0) := (blk_cell BK247.out 2).trans rfl; have hcz11_3 : w8.cell? ⟨gb247, 3, none⟩ = some (.string (⟨#[]⟩ : ByteArray)) := (blk_cell BK247.out 3).trans rfl; have hcz11_4 : w8.cell? ⟨gb247, 4, none⟩ = some (.string (⟨#[]⟩ : ByteArray)) := (blk_cell BK247.out 4).trans rfl; have hfz11_0 := blk_frozen BK247.out 0; have hfz11_1 := blk_frozen BK247.out 1; have hfz11_2 := blk_frozen BK247.out 2; have hfz11_3 := blk_frozen BK247.out 3; have hfz11_4 := blk_frozen BK247.out 4; have hcz12_0 : w8.cell? ⟨gb245, 0, none⟩ = some (.int .i64 a0_0) := (blk_cell BK245.out 0).trans rfl; have hcz12_1 : w8.cell? ⟨gb245, 1, none⟩ = some (.int .i64 a0_1) := (blk_cell BK245.out 1).trans rfl; have hcz12_2 : w8.cell? ⟨gb245, 2, none⟩ = some (.int .u64 a0_2) := (blk_cell BK245.out 2).trans rfl; have hcz12_3 : w8.cell? ⟨gb245, 3, none⟩ = some (.int .u64 a0_3) := (blk_cell BK245.out 3).trans rfl; have hcz12_4 : w8.cell? ⟨gb245, 4, none⟩ = some (.int .u64 a0_4) := (blk_cell BK245.out 4).trans rfl; have hcz12_5 : w8.cell? ⟨gb245, 5, none⟩ = some (.string a0_5) := (blk_cell BK245.out 5).trans rfl; have hfz12_0 := blk_frozen BK245.out 0; have hfz12_1 := blk_frozen BK245.out 1; have hfz12_2 := blk_frozen BK245.out 2; have hfz12_3 := blk_frozen BK245.out 3; have hfz12_4 := blk_frozen BK245.out 4; have hfz12_5 := blk_frozen BK245.out 5))
  (try simp only [Act.put, List.setIfInBounds_toArray, List.set_cons_zero, List.set_cons_succ])
  go_cut [] (fun wc => ∃ (kq : Nat) (x248000_2 : Int) (x248001_2 : Int) (x248002_2 : Int) (x248003_2 : ByteArray) (x248004_2 : ByteArray), Aside0 (spec_Spoken.j0 kq a0_0 a0_1 a0_2 a0_3 a0_4 a0_5 a1_0 a1_1 a1_2 a1_3 a1_4 x248000_2 x248001_2 x248002_2 x248003_2 x248004_2 = some r) ∧ Aside0 (kq ≤ k) ∧ Aside0 (wc.heap[gb245]? = some (.cells #[.int .i64 a0_0, .int .i64 a0_1, .int .u64 a0_2, .int .u64 a0_3, .int .u64 a0_4, .string a0_5] 36 (0, 0))) ∧ Aside0 (wc.heap[gb246]? = some (.cells #[.int .u64 a1_0, .int .u64 a1_1, .int .u64 a1_2, .string a1_3, .string a1_4] 24 (0, 0))) ∧ Aside0 (wc.heap[gb247]? = some (.cells #[.int .u64 x248000_2, .int .u64 x248001_2, .int .u64 x248002_2, .string x248003_2, .string x248004_2] 24 (0, 0))) ∧ Aside0 (Below w.heap.size w wc))
  case first =>
    have H := HC3.out
    clear HC3
    by_cases c13 : a0_1 = 2
    · rw [if_pos c13] at H
      have c13b0 : (a0_1 == 2) = true := beq_iff_eq.mpr c13
      have c13b1 : (a0_1 != 2) = false := bne_eq_false_iff_eq.mpr c13
      clear c13
      (first | rw [c13b0] | (simp only [i64_w, i32_w]; rw [c13b0]) | rw [c13b1] | skip)
      have H' := Aside0.mk H
      clear H
      have hnb14 := NB245_246.out
      have hnc14 := NB246_245.out
      have hnb15 := NB245_247.out
      have hnc15 := NB247_245.out
      have hcz16_0 : w8.cell? ⟨gb245, 0, none⟩ = some (.int .i64 a0_0) := (blk_cell BK245.out 0).trans rfl
      have hcz16_1 : w8.cell? ⟨gb245, 1, none⟩ = some (.int .i64 a0_1) := (blk_cell BK245.out 1).trans rfl
      have hcz16_2 : w8.cell? ⟨gb245, 2, none⟩ = some (.int .u64 a0_2) := (blk_cell BK245.out 2).trans rfl
      have hcz16_3 : w8.cell? ⟨gb245, 3, none⟩ = some (.int .u64 a0_3) := (blk_cell BK245.out 3).trans rfl
      have hcz16_4 : w8.cell? ⟨gb245, 4, none⟩ = some (.int .u64 a0_4) := (blk_cell BK245.out 4).trans rfl
      have hcz16_5 : w8.cell? ⟨gb245, 5, none⟩ = some (.string a0_5) := (blk_cell BK245.out 5).trans rfl
      have hfz16_0 := blk_frozen BK245.out 0
      have hfz16_1 := blk_frozen BK245.out 1
      have hfz16_2 := blk_frozen BK245.out 2
      have hfz16_3 := blk_frozen BK245.out 3
      have hfz16_4 := blk_frozen BK245.out 4
      have hfz16_5 := blk_frozen BK245.out 5
      have hnb17 := NB247_246.out
      have hnc17 := NB246_247.out
      have hcz18_0 : w8.cell? ⟨gb247, 0, none⟩ = some (.int .u64 0) := (blk_cell BK247.out 0).trans rfl
      have hcz18_1 : w8.cell? ⟨gb247, 1, none⟩ = some (.int .u64 0) := (blk_cell BK247.out 1).trans rfl
      have hcz18_2 : w8.cell? ⟨gb247, 2, none⟩ = some (.int .u64 0) := (blk_cell BK247.out 2).trans rfl
      have hcz18_3 : w8.cell? ⟨gb247, 3, none⟩ = some (.string (⟨#[]⟩ : ByteArray)) := (blk_cell BK247.out 3).trans rfl
      have hcz18_4 : w8.cell? ⟨gb247, 4, none⟩ = some (.string (⟨#[]⟩ : ByteArray)) := (blk_cell BK247.out 4).trans rfl
      have hfz18_0 := blk_frozen BK247.out 0
      have hfz18_1 := blk_frozen BK247.out 1
      have hfz18_2 := blk_frozen BK247.out 2
      have hfz18_3 := blk_frozen BK247.out 3
      have hfz18_4 := blk_frozen BK247.out 4
      go_wp2
      go_meet
      case rel => exact ⟨_, (a0_2), (IntKind.u64.wrap (a0_3 + 1)), (0), ((⟨#[]⟩ : ByteArray)), ((⟨#[]⟩ : ByteArray)), H', ⟨by first | omega | exact Nat.le_refl _⟩, ⟨by (with_reducible repeat (first | refine blk_drewN ?_ _ | refine blk_drew ?_ | refine blk_alloc ?_ _)); refine blk_far ?_ NB245_247.out _; (with_reducible repeat (first | refine blk_drewN ?_ _ | refine blk_drew ?_ | refine blk_alloc ?_ _)); refine blk_far ?_ NB245_247.out _; (with_reducible repeat (first | refine blk_drewN ?_ _ | refine blk_drew ?_ | refine blk_alloc ?_ _)); refine blk_far ?_ NB245_247.out _; (with_reducible repeat (first | refine blk_drewN ?_ _ | refine blk_drew ?_ | refine blk_alloc ?_ _)); refine blk_far ?_ NB245_247.out _; (with_reducible repeat (first | refine blk_drewN ?_ _ | refine blk_drew ?_ | refine blk_alloc ?_ _)); refine blk_far ?_ NB245_247.out _; (with_reducible repeat (first | refine blk_drewN ?_ _ | refine blk_drew ?_ | refine blk_alloc ?_ _)); refine blk_far ?_ NB245_247.out _; (with_reducible repeat (first | refine blk_drewN ?_ _ | refine blk_drew ?_ | refine blk_alloc ?_ _)); refine blk_far ?_ NB245_247.out _; (with_reducible repeat (first | refine blk_drewN ?_ _ | refine blk_drew ?_ | refine blk_alloc ?_ _)); refine blk_far ?_ NB245_247.out _; (with_reducible repeat (first | refine blk_drewN ?_ _ | refine blk_drew ?_ | refine blk_alloc ?_ _)); refine blk_far ?_ NB245_247.out _; (with_reducible repeat (first | refine blk_drewN ?_ _ | refine blk_drew ?_ | refine blk_alloc ?_ _)); refine blk_far ?_ NB245_247.out _; (with_reducible repeat (first | refine blk_drewN ?_ _ | refine blk_drew ?_ | refine blk_alloc ?_ _)); exact BK245.out⟩, ⟨by (with_reducible repeat (first | refine blk_drewN ?_ _ | refine blk_drew ?_ | refine blk_alloc ?_ _)); refine blk_far ?_ NB246_247.out _; (with_reducible repeat (first | refine blk_drewN ?_ _ | refine blk_drew ?_ | refine blk_alloc ?_ _)); refine blk_far ?_ NB246_247.out _; (with_reducible repeat (first | refine blk_drewN ?_ _ | refine blk_drew ?_ | refine blk_alloc ?_ _)); refine blk_far ?_ NB246_247.out _; (with_reducible repeat (first | refine blk_drewN ?_ _ | refine blk_drew ?_ | refine blk_alloc ?_ _)); refine blk_far ?_ NB246_247.out _; (with_reducible repeat (first | refine blk_drewN ?_ _ | refine blk_drew ?_ | refine blk_alloc ?_ _)); refine blk_far ?_ NB246_247.out _; (with_reducible repeat (first | refine blk_drewN ?_ _ | refine blk_drew ?_ | refine blk_alloc ?_ _)); refine blk_far ?_ NB246_247.out _; (with_reducible repeat (first | refine blk_drewN ?_ _ | refine blk_drew ?_ | refine blk_alloc ?_ _)); refine blk_far ?_ NB246_247.out _; (with_reducible repeat (first | refine blk_drewN ?_ _ | refine blk_drew ?_ | refine blk_alloc ?_ _)); refine blk_far ?_ NB246_247.out _; (with_reducible repeat (first | refine blk_drewN ?_ _ | refine blk_drew ?_ | refine blk_alloc ?_ _)); refine blk_far ?_ NB246_247.out _; (with_reducible repeat (first | refine blk_drewN ?_ _ | refine blk_drew ?_ | refine blk_alloc ?_ _)); refine blk_far ?_ NB246_247.out _; (with_reducible repeat (first | refine blk_drewN ?_ _ | refine blk_drew ?_ | refine blk_alloc ?_ _)); exact BK246.out⟩, ⟨by (with_reducible repeat (first | refine blk_drewN ?_ _ | refine blk_drew ?_ | refine blk_alloc ?_ _)); refine blk_put (cs := #[.int .u64 a0_2, .int .u64 (IntKind.u64.wrap (a0_3 + 1)), .int .u64 0, .string (⟨#[]⟩ : ByteArray), .string (⟨#[]⟩ : ByteArray)]) ?_ 4 _ rfl; (with_reducible repeat (first | refine blk_drewN ?_ _ | refine blk_drew ?_ | refine blk_alloc ?_ _)); refine blk_put (cs := #[.int .u64 a0_2, .int .u64 (IntKind.u64.wrap (a0_3 + 1)), .int .u64 0, .string (⟨#[]⟩ : ByteArray), .string (⟨#[]⟩ : ByteArray)]) ?_ 3 _ rfl; (with_reducible repeat (first | refine blk_drewN ?_ _ | refine blk_drew ?_ | refine blk_alloc ?_ _)); refine blk_put (cs := #[.int .u64 a0_2, .int .u64 (IntKind.u64.wrap (a0_3 + 1)), .int .u64 0, .string (⟨#[]⟩ : ByteArray), .string (⟨#[]⟩ : ByteArray)]) ?_ 2 _ rfl; (with_reducible repeat (first | refine blk_drewN ?_ _ | refine blk_drew ?_ | refine blk_alloc ?_ _)); refine blk_put (cs := #[.int .u64 a0_2, .int .u64 0, .int .u64 0, .string (⟨#[]⟩ : ByteArray), .string (⟨#[]⟩ : ByteArray)]) ?_ 1 _ rfl; (with_reducible repeat (first | refine blk_drewN ?_ _ | refine blk_drew ?_ | refine blk_alloc ?_ _)); refine blk_put (cs := #[.int .u64 (IntKind.u64.wrap (a0_2 + 1)), .int .u64 0, .int .u64 0, .string (⟨#[]⟩ : ByteArray), .string (⟨#[]⟩ : ByteArray)]) ?_ 0 _ rfl; (with_reducible repeat (first | refine blk_drewN ?_ _ | refine blk_drew ?_ | refine blk_alloc ?_ _)); refine blk_put (cs := #[.int .u64 (IntKind.u64.wrap (a0_2 + 1)), .int .u64 0, .int .u64 0, .string (⟨#[]⟩ : ByteArray), .string (⟨#[]⟩ : ByteArray)]) ?_ 4 _ rfl; (with_reducible repeat (first | refine blk_drewN ?_ _ | refine blk_drew ?_ | refine blk_alloc ?_ _)); refine blk_put (cs := #[.int .u64 (IntKind.u64.wrap (a0_2 + 1)), .int .u64 0, .int .u64 0, .string (⟨#[]⟩ : ByteArray), .string (⟨#[]⟩ : ByteArray)]) ?_ 3 _ rfl; (with_reducible repeat (first | refine blk_drewN ?_ _ | refine blk_drew ?_ | refine blk_alloc ?_ _)); refine blk_put (cs := #[.int .u64 (IntKind.u64.wrap (a0_2 + 1)), .int .u64 0, .int .u64 0, .string (⟨#[]⟩ : ByteArray), .string (⟨#[]⟩ : ByteArray)]) ?_ 2 _ rfl; (with_reducible repeat (first | refine blk_drewN ?_ _ | refine blk_drew ?_ | refine blk_alloc ?_ _)); refine blk_put (cs := #[.int .u64 (IntKind.u64.wrap (a0_2 + 1)), .int .u64 0, .int .u64 0, .string (⟨#[]⟩ : ByteArray), .string (⟨#[]⟩ : ByteArray)]) ?_ 1 _ rfl; (with_reducible repeat (first | refine blk_drewN ?_ _ | refine blk_drew ?_ | refine blk_alloc ?_ _)); refine blk_put (cs := #[.int .u64 0, .int .u64 0, .int .u64 0, .string (⟨#[]⟩ : ByteArray), .string (⟨#[]⟩ : ByteArray)]) ?_ 0 _ rfl; (with_reducible repeat (first | refine blk_drewN ?_ _ | refine blk_drew ?_ | refine blk_alloc ?_ _)); exact BK247.out⟩, ⟨by repeat (first | (with_reducible first | exact HB.out | apply below_alloc | apply pw_below_drewN | apply below_drew1 | refine below_set ?_ GE245.out | refine below_set ?_ GE246.out | refine below_set ?_ GE247.out) | exact HB.out)⟩⟩
    · rw [if_neg c13] at H
      have c13b0 : (a0_1 == 2) = false := beq_eq_false_iff_ne.mpr c13
      have c13b1 : (a0_1 != 2) = true := bne_iff_ne.mpr c13
      (first | rw [c13b0] | (simp only [i64_w, i32_w]; rw [c13b0]) | rw [c13b1] | skip)
      have H' := Aside0.mk H
      clear H
      go_wp2
      go_meet
      case rel => exact ⟨_, (IntKind.u64.wrap (a0_2 + 1)), (0), (0), ((⟨#[]⟩ : ByteArray)), ((⟨#[]⟩ : ByteArray)), H', ⟨by first | omega | exact Nat.le_refl _⟩, ⟨by (with_reducible repeat (first | refine blk_drewN ?_ _ | refine blk_drew ?_ | refine blk_alloc ?_ _)); refine blk_far ?_ NB245_247.out _; (with_reducible repeat (first | refine blk_drewN ?_ _ | refine blk_drew ?_ | refine blk_alloc ?_ _)); refine blk_far ?_ NB245_247.out _; (with_reducible repeat (first | refine blk_drewN ?_ _ | refine blk_drew ?_ | refine blk_alloc ?_ _)); refine blk_far ?_ NB245_247.out _; (with_reducible repeat (first | refine blk_drewN ?_ _ | refine blk_drew ?_ | refine blk_alloc ?_ _)); refine blk_far ?_ NB245_247.out _; (with_reducible repeat (first | refine blk_drewN ?_ _ | refine blk_drew ?_ | refine blk_alloc ?_ _)); refine blk_far ?_ NB245_247.out _; (with_reducible repeat (first | refine blk_drewN ?_ _ | refine blk_drew ?_ | refine blk_alloc ?_ _)); exact BK245.out⟩, ⟨by (with_reducible repeat (first | refine blk_drewN ?_ _ | refine blk_drew ?_ | refine blk_alloc ?_ _)); refine blk_far ?_ NB246_247.out _; (with_reducible repeat (first | refine blk_drewN ?_ _ | refine blk_drew ?_ | refine blk_alloc ?_ _)); refine blk_far ?_ NB246_247.out _; (with_reducible repeat (first | refine blk_drewN ?_ _ | refine blk_drew ?_ | refine blk_alloc ?_ _)); refine blk_far ?_ NB246_247.out _; (with_reducible repeat (first | refine blk_drewN ?_ _ | refine blk_drew ?_ | refine blk_alloc ?_ _)); refine blk_far ?_ NB246_247.out _; (with_reducible repeat (first | refine blk_drewN ?_ _ | refine blk_drew ?_ | refine blk_alloc ?_ _)); refine blk_far ?_ NB246_247.out _; (with_reducible repeat (first | refine blk_drewN ?_ _ | refine blk_drew ?_ | refine blk_alloc ?_ _)); exact BK246.out⟩, ⟨by (with_reducible repeat (first | refine blk_drewN ?_ _ | refine blk_drew ?_ | refine blk_alloc ?_ _)); refine blk_put (cs := #[.int .u64 (IntKind.u64.wrap (a0_2 + 1)), .int .u64 0, .int .u64 0, .string (⟨#[]⟩ : ByteArray), .string (⟨#[]⟩ : ByteArray)]) ?_ 4 _ rfl; (with_reducible repeat (first | refine blk_drewN ?_ _ | refine blk_drew ?_ | refine blk_alloc ?_ _)); refine blk_put (cs := #[.int .u64 (IntKind.u64.wrap (a0_2 + 1)), .int .u64 0, .int .u64 0, .string (⟨#[]⟩ : ByteArray), .string (⟨#[]⟩ : ByteArray)]) ?_ 3 _ rfl; (with_reducible repeat (first | refine blk_drewN ?_ _ | refine blk_drew ?_ | refine blk_alloc ?_ _)); refine blk_put (cs := #[.int .u64 (IntKind.u64.wrap (a0_2 + 1)), .int .u64 0, .int .u64 0, .string (⟨#[]⟩ : ByteArray), .string (⟨#[]⟩ : ByteArray)]) ?_ 2 _ rfl; (with_reducible repeat (first | refine blk_drewN ?_ _ | refine blk_drew ?_ | refine blk_alloc ?_ _)); refine blk_put (cs := #[.int .u64 (IntKind.u64.wrap (a0_2 + 1)), .int .u64 0, .int .u64 0, .string (⟨#[]⟩ : ByteArray), .string (⟨#[]⟩ : ByteArray)]) ?_ 1 _ rfl; (with_reducible repeat (first | refine blk_drewN ?_ _ | refine blk_drew ?_ | refine blk_alloc ?_ _)); refine blk_put (cs := #[.int .u64 0, .int .u64 0, .int .u64 0, .string (⟨#[]⟩ : ByteArray), .string (⟨#[]⟩ : ByteArray)]) ?_ 0 _ rfl; (with_reducible repeat (first | refine blk_drewN ?_ _ | refine blk_drew ?_ | refine blk_alloc ?_ _)); exact BK247.out⟩, ⟨by repeat (first | (with_reducible first | exact HB.out | apply below_alloc | apply pw_below_drewN | apply below_drew1 | refine below_set ?_ GE245.out | refine below_set ?_ GE246.out | refine below_set ?_ GE247.out) | exact HB.out)⟩⟩
  case rest =>
    clear HC3
    try clear c1
    try clear p2
    try clear c6
    try clear c8
    try clear c9
    try clear c10
    try clear c13
    try clear c13b0
    try clear c13b1
    try clear c14
    try clear c15
    try clear c17
    try clear hcz11_0
    try clear hcz11_1
    try clear hcz11_2
    try clear hcz11_3
    try clear hcz11_4
    try clear hcz12_0
    try clear hcz12_1
    try clear hcz12_2
    try clear hcz12_3
    try clear hcz12_4
    try clear hcz12_5
    try clear hcz16_0
    try clear hcz16_1
    try clear hcz16_2
    try clear hcz16_3
    try clear hcz16_4
    try clear hcz16_5
    try clear hcz18_0
    try clear hcz18_1
    try clear hcz18_2
    try clear hcz18_3
    try clear hcz18_4
    try clear hcz7_0
    try clear hcz7_1
    try clear hcz7_2
    try clear hcz7_3
    try clear hcz7_4
    try clear hcz7_5
    try clear hfz11_0
    try clear hfz11_1
    try clear hfz11_2
    try clear hfz11_3
    try clear hfz11_4
    try clear hfz12_0
    try clear hfz12_1
    try clear hfz12_2
    try clear hfz12_3
    try clear hfz12_4
    try clear hfz12_5
    try clear hfz16_0
    try clear hfz16_1
    try clear hfz16_2
    try clear hfz16_3
    try clear hfz16_4
    try clear hfz16_5
    try clear hfz18_0
    try clear hfz18_1
    try clear hfz18_2
    try clear hfz18_3
    try clear hfz18_4
    try clear hfz7_0
    try clear hfz7_1
    try clear hfz7_2
    try clear hfz7_3
    try clear hfz7_4
    try clear hfz7_5
    obtain ⟨kq, x248000_2, x248001_2, x248002_2, x248003_2, x248004_2, HA, HJ2, BK245, BK246, BK247, HB⟩ := hcut
    cases kq with
    | zero => exact absurd HA.out (by simp [spec_Spoken.j0])
    | succ kj2 =>
      have H := HA.out
      clear HA
      simp only [spec_Spoken.j0] at H
      by_cases c19 : a0_1 = 3
      · rw [if_pos c19] at H
        have c19b0 : (a0_1 == 3) = true := beq_iff_eq.mpr c19
        have c19b1 : (a0_1 != 3) = false := bne_eq_false_iff_eq.mpr c19
        clear c19
        obtain rfl := Option.some.inj H
        have hnb20 := NB245_246.out
        have hnc20 := NB246_245.out
        have hnb21 := NB245_247.out
        have hnc21 := NB247_245.out
        have hcz22_0 : wc.cell? ⟨gb245, 0, none⟩ = some (.int .i64 a0_0) := (blk_cell BK245.out 0).trans rfl
        have hcz22_1 : wc.cell? ⟨gb245, 1, none⟩ = some (.int .i64 a0_1) := (blk_cell BK245.out 1).trans rfl
        have hcz22_2 : wc.cell? ⟨gb245, 2, none⟩ = some (.int .u64 a0_2) := (blk_cell BK245.out 2).trans rfl
        have hcz22_3 : wc.cell? ⟨gb245, 3, none⟩ = some (.int .u64 a0_3) := (blk_cell BK245.out 3).trans rfl
        have hcz22_4 : wc.cell? ⟨gb245, 4, none⟩ = some (.int .u64 a0_4) := (blk_cell BK245.out 4).trans rfl
        have hcz22_5 : wc.cell? ⟨gb245, 5, none⟩ = some (.string a0_5) := (blk_cell BK245.out 5).trans rfl
        have hfz22_0 := blk_frozen BK245.out 0
        have hfz22_1 := blk_frozen BK245.out 1
        have hfz22_2 := blk_frozen BK245.out 2
        have hfz22_3 := blk_frozen BK245.out 3
        have hfz22_4 := blk_frozen BK245.out 4
        have hfz22_5 := blk_frozen BK245.out 5
        go_wp2
        go_ret
        exact ⟨by first | rfl | (simp [errW_none, errW_some] <;> rfl) | (simp [*, errW_none, errW_some] <;> rfl), by repeat (first | (with_reducible first | exact HB.out | apply below_alloc | apply pw_below_drewN | apply below_drew1 | refine below_set ?_ GE245.out | refine below_set ?_ GE246.out | refine below_set ?_ GE247.out) | exact HB.out)⟩
      · rw [if_neg c19] at H
        have c19b0 : (a0_1 == 3) = false := beq_eq_false_iff_ne.mpr c19
        have c19b1 : (a0_1 != 3) = true := bne_iff_ne.mpr c19
        by_cases c23 : a0_0 = 5
        · rw [if_pos c23] at H
          have c23b0 : (a0_0 == 5) = true := beq_iff_eq.mpr c23
          have c23b1 : (a0_0 != 5) = false := bne_eq_false_iff_eq.mpr c23
          clear c23
          replace H := Option.bind_eq_some_iff.mp H
          obtain ⟨t248, A240, H⟩ := H
          replace H : (some (t248 != 0)) = some r := H
          have A24 := Aside0.mk A240
          clear A240
          obtain rfl := Option.some.inj H
          have hnb25 := NB245_246.out
          have hnc25 := NB246_245.out
          have hnb26 := NB245_247.out
          have hnc26 := NB247_245.out
          have hcz27_0 : wc.cell? ⟨gb245, 0, none⟩ = some (.int .i64 a0_0) := (blk_cell BK245.out 0).trans rfl
          have hcz27_1 : wc.cell? ⟨gb245, 1, none⟩ = some (.int .i64 a0_1) := (blk_cell BK245.out 1).trans rfl
          have hcz27_2 : wc.cell? ⟨gb245, 2, none⟩ = some (.int .u64 a0_2) := (blk_cell BK245.out 2).trans rfl
          have hcz27_3 : wc.cell? ⟨gb245, 3, none⟩ = some (.int .u64 a0_3) := (blk_cell BK245.out 3).trans rfl
          have hcz27_4 : wc.cell? ⟨gb245, 4, none⟩ = some (.int .u64 a0_4) := (blk_cell BK245.out 4).trans rfl
          have hcz27_5 : wc.cell? ⟨gb245, 5, none⟩ = some (.string a0_5) := (blk_cell BK245.out 5).trans rfl
          have hfz27_0 := blk_frozen BK245.out 0
          have hfz27_1 := blk_frozen BK245.out 1
          have hfz27_2 := blk_frozen BK245.out 2
          have hfz27_3 := blk_frozen BK245.out 3
          have hfz27_4 := blk_frozen BK245.out 4
          have hfz27_5 := blk_frozen BK245.out 5
          have hnb28 := NB246_247.out
          have hnc28 := NB247_246.out
          have hcz29_0 : wc.cell? ⟨gb246, 0, none⟩ = some (.int .u64 a1_0) := (blk_cell BK246.out 0).trans rfl
          have hcz29_1 : wc.cell? ⟨gb246, 1, none⟩ = some (.int .u64 a1_1) := (blk_cell BK246.out 1).trans rfl
          have hcz29_2 : wc.cell? ⟨gb246, 2, none⟩ = some (.int .u64 a1_2) := (blk_cell BK246.out 2).trans rfl
          have hcz29_3 : wc.cell? ⟨gb246, 3, none⟩ = some (.string a1_3) := (blk_cell BK246.out 3).trans rfl
          have hcz29_4 : wc.cell? ⟨gb246, 4, none⟩ = some (.string a1_4) := (blk_cell BK246.out 4).trans rfl
          have hfz29_0 := blk_frozen BK246.out 0
          have hfz29_1 := blk_frozen BK246.out 1
          have hfz29_2 := blk_frozen BK246.out 2
          have hfz29_3 := blk_frozen BK246.out 3
          have hfz29_4 := blk_frozen BK246.out 4
          have hcz30_0 : wc.cell? ⟨gb247, 0, none⟩ = some (.int .u64 x248000_2) := (blk_cell BK247.out 0).trans rfl
          have hcz30_1 : wc.cell? ⟨gb247, 1, none⟩ = some (.int .u64 x248001_2) := (blk_cell BK247.out 1).trans rfl
          have hcz30_2 : wc.cell? ⟨gb247, 2, none⟩ = some (.int .u64 x248002_2) := (blk_cell BK247.out 2).trans rfl
          have hcz30_3 : wc.cell? ⟨gb247, 3, none⟩ = some (.string x248003_2) := (blk_cell BK247.out 3).trans rfl
          have hcz30_4 : wc.cell? ⟨gb247, 4, none⟩ = some (.string x248004_2) := (blk_cell BK247.out 4).trans rfl
          have hfz30_0 := blk_frozen BK247.out 0
          have hfz30_1 := blk_frozen BK247.out 1
          have hfz30_2 := blk_frozen BK247.out 2
          have hfz30_3 := blk_frozen BK247.out 3
          have hfz30_4 := blk_frozen BK247.out 4
          go_wp2_with (first | ((with_reducible refine only_callee (f := 94) rfl ?_); refine goesL_ (some 29) rfl rfl Tryd.func94 (by kernel_rfl) rfl #[.agg #[.int .u64 a1_0, .int .u64 a1_1, .int .u64 a1_2, .string a1_3, .string a1_4], .agg #[.int .u64 x248000_2, .int .u64 x248001_2, .int .u64 x248002_2, .string x248003_2, .string x248004_2], .int .i64 3] rfl (by (try simp only [List.map_toArray, List.map_cons, List.map_nil]); first | done | rfl | (simp only [List.length_drop, List.length_take]; rfl)) ?_; (with_reducible refine (spec_CompareNumbers.calls a1_0 a1_1 a1_2 a1_3 a1_4 x248000_2 x248001_2 x248002_2 x248003_2 x248004_2 3 t248 _ A24.out).mono ?_); rintro e w31 ⟨rfl, hb⟩; refine ⟨_, rfl, ?_⟩; have n0_ := Aside0.mk (blk_below (g := gb245) (o := .cells #[.int .i64 a0_0, .int .i64 a0_1, .int .u64 a0_2, .int .u64 a0_3, .int .u64 a0_4, .string a0_5] 36 (0, 0)) (by (with_reducible repeat (first | refine blk_drewN ?_ _ | refine blk_drew ?_ | refine blk_alloc ?_ _)); exact BK245.out) hb); have n1_ := Aside0.mk (blk_below (g := gb246) (o := .cells #[.int .u64 a1_0, .int .u64 a1_1, .int .u64 a1_2, .string a1_3, .string a1_4] 24 (0, 0)) (by (with_reducible repeat (first | refine blk_drewN ?_ _ | refine blk_drew ?_ | refine blk_alloc ?_ _)); exact BK246.out) hb); have n2_ := Aside0.mk (blk_below (g := gb247) (o := .cells #[.int .u64 x248000_2, .int .u64 x248001_2, .int .u64 x248002_2, .string x248003_2, .string x248004_2] 24 (0, 0)) (by (with_reducible repeat (first | refine blk_drewN ?_ _ | refine blk_drew ?_ | refine blk_alloc ?_ _)); exact BK247.out) hb); have n3_ := Aside0.mk (below_step (by repeat (first | (with_reducible first | exact HB.out | apply below_alloc | apply pw_below_drewN | apply below_drew1 | refine below_set ?_ GE245.out | refine below_set ?_ GE246.out | refine below_set ?_ GE247.out) | exact HB.out)) hb); clear BK245; clear BK246; clear BK247; clear HB; have BK245 := n0_; have BK246 := n1_; have BK247 := n2_; have HB := n3_; clear n0_ n1_ n2_ n3_; (try clear hb); (try clear hb2); (try clear hk); (try clear hi)))
          go_ret
          exact ⟨by first | rfl | (simp [errW_none, errW_some] <;> rfl) | (simp [*, errW_none, errW_some] <;> rfl), by repeat (first | (with_reducible first | exact HB.out | apply below_alloc | apply pw_below_drewN | apply below_drew1 | refine below_set ?_ GE245.out | refine below_set ?_ GE246.out | refine below_set ?_ GE247.out) | exact HB.out)⟩
        · rw [if_neg c23] at H
          have c23b0 : (a0_0 == 5) = false := beq_eq_false_iff_ne.mpr c23
          have c23b1 : (a0_0 != 5) = true := bne_iff_ne.mpr c23
          by_cases c32 : a0_0 = 1
          · rw [if_pos c32] at H
            have c32b0 : (a0_0 == 1) = true := beq_iff_eq.mpr c32
            have c32b1 : (a0_0 != 1) = false := bne_eq_false_iff_eq.mpr c32
            clear c32
            obtain rfl := Option.some.inj H
            have hnb33 := NB245_246.out
            have hnc33 := NB246_245.out
            have hnb34 := NB245_247.out
            have hnc34 := NB247_245.out
            have hcz35_0 : wc.cell? ⟨gb245, 0, none⟩ = some (.int .i64 a0_0) := (blk_cell BK245.out 0).trans rfl
            have hcz35_1 : wc.cell? ⟨gb245, 1, none⟩ = some (.int .i64 a0_1) := (blk_cell BK245.out 1).trans rfl
            have hcz35_2 : wc.cell? ⟨gb245, 2, none⟩ = some (.int .u64 a0_2) := (blk_cell BK245.out 2).trans rfl
            have hcz35_3 : wc.cell? ⟨gb245, 3, none⟩ = some (.int .u64 a0_3) := (blk_cell BK245.out 3).trans rfl
            have hcz35_4 : wc.cell? ⟨gb245, 4, none⟩ = some (.int .u64 a0_4) := (blk_cell BK245.out 4).trans rfl
            have hcz35_5 : wc.cell? ⟨gb245, 5, none⟩ = some (.string a0_5) := (blk_cell BK245.out 5).trans rfl
            have hfz35_0 := blk_frozen BK245.out 0
            have hfz35_1 := blk_frozen BK245.out 1
            have hfz35_2 := blk_frozen BK245.out 2
            have hfz35_3 := blk_frozen BK245.out 3
            have hfz35_4 := blk_frozen BK245.out 4
            have hfz35_5 := blk_frozen BK245.out 5
            have hnb36 := NB246_247.out
            have hnc36 := NB247_246.out
            have hcz37_0 : wc.cell? ⟨gb246, 0, none⟩ = some (.int .u64 a1_0) := (blk_cell BK246.out 0).trans rfl
            have hcz37_1 : wc.cell? ⟨gb246, 1, none⟩ = some (.int .u64 a1_1) := (blk_cell BK246.out 1).trans rfl
            have hcz37_2 : wc.cell? ⟨gb246, 2, none⟩ = some (.int .u64 a1_2) := (blk_cell BK246.out 2).trans rfl
            have hcz37_3 : wc.cell? ⟨gb246, 3, none⟩ = some (.string a1_3) := (blk_cell BK246.out 3).trans rfl
            have hcz37_4 : wc.cell? ⟨gb246, 4, none⟩ = some (.string a1_4) := (blk_cell BK246.out 4).trans rfl
            have hfz37_0 := blk_frozen BK246.out 0
            have hfz37_1 := blk_frozen BK246.out 1
            have hfz37_2 := blk_frozen BK246.out 2
            have hfz37_3 := blk_frozen BK246.out 3
            have hfz37_4 := blk_frozen BK246.out 4
            go_wp2
            go_ret
            exact ⟨by first | rfl | (simp [errW_none, errW_some] <;> rfl) | (simp [*, errW_none, errW_some] <;> rfl), by repeat (first | (with_reducible first | exact HB.out | apply below_alloc | apply pw_below_drewN | apply below_drew1 | refine below_set ?_ GE245.out | refine below_set ?_ GE246.out | refine below_set ?_ GE247.out) | exact HB.out)⟩
          · rw [if_neg c32] at H
            have c32b0 : (a0_0 == 1) = false := beq_eq_false_iff_ne.mpr c32
            have c32b1 : (a0_0 != 1) = true := bne_iff_ne.mpr c32
            obtain rfl := Option.some.inj H
            have hnb38 := NB245_246.out
            have hnc38 := NB246_245.out
            have hnb39 := NB245_247.out
            have hnc39 := NB247_245.out
            have hcz40_0 : wc.cell? ⟨gb245, 0, none⟩ = some (.int .i64 a0_0) := (blk_cell BK245.out 0).trans rfl
            have hcz40_1 : wc.cell? ⟨gb245, 1, none⟩ = some (.int .i64 a0_1) := (blk_cell BK245.out 1).trans rfl
            have hcz40_2 : wc.cell? ⟨gb245, 2, none⟩ = some (.int .u64 a0_2) := (blk_cell BK245.out 2).trans rfl
            have hcz40_3 : wc.cell? ⟨gb245, 3, none⟩ = some (.int .u64 a0_3) := (blk_cell BK245.out 3).trans rfl
            have hcz40_4 : wc.cell? ⟨gb245, 4, none⟩ = some (.int .u64 a0_4) := (blk_cell BK245.out 4).trans rfl
            have hcz40_5 : wc.cell? ⟨gb245, 5, none⟩ = some (.string a0_5) := (blk_cell BK245.out 5).trans rfl
            have hfz40_0 := blk_frozen BK245.out 0
            have hfz40_1 := blk_frozen BK245.out 1
            have hfz40_2 := blk_frozen BK245.out 2
            have hfz40_3 := blk_frozen BK245.out 3
            have hfz40_4 := blk_frozen BK245.out 4
            have hfz40_5 := blk_frozen BK245.out 5
            go_wp2
            go_ret
            exact ⟨by first | rfl | (simp [errW_none, errW_some] <;> rfl) | (simp [*, errW_none, errW_some] <;> rfl), by repeat (first | (with_reducible first | exact HB.out | apply below_alloc | apply pw_below_drewN | apply below_drew1 | refine below_set ?_ GE245.out | refine below_set ?_ GE246.out | refine below_set ?_ GE247.out) | exact HB.out)⟩

end Go.Proofs.YtlooelfkkbgmhaaDoor.QS

namespace Go.Proofs.YtlooelfkkbgmhaaDoor.QS
open Go.RowKit Go.Proofs.YtlooelfkkbgmhaaDoorW.PrintWords Go.Proofs.YtlooelfkkbgmhaaDoorW.PrintLast
set_option linter.unusedVariables false
set_option linter.unusedSimpArgs false

/-! ### laws_snAsked: function 34 -/
def laws_snAsked.f (k : Nat) (a0_0 : Int) (a0_1 : Int) (a0_2 : Int) (a0_3 : Int) (a0_4 : Int) (a0_5 : ByteArray) (a1 : Int) (a2_0 : Int) (a2_1 : Int) (a2_2 : Int) (a2_3 : ByteArray) (a2_4 : ByteArray) : Option (Bool) := (laws_snAs.f a0_0 a0_1 a0_2 a0_3 a0_4 a0_5 a1).bind fun bt251 => ((spec_GoodTerm.f k bt251.1 bt251.2.1 bt251.2.2.1 bt251.2.2.2.1 bt251.2.2.2.2.1 bt251.2.2.2.2.2).bind fun t257 => (if t257 = true then ((laws_svGood.f k (([(⟨a2_0, a2_1, a2_2, a2_3, a2_4⟩ : S24)] : List (S24)))).bind fun t261 => (if t261 = true then ((spec_Spoken.f k bt251.1 bt251.2.1 bt251.2.2.1 bt251.2.2.2.1 bt251.2.2.2.2.1 bt251.2.2.2.2.2 a2_0 a2_1 a2_2 a2_3 a2_4).bind fun t262 => (some t262)) else (some false))) else (some false)))
theorem laws_snAsked.mono : ∀ a0 a1 a2 a3 a4 a5 a6 a7 a8 a9 a10 a11 k, LeO (laws_snAsked.f k a0 a1 a2 a3 a4 a5 a6 a7 a8 a9 a10 a11) (laws_snAsked.f (k + 1) a0 a1 a2 a3 a4 a5 a6 a7 a8 a9 a10 a11) := by
  intro a0 a1 a2 a3 a4 a5 a6 a7 a8 a9 a10 a11 k
  unfold laws_snAsked.f
  repeat' first
      | (with_reducible exact laws_svGood.mono _ _)
      | (with_reducible exact spec_GoodTerm.mono _ _ _ _ _ _ _)
      | (with_reducible exact spec_Spoken.mono _ _ _ _ _ _ _ _ _ _ _ _)
      | (with_reducible exact LeO.refl _)
      | (with_reducible exact LeO.none _)
      | (with_reducible refine LeO.ite ?_ ?_)
      | (with_reducible refine LeO.bind ?_ (fun _ => ?_))
      | exact laws_svGood.mono _ _
      | exact spec_GoodTerm.mono _ _ _ _ _ _ _
      | exact spec_Spoken.mono _ _ _ _ _ _ _ _ _ _ _ _
      | exact LeO.none _
      | refine LeO.ite ?_ ?_
      | refine LeO.bind ?_ (fun _ => ?_)
set_option maxHeartbeats 8000000 in
set_option maxRecDepth 100000 in
theorem laws_snAsked.calls (k : Nat) (a0_0 : Int) (a0_1 : Int) (a0_2 : Int) (a0_3 : Int) (a0_4 : Int) (a0_5 : ByteArray) (a1 : Int) (a2_0 : Int) (a2_1 : Int) (a2_2 : Int) (a2_3 : ByteArray) (a2_4 : ByteArray) (r : Bool) (w : World) (h : laws_snAsked.f k a0_0 a0_1 a0_2 a0_3 a0_4 a0_5 a1 a2_0 a2_1 a2_2 a2_3 a2_4 = some r) :
    Calls Tryd.prog 34 #[.agg #[.int .i64 a0_0, .int .i64 a0_1, .int .u64 a0_2, .int .u64 a0_3, .int .u64 a0_4, .string a0_5], .int .i64 a1, .agg #[.int .u64 a2_0, .int .u64 a2_1, .int .u64 a2_2, .string a2_3, .string a2_4]] w fun e w' => e = .returned (.bool r) ∧ Below w.heap.size w w' := by
  have hu36 := Tryd.underlying36
  have hu24 := Tryd.underlying24
  have HB := Aside0.mk (Below.refl w.heap.size w)
  have H : ((laws_snAs.f a0_0 a0_1 a0_2 a0_3 a0_4 a0_5 a1).bind fun bt251 => ((spec_GoodTerm.f k bt251.1 bt251.2.1 bt251.2.2.1 bt251.2.2.2.1 bt251.2.2.2.2.1 bt251.2.2.2.2.2).bind fun t257 => (if t257 = true then ((laws_svGood.f k (([(⟨a2_0, a2_1, a2_2, a2_3, a2_4⟩ : S24)] : List (S24)))).bind fun t261 => (if t261 = true then ((spec_Spoken.f k bt251.1 bt251.2.1 bt251.2.2.1 bt251.2.2.2.1 bt251.2.2.2.2.1 bt251.2.2.2.2.2 a2_0 a2_1 a2_2 a2_3 a2_4).bind fun t262 => (some t262)) else (some false))) else (some false)))) = some r := h
  clear h
  replace H := Option.bind_eq_some_iff.mp H
  obtain ⟨⟨t251, t252, t253, t254, t255, t256⟩, A40, H⟩ := H
  replace H : ((spec_GoodTerm.f k t251 t252 t253 t254 t255 t256).bind fun t257 => (if t257 = true then ((laws_svGood.f k (([(⟨a2_0, a2_1, a2_2, a2_3, a2_4⟩ : S24)] : List (S24)))).bind fun t261 => (if t261 = true then ((spec_Spoken.f k t251 t252 t253 t254 t255 t256 a2_0 a2_1 a2_2 a2_3 a2_4).bind fun t262 => (some t262)) else (some false))) else (some false))) = some r := H
  have A4 := Aside0.mk A40
  clear A40
  replace H := Option.bind_eq_some_iff.mp H
  obtain ⟨t257, A50, H⟩ := H
  replace H : (if t257 = true then ((laws_svGood.f k (([(⟨a2_0, a2_1, a2_2, a2_3, a2_4⟩ : S24)] : List (S24)))).bind fun t261 => (if t261 = true then ((spec_Spoken.f k t251 t252 t253 t254 t255 t256 a2_0 a2_1 a2_2 a2_3 a2_4).bind fun t262 => (some t262)) else (some false))) else (some false)) = some r := H
  have A5 := Aside0.mk A50
  clear A50
  by_cases c6 : t257 = true
  · subst c6
    have H1 : ((laws_svGood.f k (([(⟨a2_0, a2_1, a2_2, a2_3, a2_4⟩ : S24)] : List (S24)))).bind fun t261 => (if t261 = true then ((spec_Spoken.f k t251 t252 t253 t254 t255 t256 a2_0 a2_1 a2_2 a2_3 a2_4).bind fun t262 => (some t262)) else (some false))) = some r := by rw [if_pos rfl] at H; exact H
    clear H
    have H := H1
    clear H1
    obtain ⟨y258, hy258⟩ : ∃ y_ : List (S24), y_ = (([(⟨a2_0, a2_1, a2_2, a2_3, a2_4⟩ : S24)] : List (S24))) := ⟨_, rfl⟩
    replace H : ((laws_svGood.f k y258).bind fun t261 => (if t261 = true then ((spec_Spoken.f k t251 t252 t253 t254 t255 t256 a2_0 a2_1 a2_2 a2_3 a2_4).bind fun t262 => (some t262)) else (some false))) = some r := by first | (rw [hy258]; with_reducible exact H) | (have H2_ := (Option.bind_some _ _).symm.trans H; rw [hy258]; with_reducible exact H2_) | (have H2_ := (Option.bind_some _ _).symm.trans H; with_reducible exact H2_) | with_reducible exact H | (rw [hy258]; exact H) | exact H
    have Ny258 := Aside0.mk hy258
    clear hy258
    replace H := Option.bind_eq_some_iff.mp H
    obtain ⟨t261, A70, H⟩ := H
    replace H : (if t261 = true then ((spec_Spoken.f k t251 t252 t253 t254 t255 t256 a2_0 a2_1 a2_2 a2_3 a2_4).bind fun t262 => (some t262)) else (some false)) = some r := H
    have A7 := Aside0.mk A70
    clear A70
    by_cases c8 : t261 = true
    · subst c8
      have H1 : ((spec_Spoken.f k t251 t252 t253 t254 t255 t256 a2_0 a2_1 a2_2 a2_3 a2_4).bind fun t262 => (some t262)) = some r := by rw [if_pos rfl] at H; exact H
      clear H
      have H := H1
      clear H1
      replace H := Option.bind_eq_some_iff.mp H
      obtain ⟨t262, A90, H⟩ := H
      replace H : (some t262) = some r := H
      have A9 := Aside0.mk A90
      clear A90
      obtain rfl := Option.some.inj H
      go_enter Tryd.func34, Tryd.ntmps34
      go_wp2_with (first | ((with_reducible refine gate_dst (N := 3) rfl ?_); (try (refine gate_guard (by rfl) ?_; dsimp only)); refine box_event ?hg (N := 3) ?hd (cs := #[.int .i64 a0_0, .int .i64 a0_1, .int .u64 a0_2, .int .u64 a0_3, .int .u64 a0_4, .string a0_5]) (t := 36) ?hr ?_; (case hd => rfl); (case hg => rfl); (case hr => first | (go_simp; done) | (go_simp; rfl)); intro gb249 hg w10 hbox hb; have n0_ := Aside0.mk (below_step (by repeat (first | (with_reducible first | exact HB.out | apply below_alloc | apply pw_below_drewN | apply below_drew1) | exact HB.out)) hb); have n1_ := Aside0.mk (hbox); have n2_ := Aside0.mk ((by rw [hg]; exact (below_size (by repeat (first | (with_reducible first | exact HB.out | apply below_alloc | apply pw_below_drewN | apply below_drew1) | exact HB.out))) : w.heap.size ≤ gb249)); have n3_ := Aside0.mk ((by rw [hg]; exact (below_size (by repeat (first | (with_reducible first | exact HB.out | apply below_alloc | apply pw_below_drewN | apply below_drew1) | exact HB.out))) : w.heap.size ≤ gb249)); clear HB; have HB := n0_; have BK249 := n1_; have GW249 := n2_; have GE249 := n3_; clear n0_ n1_ n2_ n3_; clear hb hbox hg) | ((with_reducible refine gate_dst (N := 5) rfl ?_); (try (refine gate_guard (by rfl) ?_; dsimp only)); refine box_event ?hg (N := 5) ?hd (cs := #[.int .u64 a2_0, .int .u64 a2_1, .int .u64 a2_2, .string a2_3, .string a2_4]) (t := 24) ?hr ?_; (case hd => rfl); (case hg => rfl); (case hr => first | (go_simp; done) | (go_simp; rfl)); intro gb250 hg w11 hbox hb; have n0_ := Aside0.mk (blk_below (g := gb249) (o := .cells #[.int .i64 a0_0, .int .i64 a0_1, .int .u64 a0_2, .int .u64 a0_3, .int .u64 a0_4, .string a0_5] 36 (0, 0)) (by (with_reducible repeat (first | refine blk_drewN ?_ _ | refine blk_drew ?_ | refine blk_alloc ?_ _)); exact BK249.out) hb); have n1_ := Aside0.mk (below_step (by repeat (first | (with_reducible first | exact HB.out | apply below_alloc | apply pw_below_drewN | apply below_drew1 | refine below_set ?_ GE249.out) | exact HB.out)) hb); have n2_ := Aside0.mk (hbox); have n3_ := Aside0.mk ((by rw [hg]; exact (below_size (by repeat (first | (with_reducible first | exact HB.out | apply below_alloc | apply pw_below_drewN | apply below_drew1 | refine below_set ?_ GE249.out) | exact HB.out))) : w.heap.size ≤ gb250)); have n4_ := Aside0.mk ((by rw [hg]; exact (below_size (by repeat (first | (with_reducible first | exact HB.out | apply below_alloc | apply pw_below_drewN | apply below_drew1 | refine below_set ?_ GE249.out) | exact HB.out))) : w.heap.size ≤ gb250)); have n5_ := Aside0.mk ((by rw [hg]; exact Nat.ne_of_lt (blk_lt (g := gb249) (o := .cells #[.int .i64 a0_0, .int .i64 a0_1, .int .u64 a0_2, .int .u64 a0_3, .int .u64 a0_4, .string a0_5] 36 (0, 0)) (by (with_reducible repeat (first | refine blk_drewN ?_ _ | refine blk_drew ?_ | refine blk_alloc ?_ _)); exact BK249.out)) : gb249 ≠ gb250)); have n6_ := Aside0.mk ((by rw [hg]; exact Nat.ne_of_gt (blk_lt (g := gb249) (o := .cells #[.int .i64 a0_0, .int .i64 a0_1, .int .u64 a0_2, .int .u64 a0_3, .int .u64 a0_4, .string a0_5] 36 (0, 0)) (by (with_reducible repeat (first | refine blk_drewN ?_ _ | refine blk_drew ?_ | refine blk_alloc ?_ _)); exact BK249.out)) : gb250 ≠ gb249)); clear BK249; clear HB; have BK249 := n0_; have HB := n1_; have BK250 := n2_; have GW250 := n3_; have GE250 := n4_; have NB249_250 := n5_; have NB250_249 := n6_; clear n0_ n1_ n2_ n3_ n4_ n5_ n6_; clear hb hbox hg; have hnb12 := NB249_250.out; have hnc12 := NB250_249.out; have hcz13_0 : w11.cell? ⟨gb249, 0, none⟩ = some (.int .i64 a0_0) := (blk_cell BK249.out 0).trans rfl; have hcz13_1 : w11.cell? ⟨gb249, 1, none⟩ = some (.int .i64 a0_1) := (blk_cell BK249.out 1).trans rfl; have hcz13_2 : w11.cell? ⟨gb249, 2, none⟩ = some (.int .u64 a0_2) := (blk_cell BK249.out 2).trans rfl; have hcz13_3 : w11.cell? ⟨gb249, 3, none⟩ = some (.int .u64 a0_3) := (blk_cell BK249.out 3).trans rfl; have hcz13_4 : w11.cell? ⟨gb249, 4, none⟩ = some (.int .u64 a0_4) := (blk_cell BK249.out 4).trans rfl; have hcz13_5 : w11.cell? ⟨gb249, 5, none⟩ = some (.string a0_5) := (blk_cell BK249.out 5).trans rfl; have hfz13_0 := blk_frozen BK249.out 0; have hfz13_1 := blk_frozen BK249.out 1; have hfz13_2 := blk_frozen BK249.out 2; have hfz13_3 := blk_frozen BK249.out 3; have hfz13_4 := blk_frozen BK249.out 4; have hfz13_5 := blk_frozen BK249.out 5) | ((with_reducible refine only_callee (f := 82) rfl ?_); refine goesL_ (some 9) rfl rfl Tryd.func82 (by kernel_rfl) rfl #[.agg #[.int .i64 a0_0, .int .i64 a0_1, .int .u64 a0_2, .int .u64 a0_3, .int .u64 a0_4, .string a0_5], .int .i64 a1] rfl (by (try simp only [List.map_toArray, List.map_cons, List.map_nil]); first | done | rfl | (simp only [List.length_drop, List.length_take]; rfl)) ?_; (with_reducible refine (laws_snAs.calls a0_0 a0_1 a0_2 a0_3 a0_4 a0_5 a1 t251 t252 t253 t254 t255 t256 _ A4.out).mono ?_); rintro e w14 ⟨rfl, hb⟩; refine ⟨_, rfl, ?_⟩; have n0_ := Aside0.mk (blk_below (g := gb249) (o := .cells #[.int .i64 a0_0, .int .i64 a0_1, .int .u64 a0_2, .int .u64 a0_3, .int .u64 a0_4, .string a0_5] 36 (0, 0)) (by (with_reducible repeat (first | refine blk_drewN ?_ _ | refine blk_drew ?_ | refine blk_alloc ?_ _)); exact BK249.out) hb); have n1_ := Aside0.mk (blk_below (g := gb250) (o := .cells #[.int .u64 a2_0, .int .u64 a2_1, .int .u64 a2_2, .string a2_3, .string a2_4] 24 (0, 0)) (by (with_reducible repeat (first | refine blk_drewN ?_ _ | refine blk_drew ?_ | refine blk_alloc ?_ _)); exact BK250.out) hb); have n2_ := Aside0.mk (below_step (by repeat (first | (with_reducible first | exact HB.out | apply below_alloc | apply pw_below_drewN | apply below_drew1 | refine below_set ?_ GE249.out | refine below_set ?_ GE250.out) | exact HB.out)) hb); clear BK249; clear BK250; clear HB; have BK249 := n0_; have BK250 := n1_; have HB := n2_; clear n0_ n1_ n2_; (try clear hb); (try clear hb2); (try clear hk); (try clear hi); have hcz15_0 : w14.cell? ⟨gb249, 0, none⟩ = some (.int .i64 a0_0) := (blk_cell BK249.out 0).trans rfl; have hcz15_1 : w14.cell? ⟨gb249, 1, none⟩ = some (.int .i64 a0_1) := (blk_cell BK249.out 1).trans rfl; have hcz15_2 : w14.cell? ⟨gb249, 2, none⟩ = some (.int .u64 a0_2) := (blk_cell BK249.out 2).trans rfl; have hcz15_3 : w14.cell? ⟨gb249, 3, none⟩ = some (.int .u64 a0_3) := (blk_cell BK249.out 3).trans rfl; have hcz15_4 : w14.cell? ⟨gb249, 4, none⟩ = some (.int .u64 a0_4) := (blk_cell BK249.out 4).trans rfl; have hcz15_5 : w14.cell? ⟨gb249, 5, none⟩ = some (.string a0_5) := (blk_cell BK249.out 5).trans rfl; have hfz15_0 := blk_frozen BK249.out 0; have hfz15_1 := blk_frozen BK249.out 1; have hfz15_2 := blk_frozen BK249.out 2; have hfz15_3 := blk_frozen BK249.out 3; have hfz15_4 := blk_frozen BK249.out 4; have hfz15_5 := blk_frozen BK249.out 5) | ((with_reducible refine only_callee (f := 46) rfl ?_); refine goesL_ (some 11) rfl rfl Tryd.func46 (by kernel_rfl) rfl #[.agg #[.int .i64 t251, .int .i64 t252, .int .u64 t253, .int .u64 t254, .int .u64 t255, .string t256]] rfl (by (try simp only [List.map_toArray, List.map_cons, List.map_nil]); first | done | rfl | (simp only [List.length_drop, List.length_take]; rfl)) ?_; (with_reducible refine (spec_GoodTerm.calls k t251 t252 t253 t254 t255 t256 true _ A5.out).mono ?_); rintro e w16 ⟨rfl, hb⟩; refine ⟨_, rfl, ?_⟩; have n0_ := Aside0.mk (blk_below (g := gb249) (o := .cells #[.int .i64 t251, .int .i64 t252, .int .u64 t253, .int .u64 t254, .int .u64 t255, .string t256] 36 (0, 0)) (by (with_reducible repeat (first | refine blk_drewN ?_ _ | refine blk_drew ?_ | refine blk_alloc ?_ _)); refine blk_put (cs := #[.int .i64 t251, .int .i64 t252, .int .u64 t253, .int .u64 t254, .int .u64 t255, .string a0_5]) ?_ 5 _ rfl; (with_reducible repeat (first | refine blk_drewN ?_ _ | refine blk_drew ?_ | refine blk_alloc ?_ _)); refine blk_put (cs := #[.int .i64 t251, .int .i64 t252, .int .u64 t253, .int .u64 t254, .int .u64 a0_4, .string a0_5]) ?_ 4 _ rfl; (with_reducible repeat (first | refine blk_drewN ?_ _ | refine blk_drew ?_ | refine blk_alloc ?_ _)); refine blk_put (cs := #[.int .i64 t251, .int .i64 t252, .int .u64 t253, .int .u64 a0_3, .int .u64 a0_4, .string a0_5]) ?_ 3 _ rfl; (with_reducible repeat (first | refine blk_drewN ?_ _ | refine blk_drew ?_ | refine blk_alloc ?_ _)); refine blk_put (cs := #[.int .i64 t251, .int .i64 t252, .int .u64 a0_2, .int .u64 a0_3, .int .u64 a0_4, .string a0_5]) ?_ 2 _ rfl; (with_reducible repeat (first | refine blk_drewN ?_ _ | refine blk_drew ?_ | refine blk_alloc ?_ _)); refine blk_put (cs := #[.int .i64 t251, .int .i64 a0_1, .int .u64 a0_2, .int .u64 a0_3, .int .u64 a0_4, .string a0_5]) ?_ 1 _ rfl; (with_reducible repeat (first | refine blk_drewN ?_ _ | refine blk_drew ?_ | refine blk_alloc ?_ _)); refine blk_put (cs := #[.int .i64 a0_0, .int .i64 a0_1, .int .u64 a0_2, .int .u64 a0_3, .int .u64 a0_4, .string a0_5]) ?_ 0 _ rfl; (with_reducible repeat (first | refine blk_drewN ?_ _ | refine blk_drew ?_ | refine blk_alloc ?_ _)); exact BK249.out) hb); have n1_ := Aside0.mk (blk_below (g := gb250) (o := .cells #[.int .u64 a2_0, .int .u64 a2_1, .int .u64 a2_2, .string a2_3, .string a2_4] 24 (0, 0)) (by (with_reducible repeat (first | refine blk_drewN ?_ _ | refine blk_drew ?_ | refine blk_alloc ?_ _)); refine blk_far ?_ NB250_249.out _; (with_reducible repeat (first | refine blk_drewN ?_ _ | refine blk_drew ?_ | refine blk_alloc ?_ _)); refine blk_far ?_ NB250_249.out _; (with_reducible repeat (first | refine blk_drewN ?_ _ | refine blk_drew ?_ | refine blk_alloc ?_ _)); refine blk_far ?_ NB250_249.out _; (with_reducible repeat (first | refine blk_drewN ?_ _ | refine blk_drew ?_ | refine blk_alloc ?_ _)); refine blk_far ?_ NB250_249.out _; (with_reducible repeat (first | refine blk_drewN ?_ _ | refine blk_drew ?_ | refine blk_alloc ?_ _)); refine blk_far ?_ NB250_249.out _; (with_reducible repeat (first | refine blk_drewN ?_ _ | refine blk_drew ?_ | refine blk_alloc ?_ _)); refine blk_far ?_ NB250_249.out _; (with_reducible repeat (first | refine blk_drewN ?_ _ | refine blk_drew ?_ | refine blk_alloc ?_ _)); exact BK250.out) hb); have n2_ := Aside0.mk (below_step (by repeat (first | (with_reducible first | exact HB.out | apply below_alloc | apply pw_below_drewN | apply below_drew1 | refine below_set ?_ GE249.out | refine below_set ?_ GE250.out) | exact HB.out)) hb); clear BK249; clear BK250; clear HB; have BK249 := n0_; have BK250 := n1_; have HB := n2_; clear n0_ n1_ n2_; (try clear hb); (try clear hb2); (try clear hk); (try clear hi); have hcz17_0 : w16.cell? ⟨gb250, 0, none⟩ = some (.int .u64 a2_0) := (blk_cell BK250.out 0).trans rfl; have hcz17_1 : w16.cell? ⟨gb250, 1, none⟩ = some (.int .u64 a2_1) := (blk_cell BK250.out 1).trans rfl; have hcz17_2 : w16.cell? ⟨gb250, 2, none⟩ = some (.int .u64 a2_2) := (blk_cell BK250.out 2).trans rfl; have hcz17_3 : w16.cell? ⟨gb250, 3, none⟩ = some (.string a2_3) := (blk_cell BK250.out 3).trans rfl; have hcz17_4 : w16.cell? ⟨gb250, 4, none⟩ = some (.string a2_4) := (blk_cell BK250.out 4).trans rfl; have hfz17_0 := blk_frozen BK250.out 0; have hfz17_1 := blk_frozen BK250.out 1; have hfz17_2 := blk_frozen BK250.out 2; have hfz17_3 := blk_frozen BK250.out 3; have hfz17_4 := blk_frozen BK250.out 4) | ((with_reducible refine gate_dst (N := 14) rfl ?_); (try (refine gate_guard (by rfl) ?_; dsimp only)); refine Kd.R_lit k24 _ 24 ?hg (N := 14) ?hd (xs := ([(⟨a2_0, a2_1, a2_2, a2_3, a2_4⟩ : S24)] : List (S24))) (inner := [.int .u64 a2_0, .int .u64 a2_1, .int .u64 a2_2, .string a2_3, .string a2_4]) (ok := fun _ => True) (okp := fun _ => True) ?hr ?hp (fun _ hk => hk) trivial (Below.refl _ _) (Nat.le_refl _) (by simp) ?_; (case hd => rfl); (case hg => rfl); (case hr => first | (go_simp; done) | (go_simp; rfl)); (case hp => exact (Reps.c5 (show Kd.M k24 _ _ _ (⟨a2_0, a2_1, a2_2, a2_3, a2_4⟩ : S24) [.int .u64 a2_0, .int .u64 a2_1, .int .u64 a2_2, .string a2_3, .string a2_4] from (k24_mkM _ _ _ (⟨a2_0, a2_1, a2_2, a2_3, a2_4⟩ : S24) )) (Reps.none _ _))); intro v259 w18 ho19 hb hg_ hnew_; clear hg_ hnew_; (first | rw [← Ny258.out] at ho19 | (simp only [Int.reduceToNat] at ho19; rw [← Ny258.out] at ho19)); have n0_ := Aside0.mk (Kd.R_lower (Kd.R_newB ho19 (g := gb250) (o := .cells #[.int .u64 a2_0, .int .u64 a2_1, .int .u64 a2_2, .string a2_3, .string a2_4] 24 (0, 0)) (by (with_reducible repeat (first | refine blk_drewN ?_ _ | refine blk_drew ?_ | refine blk_alloc ?_ _)); exact BK250.out)) (below_size (by repeat (first | (with_reducible first | exact HB.out | apply below_alloc | apply pw_below_drewN | apply below_drew1 | refine below_set ?_ GE249.out | refine below_set ?_ GE250.out) | exact HB.out)))); have n1_ := Aside0.mk (blk_below (g := gb249) (o := .cells #[.int .i64 t251, .int .i64 t252, .int .u64 t253, .int .u64 t254, .int .u64 t255, .string t256] 36 (0, 0)) (by (with_reducible repeat (first | refine blk_drewN ?_ _ | refine blk_drew ?_ | refine blk_alloc ?_ _)); exact BK249.out) hb); have n2_ := Aside0.mk (blk_below (g := gb250) (o := .cells #[.int .u64 a2_0, .int .u64 a2_1, .int .u64 a2_2, .string a2_3, .string a2_4] 24 (0, 0)) (by (with_reducible repeat (first | refine blk_drewN ?_ _ | refine blk_drew ?_ | refine blk_alloc ?_ _)); exact BK250.out) hb); have n3_ := Aside0.mk (below_step (by repeat (first | (with_reducible first | exact HB.out | apply below_alloc | apply pw_below_drewN | apply below_drew1 | refine below_set ?_ GE249.out | refine below_set ?_ GE250.out) | exact HB.out)) hb); clear BK249; clear BK250; clear HB; have HO260 := n0_; have BK249 := n1_; have BK250 := n2_; have HB := n3_; clear n0_ n1_ n2_ n3_; clear hb ho19; obtain ⟨Ao20, co20, eo20⟩ := Kd.R_slice HO260.out; subst eo20) | (go_at_call 18; (with_reducible refine (laws_svGood.calls k _ _ y258 true _ ?side1 ?side2 A7.out).mono ?_); (case side1 => repeat (first | exact (Kd.R_reads' HO260.out).2.2 | (with_reducible refine Kd.C_alloc ?_ _) | (with_reducible refine Kd.C_drewN ?_ _) | (with_reducible refine Kd.C_drew ?_))); (case side2 => exact (Kd.R_reads' HO260.out).2.1); rintro e w21 ⟨rfl, hb⟩; have n0_ := Aside0.mk (Kd.R_below (by (with_reducible repeat (first | apply Kd.R_alloc | apply Kd.R_drewN | apply Kd.R_drew)); exact HO260.out) hb); have n1_ := Aside0.mk (blk_below (g := gb249) (o := .cells #[.int .i64 t251, .int .i64 t252, .int .u64 t253, .int .u64 t254, .int .u64 t255, .string t256] 36 (0, 0)) (by (with_reducible repeat (first | refine blk_drewN ?_ _ | refine blk_drew ?_ | refine blk_alloc ?_ _)); exact BK249.out) hb); have n2_ := Aside0.mk (blk_below (g := gb250) (o := .cells #[.int .u64 a2_0, .int .u64 a2_1, .int .u64 a2_2, .string a2_3, .string a2_4] 24 (0, 0)) (by (with_reducible repeat (first | refine blk_drewN ?_ _ | refine blk_drew ?_ | refine blk_alloc ?_ _)); exact BK250.out) hb); have n3_ := Aside0.mk (below_step (by repeat (first | (with_reducible first | exact HB.out | apply below_alloc | apply pw_below_drewN | apply below_drew1 | refine below_set ?_ GE249.out | refine below_set ?_ GE250.out) | exact HB.out)) hb); clear HO260; clear BK249; clear BK250; clear HB; have HO260 := n0_; have BK249 := n1_; have BK250 := n2_; have HB := n3_; clear n0_ n1_ n2_ n3_; (try clear hb); (try clear hb2); (try clear hk); (try clear hi); have hcz22_0 : w21.cell? ⟨gb249, 0, none⟩ = some (.int .i64 t251) := (blk_cell BK249.out 0).trans rfl; have hcz22_1 : w21.cell? ⟨gb249, 1, none⟩ = some (.int .i64 t252) := (blk_cell BK249.out 1).trans rfl; have hcz22_2 : w21.cell? ⟨gb249, 2, none⟩ = some (.int .u64 t253) := (blk_cell BK249.out 2).trans rfl; have hcz22_3 : w21.cell? ⟨gb249, 3, none⟩ = some (.int .u64 t254) := (blk_cell BK249.out 3).trans rfl; have hcz22_4 : w21.cell? ⟨gb249, 4, none⟩ = some (.int .u64 t255) := (blk_cell BK249.out 4).trans rfl; have hcz22_5 : w21.cell? ⟨gb249, 5, none⟩ = some (.string t256) := (blk_cell BK249.out 5).trans rfl; have hfz22_0 := blk_frozen BK249.out 0; have hfz22_1 := blk_frozen BK249.out 1; have hfz22_2 := blk_frozen BK249.out 2; have hfz22_3 := blk_frozen BK249.out 3; have hfz22_4 := blk_frozen BK249.out 4; have hfz22_5 := blk_frozen BK249.out 5; have hcz23_0 : w21.cell? ⟨gb250, 0, none⟩ = some (.int .u64 a2_0) := (blk_cell BK250.out 0).trans rfl; have hcz23_1 : w21.cell? ⟨gb250, 1, none⟩ = some (.int .u64 a2_1) := (blk_cell BK250.out 1).trans rfl; have hcz23_2 : w21.cell? ⟨gb250, 2, none⟩ = some (.int .u64 a2_2) := (blk_cell BK250.out 2).trans rfl; have hcz23_3 : w21.cell? ⟨gb250, 3, none⟩ = some (.string a2_3) := (blk_cell BK250.out 3).trans rfl; have hcz23_4 : w21.cell? ⟨gb250, 4, none⟩ = some (.string a2_4) := (blk_cell BK250.out 4).trans rfl; have hfz23_0 := blk_frozen BK250.out 0; have hfz23_1 := blk_frozen BK250.out 1; have hfz23_2 := blk_frozen BK250.out 2; have hfz23_3 := blk_frozen BK250.out 3; have hfz23_4 := blk_frozen BK250.out 4) | (go_at_call 83; (with_reducible refine (spec_Spoken.calls k t251 t252 t253 t254 t255 t256 a2_0 a2_1 a2_2 a2_3 a2_4 t262 _ A9.out).mono ?_); rintro e w24 ⟨rfl, hb⟩; have n0_ := Aside0.mk (Kd.R_below (by (with_reducible repeat (first | apply Kd.R_alloc | apply Kd.R_drewN | apply Kd.R_drew)); exact HO260.out) hb); have n1_ := Aside0.mk (blk_below (g := gb249) (o := .cells #[.int .i64 t251, .int .i64 t252, .int .u64 t253, .int .u64 t254, .int .u64 t255, .string t256] 36 (0, 0)) (by (with_reducible repeat (first | refine blk_drewN ?_ _ | refine blk_drew ?_ | refine blk_alloc ?_ _)); exact BK249.out) hb); have n2_ := Aside0.mk (blk_below (g := gb250) (o := .cells #[.int .u64 a2_0, .int .u64 a2_1, .int .u64 a2_2, .string a2_3, .string a2_4] 24 (0, 0)) (by (with_reducible repeat (first | refine blk_drewN ?_ _ | refine blk_drew ?_ | refine blk_alloc ?_ _)); exact BK250.out) hb); have n3_ := Aside0.mk (below_step (by repeat (first | (with_reducible first | exact HB.out | apply below_alloc | apply pw_below_drewN | apply below_drew1 | refine below_set ?_ GE249.out | refine below_set ?_ GE250.out) | exact HB.out)) hb); clear HO260; clear BK249; clear BK250; clear HB; have HO260 := n0_; have BK249 := n1_; have BK250 := n2_; have HB := n3_; clear n0_ n1_ n2_ n3_; (try clear hb); (try clear hb2); (try clear hk); (try clear hi)))
      go_ret
      exact ⟨by first | rfl | (simp [errW_none, errW_some] <;> rfl) | (simp [*, errW_none, errW_some] <;> rfl), by repeat (first | (with_reducible first | exact HB.out | apply below_alloc | apply pw_below_drewN | apply below_drew1 | refine below_set ?_ GE249.out | refine below_set ?_ GE250.out) | exact HB.out)⟩
    · replace c8 := Bool.eq_false_iff.mpr c8
      subst c8
      have H1 : (some false) = some r := by rw [if_neg (show ¬ (false = true) by decide)] at H; exact H
      clear H
      have H := H1
      clear H1
      obtain rfl := Option.some.inj H
      go_enter Tryd.func34, Tryd.ntmps34
      go_wp2_with (first | ((with_reducible refine gate_dst (N := 3) rfl ?_); (try (refine gate_guard (by rfl) ?_; dsimp only)); refine box_event ?hg (N := 3) ?hd (cs := #[.int .i64 a0_0, .int .i64 a0_1, .int .u64 a0_2, .int .u64 a0_3, .int .u64 a0_4, .string a0_5]) (t := 36) ?hr ?_; (case hd => rfl); (case hg => rfl); (case hr => first | (go_simp; done) | (go_simp; rfl)); intro gb249 hg w25 hbox hb; have n0_ := Aside0.mk (below_step (by repeat (first | (with_reducible first | exact HB.out | apply below_alloc | apply pw_below_drewN | apply below_drew1) | exact HB.out)) hb); have n1_ := Aside0.mk (hbox); have n2_ := Aside0.mk ((by rw [hg]; exact (below_size (by repeat (first | (with_reducible first | exact HB.out | apply below_alloc | apply pw_below_drewN | apply below_drew1) | exact HB.out))) : w.heap.size ≤ gb249)); have n3_ := Aside0.mk ((by rw [hg]; exact (below_size (by repeat (first | (with_reducible first | exact HB.out | apply below_alloc | apply pw_below_drewN | apply below_drew1) | exact HB.out))) : w.heap.size ≤ gb249)); clear HB; have HB := n0_; have BK249 := n1_; have GW249 := n2_; have GE249 := n3_; clear n0_ n1_ n2_ n3_; clear hb hbox hg) | ((with_reducible refine gate_dst (N := 5) rfl ?_); (try (refine gate_guard (by rfl) ?_; dsimp only)); refine box_event ?hg (N := 5) ?hd (cs := #[.int .u64 a2_0, .int .u64 a2_1, .int .u64 a2_2, .string a2_3, .string a2_4]) (t := 24) ?hr ?_; (case hd => rfl); (case hg => rfl); (case hr => first | (go_simp; done) | (go_simp; rfl)); intro gb250 hg w26 hbox hb; have n0_ := Aside0.mk (blk_below (g := gb249) (o := .cells #[.int .i64 a0_0, .int .i64 a0_1, .int .u64 a0_2, .int .u64 a0_3, .int .u64 a0_4, .string a0_5] 36 (0, 0)) (by (with_reducible repeat (first | refine blk_drewN ?_ _ | refine blk_drew ?_ | refine blk_alloc ?_ _)); exact BK249.out) hb); have n1_ := Aside0.mk (below_step (by repeat (first | (with_reducible first | exact HB.out | apply below_alloc | apply pw_below_drewN | apply below_drew1 | refine below_set ?_ GE249.out) | exact HB.out)) hb); have n2_ := Aside0.mk (hbox); have n3_ := Aside0.mk ((by rw [hg]; exact (below_size (by repeat (first | (with_reducible first | exact HB.out | apply below_alloc | apply pw_below_drewN | apply below_drew1 | refine below_set ?_ GE249.out) | exact HB.out))) : w.heap.size ≤ gb250)); have n4_ := Aside0.mk ((by rw [hg]; exact (below_size (by repeat (first | (with_reducible first | exact HB.out | apply below_alloc | apply pw_below_drewN | apply below_drew1 | refine below_set ?_ GE249.out) | exact HB.out))) : w.heap.size ≤ gb250)); have n5_ := Aside0.mk ((by rw [hg]; exact Nat.ne_of_lt (blk_lt (g := gb249) (o := .cells #[.int .i64 a0_0, .int .i64 a0_1, .int .u64 a0_2, .int .u64 a0_3, .int .u64 a0_4, .string a0_5] 36 (0, 0)) (by (with_reducible repeat (first | refine blk_drewN ?_ _ | refine blk_drew ?_ | refine blk_alloc ?_ _)); exact BK249.out)) : gb249 ≠ gb250)); have n6_ := Aside0.mk ((by rw [hg]; exact Nat.ne_of_gt (blk_lt (g := gb249) (o := .cells #[.int .i64 a0_0, .int .i64 a0_1, .int .u64 a0_2, .int .u64 a0_3, .int .u64 a0_4, .string a0_5] 36 (0, 0)) (by (with_reducible repeat (first | refine blk_drewN ?_ _ | refine blk_drew ?_ | refine blk_alloc ?_ _)); exact BK249.out)) : gb250 ≠ gb249)); clear BK249; clear HB; have BK249 := n0_; have HB := n1_; have BK250 := n2_; have GW250 := n3_; have GE250 := n4_; have NB249_250 := n5_; have NB250_249 := n6_; clear n0_ n1_ n2_ n3_ n4_ n5_ n6_; clear hb hbox hg; have hnb27 := NB249_250.out; have hnc27 := NB250_249.out; have hcz28_0 : w26.cell? ⟨gb249, 0, none⟩ = some (.int .i64 a0_0) := (blk_cell BK249.out 0).trans rfl; have hcz28_1 : w26.cell? ⟨gb249, 1, none⟩ = some (.int .i64 a0_1) := (blk_cell BK249.out 1).trans rfl; have hcz28_2 : w26.cell? ⟨gb249, 2, none⟩ = some (.int .u64 a0_2) := (blk_cell BK249.out 2).trans rfl; have hcz28_3 : w26.cell? ⟨gb249, 3, none⟩ = some (.int .u64 a0_3) := (blk_cell BK249.out 3).trans rfl; have hcz28_4 : w26.cell? ⟨gb249, 4, none⟩ = some (.int .u64 a0_4) := (blk_cell BK249.out 4).trans rfl; have hcz28_5 : w26.cell? ⟨gb249, 5, none⟩ = some (.string a0_5) := (blk_cell BK249.out 5).trans rfl; have hfz28_0 := blk_frozen BK249.out 0; have hfz28_1 := blk_frozen BK249.out 1; have hfz28_2 := blk_frozen BK249.out 2; have hfz28_3 := blk_frozen BK249.out 3; have hfz28_4 := blk_frozen BK249.out 4; have hfz28_5 := blk_frozen BK249.out 5) | ((with_reducible refine only_callee (f := 82) rfl ?_); refine goesL_ (some 9) rfl rfl Tryd.func82 (by kernel_rfl) rfl #[.agg #[.int .i64 a0_0, .int .i64 a0_1, .int .u64 a0_2, .int .u64 a0_3, .int .u64 a0_4, .string a0_5], .int .i64 a1] rfl (by (try simp only [List.map_toArray, List.map_cons, List.map_nil]); first | done | rfl | (simp only [List.length_drop, List.length_take]; rfl)) ?_; (with_reducible refine (laws_snAs.calls a0_0 a0_1 a0_2 a0_3 a0_4 a0_5 a1 t251 t252 t253 t254 t255 t256 _ A4.out).mono ?_); rintro e w29 ⟨rfl, hb⟩; refine ⟨_, rfl, ?_⟩; have n0_ := Aside0.mk (blk_below (g := gb249) (o := .cells #[.int .i64 a0_0, .int .i64 a0_1, .int .u64 a0_2, .int .u64 a0_3, .int .u64 a0_4, .string a0_5] 36 (0, 0)) (by (with_reducible repeat (first | refine blk_drewN ?_ _ | refine blk_drew ?_ | refine blk_alloc ?_ _)); exact BK249.out) hb); have n1_ := Aside0.mk (blk_below (g := gb250) (o := .cells #[.int .u64 a2_0, .int .u64 a2_1, .int .u64 a2_2, .string a2_3, .string a2_4] 24 (0, 0)) (by (with_reducible repeat (first | refine blk_drewN ?_ _ | refine blk_drew ?_ | refine blk_alloc ?_ _)); exact BK250.out) hb); have n2_ := Aside0.mk (below_step (by repeat (first | (with_reducible first | exact HB.out | apply below_alloc | apply pw_below_drewN | apply below_drew1 | refine below_set ?_ GE249.out | refine below_set ?_ GE250.out) | exact HB.out)) hb); clear BK249; clear BK250; clear HB; have BK249 := n0_; have BK250 := n1_; have HB := n2_; clear n0_ n1_ n2_; (try clear hb); (try clear hb2); (try clear hk); (try clear hi); have hcz30_0 : w29.cell? ⟨gb249, 0, none⟩ = some (.int .i64 a0_0) := (blk_cell BK249.out 0).trans rfl; have hcz30_1 : w29.cell? ⟨gb249, 1, none⟩ = some (.int .i64 a0_1) := (blk_cell BK249.out 1).trans rfl; have hcz30_2 : w29.cell? ⟨gb249, 2, none⟩ = some (.int .u64 a0_2) := (blk_cell BK249.out 2).trans rfl; have hcz30_3 : w29.cell? ⟨gb249, 3, none⟩ = some (.int .u64 a0_3) := (blk_cell BK249.out 3).trans rfl; have hcz30_4 : w29.cell? ⟨gb249, 4, none⟩ = some (.int .u64 a0_4) := (blk_cell BK249.out 4).trans rfl; have hcz30_5 : w29.cell? ⟨gb249, 5, none⟩ = some (.string a0_5) := (blk_cell BK249.out 5).trans rfl; have hfz30_0 := blk_frozen BK249.out 0; have hfz30_1 := blk_frozen BK249.out 1; have hfz30_2 := blk_frozen BK249.out 2; have hfz30_3 := blk_frozen BK249.out 3; have hfz30_4 := blk_frozen BK249.out 4; have hfz30_5 := blk_frozen BK249.out 5) | ((with_reducible refine only_callee (f := 46) rfl ?_); refine goesL_ (some 11) rfl rfl Tryd.func46 (by kernel_rfl) rfl #[.agg #[.int .i64 t251, .int .i64 t252, .int .u64 t253, .int .u64 t254, .int .u64 t255, .string t256]] rfl (by (try simp only [List.map_toArray, List.map_cons, List.map_nil]); first | done | rfl | (simp only [List.length_drop, List.length_take]; rfl)) ?_; (with_reducible refine (spec_GoodTerm.calls k t251 t252 t253 t254 t255 t256 true _ A5.out).mono ?_); rintro e w31 ⟨rfl, hb⟩; refine ⟨_, rfl, ?_⟩; have n0_ := Aside0.mk (blk_below (g := gb249) (o := .cells #[.int .i64 t251, .int .i64 t252, .int .u64 t253, .int .u64 t254, .int .u64 t255, .string t256] 36 (0, 0)) (by (with_reducible repeat (first | refine blk_drewN ?_ _ | refine blk_drew ?_ | refine blk_alloc ?_ _)); refine blk_put (cs := #[.int .i64 t251, .int .i64 t252, .int .u64 t253, .int .u64 t254, .int .u64 t255, .string a0_5]) ?_ 5 _ rfl; (with_reducible repeat (first | refine blk_drewN ?_ _ | refine blk_drew ?_ | refine blk_alloc ?_ _)); refine blk_put (cs := #[.int .i64 t251, .int .i64 t252, .int .u64 t253, .int .u64 t254, .int .u64 a0_4, .string a0_5]) ?_ 4 _ rfl; (with_reducible repeat (first | refine blk_drewN ?_ _ | refine blk_drew ?_ | refine blk_alloc ?_ _)); refine blk_put (cs := #[.int .i64 t251, .int .i64 t252, .int .u64 t253, .int .u64 a0_3, .int .u64 a0_4, .string a0_5]) ?_ 3 _ rfl; (with_reducible repeat (first | refine blk_drewN ?_ _ | refine blk_drew ?_ | refine blk_alloc ?_ _)); refine blk_put (cs := #[.int .i64 t251, .int .i64 t252, .int .u64 a0_2, .int .u64 a0_3, .int .u64 a0_4, .string a0_5]) ?_ 2 _ rfl; (with_reducible repeat (first | refine blk_drewN ?_ _ | refine blk_drew ?_ | refine blk_alloc ?_ _)); refine blk_put (cs := #[.int .i64 t251, .int .i64 a0_1, .int .u64 a0_2, .int .u64 a0_3, .int .u64 a0_4, .string a0_5]) ?_ 1 _ rfl; (with_reducible repeat (first | refine blk_drewN ?_ _ | refine blk_drew ?_ | refine blk_alloc ?_ _)); refine blk_put (cs := #[.int .i64 a0_0, .int .i64 a0_1, .int .u64 a0_2, .int .u64 a0_3, .int .u64 a0_4, .string a0_5]) ?_ 0 _ rfl; (with_reducible repeat (first | refine blk_drewN ?_ _ | refine blk_drew ?_ | refine blk_alloc ?_ _)); exact BK249.out) hb); have n1_ := Aside0.mk (blk_below (g := gb250) (o := .cells #[.int .u64 a2_0, .int .u64 a2_1, .int .u64 a2_2, .string a2_3, .string a2_4] 24 (0, 0)) (by (with_reducible repeat (first | refine blk_drewN ?_ _ | refine blk_drew ?_ | refine blk_alloc ?_ _)); refine blk_far ?_ NB250_249.out _; (with_reducible repeat (first | refine blk_drewN ?_ _ | refine blk_drew ?_ | refine blk_alloc ?_ _)); refine blk_far ?_ NB250_249.out _; (with_reducible repeat (first | refine blk_drewN ?_ _ | refine blk_drew ?_ | refine blk_alloc ?_ _)); refine blk_far ?_ NB250_249.out _; (with_reducible repeat (first | refine blk_drewN ?_ _ | refine blk_drew ?_ | refine blk_alloc ?_ _)); refine blk_far ?_ NB250_249.out _; (with_reducible repeat (first | refine blk_drewN ?_ _ | refine blk_drew ?_ | refine blk_alloc ?_ _)); refine blk_far ?_ NB250_249.out _; (with_reducible repeat (first | refine blk_drewN ?_ _ | refine blk_drew ?_ | refine blk_alloc ?_ _)); refine blk_far ?_ NB250_249.out _; (with_reducible repeat (first | refine blk_drewN ?_ _ | refine blk_drew ?_ | refine blk_alloc ?_ _)); exact BK250.out) hb); have n2_ := Aside0.mk (below_step (by repeat (first | (with_reducible first | exact HB.out | apply below_alloc | apply pw_below_drewN | apply below_drew1 | refine below_set ?_ GE249.out | refine below_set ?_ GE250.out) | exact HB.out)) hb); clear BK249; clear BK250; clear HB; have BK249 := n0_; have BK250 := n1_; have HB := n2_; clear n0_ n1_ n2_; (try clear hb); (try clear hb2); (try clear hk); (try clear hi); have hcz32_0 : w31.cell? ⟨gb250, 0, none⟩ = some (.int .u64 a2_0) := (blk_cell BK250.out 0).trans rfl; have hcz32_1 : w31.cell? ⟨gb250, 1, none⟩ = some (.int .u64 a2_1) := (blk_cell BK250.out 1).trans rfl; have hcz32_2 : w31.cell? ⟨gb250, 2, none⟩ = some (.int .u64 a2_2) := (blk_cell BK250.out 2).trans rfl; have hcz32_3 : w31.cell? ⟨gb250, 3, none⟩ = some (.string a2_3) := (blk_cell BK250.out 3).trans rfl; have hcz32_4 : w31.cell? ⟨gb250, 4, none⟩ = some (.string a2_4) := (blk_cell BK250.out 4).trans rfl; have hfz32_0 := blk_frozen BK250.out 0; have hfz32_1 := blk_frozen BK250.out 1; have hfz32_2 := blk_frozen BK250.out 2; have hfz32_3 := blk_frozen BK250.out 3; have hfz32_4 := blk_frozen BK250.out 4) | ((with_reducible refine gate_dst (N := 14) rfl ?_); (try (refine gate_guard (by rfl) ?_; dsimp only)); refine Kd.R_lit k24 _ 24 ?hg (N := 14) ?hd (xs := ([(⟨a2_0, a2_1, a2_2, a2_3, a2_4⟩ : S24)] : List (S24))) (inner := [.int .u64 a2_0, .int .u64 a2_1, .int .u64 a2_2, .string a2_3, .string a2_4]) (ok := fun _ => True) (okp := fun _ => True) ?hr ?hp (fun _ hk => hk) trivial (Below.refl _ _) (Nat.le_refl _) (by simp) ?_; (case hd => rfl); (case hg => rfl); (case hr => first | (go_simp; done) | (go_simp; rfl)); (case hp => exact (Reps.c5 (show Kd.M k24 _ _ _ (⟨a2_0, a2_1, a2_2, a2_3, a2_4⟩ : S24) [.int .u64 a2_0, .int .u64 a2_1, .int .u64 a2_2, .string a2_3, .string a2_4] from (k24_mkM _ _ _ (⟨a2_0, a2_1, a2_2, a2_3, a2_4⟩ : S24) )) (Reps.none _ _))); intro v259 w33 ho34 hb hg_ hnew_; clear hg_ hnew_; (first | rw [← Ny258.out] at ho34 | (simp only [Int.reduceToNat] at ho34; rw [← Ny258.out] at ho34)); have n0_ := Aside0.mk (Kd.R_lower (Kd.R_newB ho34 (g := gb250) (o := .cells #[.int .u64 a2_0, .int .u64 a2_1, .int .u64 a2_2, .string a2_3, .string a2_4] 24 (0, 0)) (by (with_reducible repeat (first | refine blk_drewN ?_ _ | refine blk_drew ?_ | refine blk_alloc ?_ _)); exact BK250.out)) (below_size (by repeat (first | (with_reducible first | exact HB.out | apply below_alloc | apply pw_below_drewN | apply below_drew1 | refine below_set ?_ GE249.out | refine below_set ?_ GE250.out) | exact HB.out)))); have n1_ := Aside0.mk (blk_below (g := gb249) (o := .cells #[.int .i64 t251, .int .i64 t252, .int .u64 t253, .int .u64 t254, .int .u64 t255, .string t256] 36 (0, 0)) (by (with_reducible repeat (first | refine blk_drewN ?_ _ | refine blk_drew ?_ | refine blk_alloc ?_ _)); exact BK249.out) hb); have n2_ := Aside0.mk (blk_below (g := gb250) (o := .cells #[.int .u64 a2_0, .int .u64 a2_1, .int .u64 a2_2, .string a2_3, .string a2_4] 24 (0, 0)) (by (with_reducible repeat (first | refine blk_drewN ?_ _ | refine blk_drew ?_ | refine blk_alloc ?_ _)); exact BK250.out) hb); have n3_ := Aside0.mk (below_step (by repeat (first | (with_reducible first | exact HB.out | apply below_alloc | apply pw_below_drewN | apply below_drew1 | refine below_set ?_ GE249.out | refine below_set ?_ GE250.out) | exact HB.out)) hb); clear BK249; clear BK250; clear HB; have HO260 := n0_; have BK249 := n1_; have BK250 := n2_; have HB := n3_; clear n0_ n1_ n2_ n3_; clear hb ho34; obtain ⟨Ao35, co35, eo35⟩ := Kd.R_slice HO260.out; subst eo35) | (go_at_call 18; (with_reducible refine (laws_svGood.calls k _ _ y258 false _ ?side1 ?side2 A7.out).mono ?_); (case side1 => repeat (first | exact (Kd.R_reads' HO260.out).2.2 | (with_reducible refine Kd.C_alloc ?_ _) | (with_reducible refine Kd.C_drewN ?_ _) | (with_reducible refine Kd.C_drew ?_))); (case side2 => exact (Kd.R_reads' HO260.out).2.1); rintro e w36 ⟨rfl, hb⟩; have n0_ := Aside0.mk (Kd.R_below (by (with_reducible repeat (first | apply Kd.R_alloc | apply Kd.R_drewN | apply Kd.R_drew)); exact HO260.out) hb); have n1_ := Aside0.mk (blk_below (g := gb249) (o := .cells #[.int .i64 t251, .int .i64 t252, .int .u64 t253, .int .u64 t254, .int .u64 t255, .string t256] 36 (0, 0)) (by (with_reducible repeat (first | refine blk_drewN ?_ _ | refine blk_drew ?_ | refine blk_alloc ?_ _)); exact BK249.out) hb); have n2_ := Aside0.mk (blk_below (g := gb250) (o := .cells #[.int .u64 a2_0, .int .u64 a2_1, .int .u64 a2_2, .string a2_3, .string a2_4] 24 (0, 0)) (by (with_reducible repeat (first | refine blk_drewN ?_ _ | refine blk_drew ?_ | refine blk_alloc ?_ _)); exact BK250.out) hb); have n3_ := Aside0.mk (below_step (by repeat (first | (with_reducible first | exact HB.out | apply below_alloc | apply pw_below_drewN | apply below_drew1 | refine below_set ?_ GE249.out | refine below_set ?_ GE250.out) | exact HB.out)) hb); clear HO260; clear BK249; clear BK250; clear HB; have HO260 := n0_; have BK249 := n1_; have BK250 := n2_; have HB := n3_; clear n0_ n1_ n2_ n3_; (try clear hb); (try clear hb2); (try clear hk); (try clear hi)))
      go_ret
      exact ⟨by first | rfl | (simp [errW_none, errW_some] <;> rfl) | (simp [*, errW_none, errW_some] <;> rfl), by repeat (first | (with_reducible first | exact HB.out | apply below_alloc | apply pw_below_drewN | apply below_drew1 | refine below_set ?_ GE249.out | refine below_set ?_ GE250.out) | exact HB.out)⟩
  · replace c6 := Bool.eq_false_iff.mpr c6
    subst c6
    have H1 : (some false) = some r := by rw [if_neg (show ¬ (false = true) by decide)] at H; exact H
    clear H
    have H := H1
    clear H1
    obtain rfl := Option.some.inj H
    go_enter Tryd.func34, Tryd.ntmps34
    go_wp2_with (first | ((with_reducible refine gate_dst (N := 3) rfl ?_); (try (refine gate_guard (by rfl) ?_; dsimp only)); refine box_event ?hg (N := 3) ?hd (cs := #[.int .i64 a0_0, .int .i64 a0_1, .int .u64 a0_2, .int .u64 a0_3, .int .u64 a0_4, .string a0_5]) (t := 36) ?hr ?_; (case hd => rfl); (case hg => rfl); (case hr => first | (go_simp; done) | (go_simp; rfl)); intro gb249 hg w37 hbox hb; have n0_ := Aside0.mk (below_step (by repeat (first | (with_reducible first | exact HB.out | apply below_alloc | apply pw_below_drewN | apply below_drew1) | exact HB.out)) hb); have n1_ := Aside0.mk (hbox); have n2_ := Aside0.mk ((by rw [hg]; exact (below_size (by repeat (first | (with_reducible first | exact HB.out | apply below_alloc | apply pw_below_drewN | apply below_drew1) | exact HB.out))) : w.heap.size ≤ gb249)); have n3_ := Aside0.mk ((by rw [hg]; exact (below_size (by repeat (first | (with_reducible first | exact HB.out | apply below_alloc | apply pw_below_drewN | apply below_drew1) | exact HB.out))) : w.heap.size ≤ gb249)); clear HB; have HB := n0_; have BK249 := n1_; have GW249 := n2_; have GE249 := n3_; clear n0_ n1_ n2_ n3_; clear hb hbox hg) | ((with_reducible refine gate_dst (N := 5) rfl ?_); (try (refine gate_guard (by rfl) ?_; dsimp only)); refine box_event ?hg (N := 5) ?hd (cs := #[.int .u64 a2_0, .int .u64 a2_1, .int .u64 a2_2, .string a2_3, .string a2_4]) (t := 24) ?hr ?_; (case hd => rfl); (case hg => rfl); (case hr => first | (go_simp; done) | (go_simp; rfl)); intro gb250 hg w38 hbox hb; have n0_ := Aside0.mk (blk_below (g := gb249) (o := .cells #[.int .i64 a0_0, .int .i64 a0_1, .int .u64 a0_2, .int .u64 a0_3, .int .u64 a0_4, .string a0_5] 36 (0, 0)) (by (with_reducible repeat (first | refine blk_drewN ?_ _ | refine blk_drew ?_ | refine blk_alloc ?_ _)); exact BK249.out) hb); have n1_ := Aside0.mk (below_step (by repeat (first | (with_reducible first | exact HB.out | apply below_alloc | apply pw_below_drewN | apply below_drew1 | refine below_set ?_ GE249.out) | exact HB.out)) hb); have n2_ := Aside0.mk (hbox); have n3_ := Aside0.mk ((by rw [hg]; exact (below_size (by repeat (first | (with_reducible first | exact HB.out | apply below_alloc | apply pw_below_drewN | apply below_drew1 | refine below_set ?_ GE249.out) | exact HB.out))) : w.heap.size ≤ gb250)); have n4_ := Aside0.mk ((by rw [hg]; exact (below_size (by repeat (first | (with_reducible first | exact HB.out | apply below_alloc | apply pw_below_drewN | apply below_drew1 | refine below_set ?_ GE249.out) | exact HB.out))) : w.heap.size ≤ gb250)); have n5_ := Aside0.mk ((by rw [hg]; exact Nat.ne_of_lt (blk_lt (g := gb249) (o := .cells #[.int .i64 a0_0, .int .i64 a0_1, .int .u64 a0_2, .int .u64 a0_3, .int .u64 a0_4, .string a0_5] 36 (0, 0)) (by (with_reducible repeat (first | refine blk_drewN ?_ _ | refine blk_drew ?_ | refine blk_alloc ?_ _)); exact BK249.out)) : gb249 ≠ gb250)); have n6_ := Aside0.mk ((by rw [hg]; exact Nat.ne_of_gt (blk_lt (g := gb249) (o := .cells #[.int .i64 a0_0, .int .i64 a0_1, .int .u64 a0_2, .int .u64 a0_3, .int .u64 a0_4, .string a0_5] 36 (0, 0)) (by (with_reducible repeat (first | refine blk_drewN ?_ _ | refine blk_drew ?_ | refine blk_alloc ?_ _)); exact BK249.out)) : gb250 ≠ gb249)); clear BK249; clear HB; have BK249 := n0_; have HB := n1_; have BK250 := n2_; have GW250 := n3_; have GE250 := n4_; have NB249_250 := n5_; have NB250_249 := n6_; clear n0_ n1_ n2_ n3_ n4_ n5_ n6_; clear hb hbox hg; have hnb39 := NB249_250.out; have hnc39 := NB250_249.out; have hcz40_0 : w38.cell? ⟨gb249, 0, none⟩ = some (.int .i64 a0_0) := (blk_cell BK249.out 0).trans rfl; have hcz40_1 : w38.cell? ⟨gb249, 1, none⟩ = some (.int .i64 a0_1) := (blk_cell BK249.out 1).trans rfl; have hcz40_2 : w38.cell? ⟨gb249, 2, none⟩ = some (.int .u64 a0_2) := (blk_cell BK249.out 2).trans rfl; have hcz40_3 : w38.cell? ⟨gb249, 3, none⟩ = some (.int .u64 a0_3) := (blk_cell BK249.out 3).trans rfl; have hcz40_4 : w38.cell? ⟨gb249, 4, none⟩ = some (.int .u64 a0_4) := (blk_cell BK249.out 4).trans rfl; have hcz40_5 : w38.cell? ⟨gb249, 5, none⟩ = some (.string a0_5) := (blk_cell BK249.out 5).trans rfl; have hfz40_0 := blk_frozen BK249.out 0; have hfz40_1 := blk_frozen BK249.out 1; have hfz40_2 := blk_frozen BK249.out 2; have hfz40_3 := blk_frozen BK249.out 3; have hfz40_4 := blk_frozen BK249.out 4; have hfz40_5 := blk_frozen BK249.out 5) | ((with_reducible refine only_callee (f := 82) rfl ?_); refine goesL_ (some 9) rfl rfl Tryd.func82 (by kernel_rfl) rfl #[.agg #[.int .i64 a0_0, .int .i64 a0_1, .int .u64 a0_2, .int .u64 a0_3, .int .u64 a0_4, .string a0_5], .int .i64 a1] rfl (by (try simp only [List.map_toArray, List.map_cons, List.map_nil]); first | done | rfl | (simp only [List.length_drop, List.length_take]; rfl)) ?_; (with_reducible refine (laws_snAs.calls a0_0 a0_1 a0_2 a0_3 a0_4 a0_5 a1 t251 t252 t253 t254 t255 t256 _ A4.out).mono ?_); rintro e w41 ⟨rfl, hb⟩; refine ⟨_, rfl, ?_⟩; have n0_ := Aside0.mk (blk_below (g := gb249) (o := .cells #[.int .i64 a0_0, .int .i64 a0_1, .int .u64 a0_2, .int .u64 a0_3, .int .u64 a0_4, .string a0_5] 36 (0, 0)) (by (with_reducible repeat (first | refine blk_drewN ?_ _ | refine blk_drew ?_ | refine blk_alloc ?_ _)); exact BK249.out) hb); have n1_ := Aside0.mk (blk_below (g := gb250) (o := .cells #[.int .u64 a2_0, .int .u64 a2_1, .int .u64 a2_2, .string a2_3, .string a2_4] 24 (0, 0)) (by (with_reducible repeat (first | refine blk_drewN ?_ _ | refine blk_drew ?_ | refine blk_alloc ?_ _)); exact BK250.out) hb); have n2_ := Aside0.mk (below_step (by repeat (first | (with_reducible first | exact HB.out | apply below_alloc | apply pw_below_drewN | apply below_drew1 | refine below_set ?_ GE249.out | refine below_set ?_ GE250.out) | exact HB.out)) hb); clear BK249; clear BK250; clear HB; have BK249 := n0_; have BK250 := n1_; have HB := n2_; clear n0_ n1_ n2_; (try clear hb); (try clear hb2); (try clear hk); (try clear hi); have hcz42_0 : w41.cell? ⟨gb249, 0, none⟩ = some (.int .i64 a0_0) := (blk_cell BK249.out 0).trans rfl; have hcz42_1 : w41.cell? ⟨gb249, 1, none⟩ = some (.int .i64 a0_1) := (blk_cell BK249.out 1).trans rfl; have hcz42_2 : w41.cell? ⟨gb249, 2, none⟩ = some (.int .u64 a0_2) := (blk_cell BK249.out 2).trans rfl; have hcz42_3 : w41.cell? ⟨gb249, 3, none⟩ = some (.int .u64 a0_3) := (blk_cell BK249.out 3).trans rfl; have hcz42_4 : w41.cell? ⟨gb249, 4, none⟩ = some (.int .u64 a0_4) := (blk_cell BK249.out 4).trans rfl; have hcz42_5 : w41.cell? ⟨gb249, 5, none⟩ = some (.string a0_5) := (blk_cell BK249.out 5).trans rfl; have hfz42_0 := blk_frozen BK249.out 0; have hfz42_1 := blk_frozen BK249.out 1; have hfz42_2 := blk_frozen BK249.out 2; have hfz42_3 := blk_frozen BK249.out 3; have hfz42_4 := blk_frozen BK249.out 4; have hfz42_5 := blk_frozen BK249.out 5) | ((with_reducible refine only_callee (f := 46) rfl ?_); refine goesL_ (some 11) rfl rfl Tryd.func46 (by kernel_rfl) rfl #[.agg #[.int .i64 t251, .int .i64 t252, .int .u64 t253, .int .u64 t254, .int .u64 t255, .string t256]] rfl (by (try simp only [List.map_toArray, List.map_cons, List.map_nil]); first | done | rfl | (simp only [List.length_drop, List.length_take]; rfl)) ?_; (with_reducible refine (spec_GoodTerm.calls k t251 t252 t253 t254 t255 t256 false _ A5.out).mono ?_); rintro e w43 ⟨rfl, hb⟩; refine ⟨_, rfl, ?_⟩; have n0_ := Aside0.mk (blk_below (g := gb249) (o := .cells #[.int .i64 t251, .int .i64 t252, .int .u64 t253, .int .u64 t254, .int .u64 t255, .string t256] 36 (0, 0)) (by (with_reducible repeat (first | refine blk_drewN ?_ _ | refine blk_drew ?_ | refine blk_alloc ?_ _)); refine blk_put (cs := #[.int .i64 t251, .int .i64 t252, .int .u64 t253, .int .u64 t254, .int .u64 t255, .string a0_5]) ?_ 5 _ rfl; (with_reducible repeat (first | refine blk_drewN ?_ _ | refine blk_drew ?_ | refine blk_alloc ?_ _)); refine blk_put (cs := #[.int .i64 t251, .int .i64 t252, .int .u64 t253, .int .u64 t254, .int .u64 a0_4, .string a0_5]) ?_ 4 _ rfl; (with_reducible repeat (first | refine blk_drewN ?_ _ | refine blk_drew ?_ | refine blk_alloc ?_ _)); refine blk_put (cs := #[.int .i64 t251, .int .i64 t252, .int .u64 t253, .int .u64 a0_3, .int .u64 a0_4, .string a0_5]) ?_ 3 _ rfl; (with_reducible repeat (first | refine blk_drewN ?_ _ | refine blk_drew ?_ | refine blk_alloc ?_ _)); refine blk_put (cs := #[.int .i64 t251, .int .i64 t252, .int .u64 a0_2, .int .u64 a0_3, .int .u64 a0_4, .string a0_5]) ?_ 2 _ rfl; (with_reducible repeat (first | refine blk_drewN ?_ _ | refine blk_drew ?_ | refine blk_alloc ?_ _)); refine blk_put (cs := #[.int .i64 t251, .int .i64 a0_1, .int .u64 a0_2, .int .u64 a0_3, .int .u64 a0_4, .string a0_5]) ?_ 1 _ rfl; (with_reducible repeat (first | refine blk_drewN ?_ _ | refine blk_drew ?_ | refine blk_alloc ?_ _)); refine blk_put (cs := #[.int .i64 a0_0, .int .i64 a0_1, .int .u64 a0_2, .int .u64 a0_3, .int .u64 a0_4, .string a0_5]) ?_ 0 _ rfl; (with_reducible repeat (first | refine blk_drewN ?_ _ | refine blk_drew ?_ | refine blk_alloc ?_ _)); exact BK249.out) hb); have n1_ := Aside0.mk (blk_below (g := gb250) (o := .cells #[.int .u64 a2_0, .int .u64 a2_1, .int .u64 a2_2, .string a2_3, .string a2_4] 24 (0, 0)) (by (with_reducible repeat (first | refine blk_drewN ?_ _ | refine blk_drew ?_ | refine blk_alloc ?_ _)); refine blk_far ?_ NB250_249.out _; (with_reducible repeat (first | refine blk_drewN ?_ _ | refine blk_drew ?_ | refine blk_alloc ?_ _)); refine blk_far ?_ NB250_249.out _; (with_reducible repeat (first | refine blk_drewN ?_ _ | refine blk_drew ?_ | refine blk_alloc ?_ _)); refine blk_far ?_ NB250_249.out _; (with_reducible repeat (first | refine blk_drewN ?_ _ | refine blk_drew ?_ | refine blk_alloc ?_ _)); refine blk_far ?_ NB250_249.out _; (with_reducible repeat (first | refine blk_drewN ?_ _ | refine blk_drew ?_ | refine blk_alloc ?_ _)); refine blk_far ?_ NB250_249.out _; (with_reducible repeat (first | refine blk_drewN ?_ _ | refine blk_drew ?_ | refine blk_alloc ?_ _)); refine blk_far ?_ NB250_249.out _; (with_reducible repeat (first | refine blk_drewN ?_ _ | refine blk_drew ?_ | refine blk_alloc ?_ _)); exact BK250.out) hb); have n2_ := Aside0.mk (below_step (by repeat (first | (with_reducible first | exact HB.out | apply below_alloc | apply pw_below_drewN | apply below_drew1 | refine below_set ?_ GE249.out | refine below_set ?_ GE250.out) | exact HB.out)) hb); clear BK249; clear BK250; clear HB; have BK249 := n0_; have BK250 := n1_; have HB := n2_; clear n0_ n1_ n2_; (try clear hb); (try clear hb2); (try clear hk); (try clear hi)))
    go_ret
    exact ⟨by first | rfl | (simp [errW_none, errW_some] <;> rfl) | (simp [*, errW_none, errW_some] <;> rfl), by repeat (first | (with_reducible first | exact HB.out | apply below_alloc | apply pw_below_drewN | apply below_drew1 | refine below_set ?_ GE249.out | refine below_set ?_ GE250.out) | exact HB.out)⟩

end Go.Proofs.YtlooelfkkbgmhaaDoor.QS

namespace Go.Proofs.YtlooelfkkbgmhaaDoor.QS
open Go.RowKit Go.Proofs.YtlooelfkkbgmhaaDoorW.PrintWords Go.Proofs.YtlooelfkkbgmhaaDoorW.PrintLast
set_option linter.unusedVariables false
set_option linter.unusedSimpArgs false

/-! ### laws_snWant: function 36 -/
def laws_snWant.f (k : Nat) (a0_0 : Int) (a0_1 : Int) (a0_2 : Int) (a0_3 : Int) (a0_4 : Int) (a0_5 : ByteArray) (a1 : Int) (a2_0 : Int) (a2_1 : Int) (a2_2 : Int) (a2_3 : ByteArray) (a2_4 : ByteArray) (a3 : Bool) : Option (Bool) := if a3 = true then ((laws_snAs.f a0_0 a0_1 a0_2 a0_3 a0_4 a0_5 a1).bind fun bt306 => ((spec_Compares.f k bt306.1 bt306.2.1 bt306.2.2.1 bt306.2.2.2.1 bt306.2.2.2.2.1 bt306.2.2.2.2.2 a2_0 a2_1 a2_2 a2_3 a2_4).bind fun t312 => (some t312))) else (if a2_3.toList = ([] : List UInt8) then ((laws_snAs.f a0_0 a0_1 a0_2 a0_3 a0_4 a0_5 a1).bind fun bt313 => ((spec_Compares.f k bt313.1 bt313.2.1 bt313.2.2.1 bt313.2.2.2.1 bt313.2.2.2.2.1 bt313.2.2.2.2.2 a2_0 a2_1 a2_2 a2_3 a2_4).bind fun t319 => (some t319))) else (some false))
theorem laws_snWant.mono : ∀ a0 a1 a2 a3 a4 a5 a6 a7 a8 a9 a10 a11 a12 k, LeO (laws_snWant.f k a0 a1 a2 a3 a4 a5 a6 a7 a8 a9 a10 a11 a12) (laws_snWant.f (k + 1) a0 a1 a2 a3 a4 a5 a6 a7 a8 a9 a10 a11 a12) := by
  intro a0 a1 a2 a3 a4 a5 a6 a7 a8 a9 a10 a11 a12 k
  unfold laws_snWant.f
  repeat' first
      | (with_reducible exact spec_Compares.mono _ _ _ _ _ _ _ _ _ _ _ _)
      | (with_reducible exact LeO.refl _)
      | (with_reducible exact LeO.none _)
      | (with_reducible refine LeO.ite ?_ ?_)
      | (with_reducible refine LeO.bind ?_ (fun _ => ?_))
      | exact spec_Compares.mono _ _ _ _ _ _ _ _ _ _ _ _
      | exact LeO.none _
      | refine LeO.ite ?_ ?_
      | refine LeO.bind ?_ (fun _ => ?_)
def laws_snWant.T1 : Bool × List (List Nat × List Nat) := (true, [([], []), ([0], [0]), ([1], [1]), ([2, 1], [1, 2]), ([3, 1], [1, 3]), ([1, 4], [1, 4]), ([5, 1], [5]), ([6], [6]), ([6], [6]), ([7, 8, 6, 6], [6, 7, 8]), ([6], [6]), ([9, 10, 9, 6], [6, 9, 10]), ([6, 11], [6, 11]), ([12, 11, 0, 1, 2, 3, 4, 5, 6, 7, 8, 9, 10, 11, 12], [12])])
def laws_snWant.B1 : List Nat := [0, 1, 3, 7, 15, 31, 63, 127, 127, 511, 127, 2047, 4095, 8191]
theorem laws_snWant.tab1 : rtab .any (opsOf Tryd.f36 1) = laws_snWant.T1 := by kernel_rfl
theorem laws_snWant.bits1 : waitsOk laws_snWant.T1.2 laws_snWant.B1 = true := by kernel_rfl
set_option maxHeartbeats 8000000 in
set_option maxRecDepth 100000 in
theorem laws_snWant.calls (k : Nat) (a0_0 : Int) (a0_1 : Int) (a0_2 : Int) (a0_3 : Int) (a0_4 : Int) (a0_5 : ByteArray) (a1 : Int) (a2_0 : Int) (a2_1 : Int) (a2_2 : Int) (a2_3 : ByteArray) (a2_4 : ByteArray) (a3 : Bool) (r : Bool) (w : World) (h : laws_snWant.f k a0_0 a0_1 a0_2 a0_3 a0_4 a0_5 a1 a2_0 a2_1 a2_2 a2_3 a2_4 a3 = some r) :
    Calls Tryd.prog 36 #[.agg #[.int .i64 a0_0, .int .i64 a0_1, .int .u64 a0_2, .int .u64 a0_3, .int .u64 a0_4, .string a0_5], .int .i64 a1, .agg #[.int .u64 a2_0, .int .u64 a2_1, .int .u64 a2_2, .string a2_3, .string a2_4], .bool a3] w fun e w' => e = .returned (.bool r) ∧ Below w.heap.size w w' := by
  have hu36 := Tryd.underlying36
  have hu24 := Tryd.underlying24
  have HB := Aside0.mk (Below.refl w.heap.size w)
  have H : (if a3 = true then ((laws_snAs.f a0_0 a0_1 a0_2 a0_3 a0_4 a0_5 a1).bind fun bt306 => ((spec_Compares.f k bt306.1 bt306.2.1 bt306.2.2.1 bt306.2.2.2.1 bt306.2.2.2.2.1 bt306.2.2.2.2.2 a2_0 a2_1 a2_2 a2_3 a2_4).bind fun t312 => (some t312))) else (if a2_3.toList = ([] : List UInt8) then ((laws_snAs.f a0_0 a0_1 a0_2 a0_3 a0_4 a0_5 a1).bind fun bt313 => ((spec_Compares.f k bt313.1 bt313.2.1 bt313.2.2.1 bt313.2.2.2.1 bt313.2.2.2.2.1 bt313.2.2.2.2.2 a2_0 a2_1 a2_2 a2_3 a2_4).bind fun t319 => (some t319))) else (some false))) = some r := h
  clear h
  by_cases c5 : a3 = true
  · subst c5
    have H1 : ((laws_snAs.f a0_0 a0_1 a0_2 a0_3 a0_4 a0_5 a1).bind fun bt306 => ((spec_Compares.f k bt306.1 bt306.2.1 bt306.2.2.1 bt306.2.2.2.1 bt306.2.2.2.2.1 bt306.2.2.2.2.2 a2_0 a2_1 a2_2 a2_3 a2_4).bind fun t312 => (some t312))) = some r := by rw [if_pos rfl] at H; exact H
    clear H
    have H := H1
    clear H1
    replace H := Option.bind_eq_some_iff.mp H
    obtain ⟨⟨t306, t307, t308, t309, t310, t311⟩, A60, H⟩ := H
    replace H : ((spec_Compares.f k t306 t307 t308 t309 t310 t311 a2_0 a2_1 a2_2 a2_3 a2_4).bind fun t312 => (some t312)) = some r := H
    have A6 := Aside0.mk A60
    clear A60
    replace H := Option.bind_eq_some_iff.mp H
    obtain ⟨t312, A70, H⟩ := H
    replace H : (some t312) = some r := H
    have A7 := Aside0.mk A70
    clear A70
    obtain rfl := Option.some.inj H
    go_enter Tryd.func36, Tryd.ntmps36
    try go_wp2_with (first | ((with_reducible refine gate_dst (N := 4) rfl ?_); refine box_event ?hg (N := 4) ?hd (cs := #[.int .i64 a0_0, .int .i64 a0_1, .int .u64 a0_2, .int .u64 a0_3, .int .u64 a0_4, .string a0_5]) (t := 36) ?hr ?_; (case hd => rfl); (case hg => rfl); (case hr => first | (go_simp; done) | (go_simp; rfl)); intro gb304 hg w8 hbox hb; have n0_ := Aside0.mk (below_step (by repeat (first | (with_reducible first | exact HB.out | apply below_alloc | apply pw_below_drewN | apply below_drew1) | exact HB.out)) hb); have n1_ := Aside0.mk (hbox); have n2_ := Aside0.mk ((by rw [hg]; exact (below_size (by repeat (first | (with_reducible first | exact HB.out | apply below_alloc | apply pw_below_drewN | apply below_drew1) | exact HB.out))) : w.heap.size ≤ gb304)); have n3_ := Aside0.mk ((by rw [hg]; exact (below_size (by repeat (first | (with_reducible first | exact HB.out | apply below_alloc | apply pw_below_drewN | apply below_drew1) | exact HB.out))) : w.heap.size ≤ gb304)); clear HB; have HB := n0_; have BK304 := n1_; have GW304 := n2_; have GE304 := n3_; clear n0_ n1_ n2_ n3_; clear hb hbox hg) | ((with_reducible refine gate_dst (N := 6) rfl ?_); refine box_event ?hg (N := 6) ?hd (cs := #[.int .u64 a2_0, .int .u64 a2_1, .int .u64 a2_2, .string a2_3, .string a2_4]) (t := 24) ?hr ?_; (case hd => rfl); (case hg => rfl); (case hr => first | (go_simp; done) | (go_simp; rfl)); intro gb305 hg w9 hbox hb; have n0_ := Aside0.mk (blk_below (g := gb304) (o := .cells #[.int .i64 a0_0, .int .i64 a0_1, .int .u64 a0_2, .int .u64 a0_3, .int .u64 a0_4, .string a0_5] 36 (0, 0)) (by (with_reducible repeat (first | refine blk_drewN ?_ _ | refine blk_drew ?_ | refine blk_alloc ?_ _)); exact BK304.out) hb); have n1_ := Aside0.mk (below_step (by repeat (first | (with_reducible first | exact HB.out | apply below_alloc | apply pw_below_drewN | apply below_drew1 | refine below_set ?_ GE304.out) | exact HB.out)) hb); have n2_ := Aside0.mk (hbox); have n3_ := Aside0.mk ((by rw [hg]; exact (below_size (by repeat (first | (with_reducible first | exact HB.out | apply below_alloc | apply pw_below_drewN | apply below_drew1 | refine below_set ?_ GE304.out) | exact HB.out))) : w.heap.size ≤ gb305)); have n4_ := Aside0.mk ((by rw [hg]; exact (below_size (by repeat (first | (with_reducible first | exact HB.out | apply below_alloc | apply pw_below_drewN | apply below_drew1 | refine below_set ?_ GE304.out) | exact HB.out))) : w.heap.size ≤ gb305)); have n5_ := Aside0.mk ((by rw [hg]; exact Nat.ne_of_lt (blk_lt (g := gb304) (o := .cells #[.int .i64 a0_0, .int .i64 a0_1, .int .u64 a0_2, .int .u64 a0_3, .int .u64 a0_4, .string a0_5] 36 (0, 0)) (by (with_reducible repeat (first | refine blk_drewN ?_ _ | refine blk_drew ?_ | refine blk_alloc ?_ _)); exact BK304.out)) : gb304 ≠ gb305)); have n6_ := Aside0.mk ((by rw [hg]; exact Nat.ne_of_gt (blk_lt (g := gb304) (o := .cells #[.int .i64 a0_0, .int .i64 a0_1, .int .u64 a0_2, .int .u64 a0_3, .int .u64 a0_4, .string a0_5] 36 (0, 0)) (by (with_reducible repeat (first | refine blk_drewN ?_ _ | refine blk_drew ?_ | refine blk_alloc ?_ _)); exact BK304.out)) : gb305 ≠ gb304)); clear BK304; clear HB; have BK304 := n0_; have HB := n1_; have BK305 := n2_; have GW305 := n3_; have GE305 := n4_; have NB304_305 := n5_; have NB305_304 := n6_; clear n0_ n1_ n2_ n3_ n4_ n5_ n6_; clear hb hbox hg))
    have n0_ := Aside0.mk (blk_drew BK304.out)
    have n1_ := Aside0.mk (blk_drew BK305.out)
    have n2_ := Aside0.mk (below_drew1 HB.out)
    clear BK304
    clear BK305
    clear HB
    have BK304 := n0_
    have BK305 := n1_
    have HB := n2_
    clear n0_ n1_ n2_
    refine start_ (n := 14) (S := fun w' => w'.cell? ⟨gb304, 0, none⟩ = some (.int .i64 a0_0) ∧ w'.cell? ⟨gb304, 1, none⟩ = some (.int .i64 a0_1) ∧ w'.cell? ⟨gb304, 2, none⟩ = some (.int .u64 a0_2) ∧ w'.cell? ⟨gb304, 3, none⟩ = some (.int .u64 a0_3) ∧ w'.cell? ⟨gb304, 4, none⟩ = some (.int .u64 a0_4) ∧ w'.cell? ⟨gb304, 5, none⟩ = some (.string a0_5) ∧ w'.cell? ⟨gb305, 0, none⟩ = some (.int .u64 a2_0) ∧ w'.cell? ⟨gb305, 1, none⟩ = some (.int .u64 a2_1) ∧ w'.cell? ⟨gb305, 2, none⟩ = some (.int .u64 a2_2) ∧ w'.cell? ⟨gb305, 3, none⟩ = some (.string a2_3) ∧ w'.cell? ⟨gb305, 4, none⟩ = some (.string a2_4)) (ds := []) #[false, false, false, false, false, false, false, false, false, false, false, false, false, false] (by kernel_rfl) rfl rfl ⟨(blk_cell BK304.out 0).trans rfl, (blk_cell BK304.out 1).trans rfl, (blk_cell BK304.out 2).trans rfl, (blk_cell BK304.out 3).trans rfl, (blk_cell BK304.out 4).trans rfl, (blk_cell BK304.out 5).trans rfl, (blk_cell BK305.out 0).trans rfl, (blk_cell BK305.out 1).trans rfl, (blk_cell BK305.out 2).trans rfl, (blk_cell BK305.out 3).trans rfl, (blk_cell BK305.out 4).trans rfl⟩ (fun hHeld => ?_); refine with_tabW laws_snWant.tab1 laws_snWant.bits1 (fun HT_ HW_ => ?_)
    generalize w9.drew = w10 at BK304 BK305 HB hHeld ⊢
    refine pure_ (i := 0) (N := some 9) (v := ?_) (a' := ?_) #[true, false, false, false, false, false, false, false, false, false, false, false, false, false] rfl rfl (any_of HT_.out (by kernel_rfl)) (fun _ _ _ h => h) (Or.inl ⟨by rfl, ?_⟩) ?_ ?_
    rotate_left
    · intro w'
      go_simp
      with_reducible rfl
    rotate_left
    · simp only [Act.put, List.setIfInBounds_toArray, List.set_cons_zero, List.set_cons_succ, i64_w, i32_w]
      rfl
    refine pure_ (i := 1) (N := some 10) (v := ?_) (a' := ?_) #[true, true, false, false, false, false, false, false, false, false, false, false, false, false] rfl rfl (any_of HT_.out (by kernel_rfl)) (fun _ _ _ h => h) (Or.inl ⟨by rfl, ?_⟩) ?_ ?_
    rotate_left
    · intro w'
      go_simp
      with_reducible rfl
    rotate_left
    · simp only [Act.put, List.setIfInBounds_toArray, List.set_cons_zero, List.set_cons_succ, i64_w, i32_w]
      rfl
    refine pure_ (i := 2) (N := some 11) (v := undef) (a' := ?_) #[true, true, true, false, false, false, false, false, false, false, false, false, false, false] rfl rfl (any_of HT_.out (by kernel_rfl)) (fun _ _ _ h => h) (Or.inr ⟨by rfl, rfl⟩) ?_ ?_
    rotate_left
    · simp only [Act.put, List.setIfInBounds_toArray, List.set_cons_zero, List.set_cons_succ, i64_w, i32_w]
      rfl
    refine pure_ (i := 3) (N := some 12) (v := undef) (a' := ?_) #[true, true, true, true, false, false, false, false, false, false, false, false, false, false] rfl rfl (any_of HT_.out (by kernel_rfl)) (fun _ _ _ h => h) (Or.inr ⟨by rfl, rfl⟩) ?_ ?_
    rotate_left
    · simp only [Act.put, List.setIfInBounds_toArray, List.set_cons_zero, List.set_cons_succ, i64_w, i32_w]
      rfl
    refine pure_ (i := 4) (N := some 13) (v := undef) (a' := ?_) #[true, true, true, true, true, false, false, false, false, false, false, false, false, false] rfl rfl (any_of HT_.out (by kernel_rfl)) (fun _ _ _ h => h) (Or.inr ⟨by rfl, rfl⟩) ?_ ?_
    rotate_left
    · simp only [Act.put, List.setIfInBounds_toArray, List.set_cons_zero, List.set_cons_succ, i64_w, i32_w]
      rfl
    refine pure_ (i := 5) (N := some 14) (v := ?_) (a' := ?_) #[true, true, true, true, true, true, false, false, false, false, false, false, false, false] rfl rfl (any_of HT_.out (by kernel_rfl)) (fun _ _ _ h => h) (Or.inl ⟨by rfl, ?_⟩) ?_ ?_
    rotate_left
    · intro w'
      go_simp
      with_reducible rfl
    rotate_left
    · simp only [Act.put, List.setIfInBounds_toArray, List.set_cons_zero, List.set_cons_succ, i64_w, i32_w]
      rfl
    refine pure_ (i := 6) (N := some 15) (v := ?_) (a' := ?_) #[true, true, true, true, true, true, true, false, false, false, false, false, false, false] rfl rfl (any_of HT_.out (by kernel_rfl)) (fun _ _ _ h => h) (Or.inl ⟨by rfl, ?_⟩) ?_ ?_
    rotate_left
    · intro w'
      go_simp
      with_reducible rfl
    rotate_left
    · simp only [Act.put, List.setIfInBounds_toArray, List.set_cons_zero, List.set_cons_succ, i64_w, i32_w]
      rfl
    refine pure_ (i := 8) (N := some 17) (v := ?_) (a' := ?_) #[true, true, true, true, true, true, true, false, true, false, false, false, false, false] rfl rfl (any_of HT_.out (by kernel_rfl)) (fun _ _ _ h => h) (Or.inl ⟨by rfl, ?_⟩) ?_ ?_
    rotate_left
    · intro w'
      go_simp
      with_reducible rfl
    rotate_left
    · simp only [Act.put, List.setIfInBounds_toArray, List.set_cons_zero, List.set_cons_succ, i64_w, i32_w]
      rfl
    refine take_ (i := 7) (N := some 16) (v := ?_) (a' := ?_) #[true, true, true, true, true, true, true, true, true, false, false, false, false, false] rfl rfl (take_ofW HT_.out HW_.out (by kernel_rfl)) (fun _ _ _ h => h) (Or.inl ⟨by rfl, ?_⟩) hHeld ?_ ?_
    rotate_left
    · rintro w' ⟨s0, s1, s2, s3, s4, s5, s6, s7, s8, s9, s10⟩
      go_simp
      with_reducible rfl
    rotate_left
    · simp only [Act.put, List.setIfInBounds_toArray, List.set_cons_zero, List.set_cons_succ, i64_w, i32_w]
      rfl
    refine take_ (i := 10) (N := some 19) (v := ?_) (a' := ?_) #[true, true, true, true, true, true, true, true, true, false, true, false, false, false] rfl rfl (take_ofW HT_.out HW_.out (by kernel_rfl)) (fun _ _ _ h => h) (Or.inl ⟨by rfl, ?_⟩) hHeld ?_ ?_
    rotate_left
    · rintro w' ⟨s0, s1, s2, s3, s4, s5, s6, s7, s8, s9, s10⟩
      go_simp
      with_reducible rfl
    rotate_left
    · simp only [Act.put, List.setIfInBounds_toArray, List.set_cons_zero, List.set_cons_succ, i64_w, i32_w]
      rfl
    refine one_ (i := 9) (N := some 18) #[true, true, true, true, true, true, true, true, true, true, true, false, false, false] rfl rfl (one_of HT_.out (by kernel_rfl)) (by decide) (fun K hK => ?_)
    refine goes_ Tryd.func82 (by kernel_rfl) rfl #[.agg #[.int .i64 a0_0, .int .i64 a0_1, .int .u64 a0_2, .int .u64 a0_3, .int .u64 a0_4, .string a0_5], .int .i64 a1] (by rfl) rfl rfl (by (try simp only [List.map_toArray, List.map_cons, List.map_nil]); first | done | rfl | (simp only [List.length_drop, List.length_take]; rfl)) ?_
    with_reducible refine (laws_snAs.calls a0_0 a0_1 a0_2 a0_3 a0_4 a0_5 a1 t306 t307 t308 t309 t310 t311 _ A6.out).mono ?_
    rintro e w11 ⟨rfl, hb⟩
    refine ⟨_, rfl, ?_⟩
    have n0_ := Aside0.mk (blk_below (g := gb304) (o := .cells #[.int .i64 a0_0, .int .i64 a0_1, .int .u64 a0_2, .int .u64 a0_3, .int .u64 a0_4, .string a0_5] 36 (0, 0)) (by (with_reducible repeat (first | refine blk_drewN ?_ _ | refine blk_drew ?_ | refine blk_alloc ?_ _)); exact BK304.out) hb)
    have n1_ := Aside0.mk (blk_below (g := gb305) (o := .cells #[.int .u64 a2_0, .int .u64 a2_1, .int .u64 a2_2, .string a2_3, .string a2_4] 24 (0, 0)) (by (with_reducible repeat (first | refine blk_drewN ?_ _ | refine blk_drew ?_ | refine blk_alloc ?_ _)); exact BK305.out) hb)
    have n2_ := Aside0.mk (below_step (by repeat (first | (with_reducible first | exact HB.out | apply below_alloc | apply pw_below_drewN | apply below_drew1 | refine below_set ?_ GE304.out | refine below_set ?_ GE305.out) | exact HB.out)) hb)
    clear BK304
    clear BK305
    clear HB
    have BK304 := n0_
    have BK305 := n1_
    have HB := n2_
    clear n0_ n1_ n2_
    (try clear hb)
    (try clear hb2)
    (try clear hk)
    (try clear hi)
    refine hK.out _ _ ⟨(blk_cell BK304.out 0).trans rfl, (blk_cell BK304.out 1).trans rfl, (blk_cell BK304.out 2).trans rfl, (blk_cell BK304.out 3).trans rfl, (blk_cell BK304.out 4).trans rfl, (blk_cell BK304.out 5).trans rfl, (blk_cell BK305.out 0).trans rfl, (blk_cell BK305.out 1).trans rfl, (blk_cell BK305.out 2).trans rfl, (blk_cell BK305.out 3).trans rfl, (blk_cell BK305.out 4).trans rfl⟩ (fun hHeld => ?_)
    clear hK K
    refine norm_ (a' := ?_) ?_ ?_
    rotate_left
    · show Act.put _ (some 18) _ = _
      simp only [Act.put, List.setIfInBounds_toArray, List.set_cons_zero, List.set_cons_succ, i64_w, i32_w]
      rfl
    refine one_ (i := 11) (N := some 20) #[true, true, true, true, true, true, true, true, true, true, true, true, false, false] rfl rfl (one_of HT_.out (by kernel_rfl)) (by decide) (fun K hK => ?_)
    refine goes_ Tryd.func86 (by kernel_rfl) rfl #[.agg #[.int .i64 t306, .int .i64 t307, .int .u64 t308, .int .u64 t309, .int .u64 t310, .string t311], .agg #[.int .u64 a2_0, .int .u64 a2_1, .int .u64 a2_2, .string a2_3, .string a2_4]] (by rfl) rfl rfl (by (try simp only [List.map_toArray, List.map_cons, List.map_nil]); first | done | rfl | (simp only [List.length_drop, List.length_take]; rfl)) ?_
    with_reducible refine (spec_Compares.calls k t306 t307 t308 t309 t310 t311 a2_0 a2_1 a2_2 a2_3 a2_4 t312 _ A7.out).mono ?_
    rintro e w12 ⟨rfl, hb⟩
    refine ⟨_, rfl, ?_⟩
    have n0_ := Aside0.mk (blk_below (g := gb304) (o := .cells #[.int .i64 a0_0, .int .i64 a0_1, .int .u64 a0_2, .int .u64 a0_3, .int .u64 a0_4, .string a0_5] 36 (0, 0)) (by (with_reducible repeat (first | refine blk_drewN ?_ _ | refine blk_drew ?_ | refine blk_alloc ?_ _)); exact BK304.out) hb)
    have n1_ := Aside0.mk (blk_below (g := gb305) (o := .cells #[.int .u64 a2_0, .int .u64 a2_1, .int .u64 a2_2, .string a2_3, .string a2_4] 24 (0, 0)) (by (with_reducible repeat (first | refine blk_drewN ?_ _ | refine blk_drew ?_ | refine blk_alloc ?_ _)); exact BK305.out) hb)
    have n2_ := Aside0.mk (below_step (by repeat (first | (with_reducible first | exact HB.out | apply below_alloc | apply pw_below_drewN | apply below_drew1 | refine below_set ?_ GE304.out | refine below_set ?_ GE305.out) | exact HB.out)) hb)
    clear BK304
    clear BK305
    clear HB
    have BK304 := n0_
    have BK305 := n1_
    have HB := n2_
    clear n0_ n1_ n2_
    (try clear hb)
    (try clear hb2)
    (try clear hk)
    (try clear hi)
    refine hK.out _ _ ⟨(blk_cell BK304.out 0).trans rfl, (blk_cell BK304.out 1).trans rfl, (blk_cell BK304.out 2).trans rfl, (blk_cell BK304.out 3).trans rfl, (blk_cell BK304.out 4).trans rfl, (blk_cell BK304.out 5).trans rfl, (blk_cell BK305.out 0).trans rfl, (blk_cell BK305.out 1).trans rfl, (blk_cell BK305.out 2).trans rfl, (blk_cell BK305.out 3).trans rfl, (blk_cell BK305.out 4).trans rfl⟩ (fun hHeld => ?_)
    clear hK K
    refine norm_ (a' := ?_) ?_ ?_
    rotate_left
    · show Act.put _ (some 20) _ = _
      simp only [Act.put, List.setIfInBounds_toArray, List.set_cons_zero, List.set_cons_succ, i64_w, i32_w]
      rfl
    refine pure_ (i := 12) (N := some 21) (v := ?_) (a' := ?_) #[true, true, true, true, true, true, true, true, true, true, true, true, true, false] rfl rfl (any_of HT_.out (by kernel_rfl)) (fun _ _ _ h => h) (Or.inl ⟨by rfl, ?_⟩) ?_ ?_
    rotate_left
    · intro w'
      go_simp
      with_reducible rfl
    rotate_left
    · simp only [Act.put, List.setIfInBounds_toArray, List.set_cons_zero, List.set_cons_succ, i64_w, i32_w]
      rfl
    refine pure_ (i := 13) (N := some 8) (v := ?_) (a' := ?_) #[true, true, true, true, true, true, true, true, true, true, true, true, true, true] rfl rfl (any_of HT_.out (by kernel_rfl)) (fun _ _ _ h => h) (Or.inl ⟨by rfl, ?_⟩) ?_ ?_
    rotate_left
    · intro w'
      go_simp
      with_reducible rfl
    rotate_left
    · simp only [Act.put, List.setIfInBounds_toArray, List.set_cons_zero, List.set_cons_succ, i64_w, i32_w]
      rfl
    refine done_ (done_of HT_.out (by kernel_rfl)) ?_
    try go_wp2
    go_ret
    exact ⟨by first | rfl | (simp [errW_none, errW_some] <;> rfl) | (simp [*, errW_none, errW_some] <;> rfl), by repeat (first | (with_reducible first | exact HB.out | apply below_alloc | apply pw_below_drewN | apply below_drew1 | refine below_set ?_ GE304.out | refine below_set ?_ GE305.out) | exact HB.out)⟩
  · replace c5 := Bool.eq_false_iff.mpr c5
    subst c5
    have H1 : (if a2_3.toList = ([] : List UInt8) then ((laws_snAs.f a0_0 a0_1 a0_2 a0_3 a0_4 a0_5 a1).bind fun bt313 => ((spec_Compares.f k bt313.1 bt313.2.1 bt313.2.2.1 bt313.2.2.2.1 bt313.2.2.2.2.1 bt313.2.2.2.2.2 a2_0 a2_1 a2_2 a2_3 a2_4).bind fun t319 => (some t319))) else (some false)) = some r := by rw [if_neg (show ¬ (false = true) by decide)] at H; exact H
    clear H
    have H := H1
    clear H1
    by_cases c13 : a2_3.toList = ([] : List UInt8)
    · rw [if_pos c13] at H
      have c13b0 : (a2_3.toList == ([] : List UInt8)) = true := beq_iff_eq.mpr c13
      have c13b1 : (a2_3.toList != ([] : List UInt8)) = false := bne_eq_false_iff_eq.mpr c13
      (try (have c13b2 : a2_3.toList.isEmpty = true := by simpa using c13))
      (try (have c13b3 : (!a2_3.toList.isEmpty) = false := by simpa using c13))
      clear c13
      replace H := Option.bind_eq_some_iff.mp H
      obtain ⟨⟨t313, t314, t315, t316, t317, t318⟩, A140, H⟩ := H
      replace H : ((spec_Compares.f k t313 t314 t315 t316 t317 t318 a2_0 a2_1 a2_2 a2_3 a2_4).bind fun t319 => (some t319)) = some r := H
      have A14 := Aside0.mk A140
      clear A140
      replace H := Option.bind_eq_some_iff.mp H
      obtain ⟨t319, A150, H⟩ := H
      replace H : (some t319) = some r := H
      have A15 := Aside0.mk A150
      clear A150
      obtain rfl := Option.some.inj H
      go_enter Tryd.func36, Tryd.ntmps36
      try go_wp2_with (first | ((with_reducible refine gate_dst (N := 4) rfl ?_); refine box_event ?hg (N := 4) ?hd (cs := #[.int .i64 a0_0, .int .i64 a0_1, .int .u64 a0_2, .int .u64 a0_3, .int .u64 a0_4, .string a0_5]) (t := 36) ?hr ?_; (case hd => rfl); (case hg => rfl); (case hr => first | (go_simp; done) | (go_simp; rfl)); intro gb304 hg w16 hbox hb; have n0_ := Aside0.mk (below_step (by repeat (first | (with_reducible first | exact HB.out | apply below_alloc | apply pw_below_drewN | apply below_drew1) | exact HB.out)) hb); have n1_ := Aside0.mk (hbox); have n2_ := Aside0.mk ((by rw [hg]; exact (below_size (by repeat (first | (with_reducible first | exact HB.out | apply below_alloc | apply pw_below_drewN | apply below_drew1) | exact HB.out))) : w.heap.size ≤ gb304)); have n3_ := Aside0.mk ((by rw [hg]; exact (below_size (by repeat (first | (with_reducible first | exact HB.out | apply below_alloc | apply pw_below_drewN | apply below_drew1) | exact HB.out))) : w.heap.size ≤ gb304)); clear HB; have HB := n0_; have BK304 := n1_; have GW304 := n2_; have GE304 := n3_; clear n0_ n1_ n2_ n3_; clear hb hbox hg) | ((with_reducible refine gate_dst (N := 6) rfl ?_); refine box_event ?hg (N := 6) ?hd (cs := #[.int .u64 a2_0, .int .u64 a2_1, .int .u64 a2_2, .string a2_3, .string a2_4]) (t := 24) ?hr ?_; (case hd => rfl); (case hg => rfl); (case hr => first | (go_simp; done) | (go_simp; rfl)); intro gb305 hg w17 hbox hb; have n0_ := Aside0.mk (blk_below (g := gb304) (o := .cells #[.int .i64 a0_0, .int .i64 a0_1, .int .u64 a0_2, .int .u64 a0_3, .int .u64 a0_4, .string a0_5] 36 (0, 0)) (by (with_reducible repeat (first | refine blk_drewN ?_ _ | refine blk_drew ?_ | refine blk_alloc ?_ _)); exact BK304.out) hb); have n1_ := Aside0.mk (below_step (by repeat (first | (with_reducible first | exact HB.out | apply below_alloc | apply pw_below_drewN | apply below_drew1 | refine below_set ?_ GE304.out) | exact HB.out)) hb); have n2_ := Aside0.mk (hbox); have n3_ := Aside0.mk ((by rw [hg]; exact (below_size (by repeat (first | (with_reducible first | exact HB.out | apply below_alloc | apply pw_below_drewN | apply below_drew1 | refine below_set ?_ GE304.out) | exact HB.out))) : w.heap.size ≤ gb305)); have n4_ := Aside0.mk ((by rw [hg]; exact (below_size (by repeat (first | (with_reducible first | exact HB.out | apply below_alloc | apply pw_below_drewN | apply below_drew1 | refine below_set ?_ GE304.out) | exact HB.out))) : w.heap.size ≤ gb305)); have n5_ := Aside0.mk ((by rw [hg]; exact Nat.ne_of_lt (blk_lt (g := gb304) (o := .cells #[.int .i64 a0_0, .int .i64 a0_1, .int .u64 a0_2, .int .u64 a0_3, .int .u64 a0_4, .string a0_5] 36 (0, 0)) (by (with_reducible repeat (first | refine blk_drewN ?_ _ | refine blk_drew ?_ | refine blk_alloc ?_ _)); exact BK304.out)) : gb304 ≠ gb305)); have n6_ := Aside0.mk ((by rw [hg]; exact Nat.ne_of_gt (blk_lt (g := gb304) (o := .cells #[.int .i64 a0_0, .int .i64 a0_1, .int .u64 a0_2, .int .u64 a0_3, .int .u64 a0_4, .string a0_5] 36 (0, 0)) (by (with_reducible repeat (first | refine blk_drewN ?_ _ | refine blk_drew ?_ | refine blk_alloc ?_ _)); exact BK304.out)) : gb305 ≠ gb304)); clear BK304; clear HB; have BK304 := n0_; have HB := n1_; have BK305 := n2_; have GW305 := n3_; have GE305 := n4_; have NB304_305 := n5_; have NB305_304 := n6_; clear n0_ n1_ n2_ n3_ n4_ n5_ n6_; clear hb hbox hg))
      have n0_ := Aside0.mk (blk_drew BK304.out)
      have n1_ := Aside0.mk (blk_drew BK305.out)
      have n2_ := Aside0.mk (below_drew1 HB.out)
      clear BK304
      clear BK305
      clear HB
      have BK304 := n0_
      have BK305 := n1_
      have HB := n2_
      clear n0_ n1_ n2_
      refine start_ (n := 14) (S := fun w' => w'.cell? ⟨gb305, 0, none⟩ = some (.int .u64 a2_0) ∧ w'.cell? ⟨gb305, 1, none⟩ = some (.int .u64 a2_1) ∧ w'.cell? ⟨gb305, 2, none⟩ = some (.int .u64 a2_2) ∧ w'.cell? ⟨gb305, 3, none⟩ = some (.string a2_3) ∧ w'.cell? ⟨gb305, 4, none⟩ = some (.string a2_4) ∧ w'.cell? ⟨gb304, 0, none⟩ = some (.int .i64 a0_0) ∧ w'.cell? ⟨gb304, 1, none⟩ = some (.int .i64 a0_1) ∧ w'.cell? ⟨gb304, 2, none⟩ = some (.int .u64 a0_2) ∧ w'.cell? ⟨gb304, 3, none⟩ = some (.int .u64 a0_3) ∧ w'.cell? ⟨gb304, 4, none⟩ = some (.int .u64 a0_4) ∧ w'.cell? ⟨gb304, 5, none⟩ = some (.string a0_5)) (ds := []) #[false, false, false, false, false, false, false, false, false, false, false, false, false, false] (by kernel_rfl) rfl rfl ⟨(blk_cell BK305.out 0).trans rfl, (blk_cell BK305.out 1).trans rfl, (blk_cell BK305.out 2).trans rfl, (blk_cell BK305.out 3).trans rfl, (blk_cell BK305.out 4).trans rfl, (blk_cell BK304.out 0).trans rfl, (blk_cell BK304.out 1).trans rfl, (blk_cell BK304.out 2).trans rfl, (blk_cell BK304.out 3).trans rfl, (blk_cell BK304.out 4).trans rfl, (blk_cell BK304.out 5).trans rfl⟩ (fun hHeld => ?_); refine with_tabW laws_snWant.tab1 laws_snWant.bits1 (fun HT_ HW_ => ?_)
      generalize w17.drew = w18 at BK304 BK305 HB hHeld ⊢
      refine pure_ (i := 0) (N := some 9) (v := ?_) (a' := ?_) #[true, false, false, false, false, false, false, false, false, false, false, false, false, false] rfl rfl (any_of HT_.out (by kernel_rfl)) (fun _ _ _ h => h) (Or.inl ⟨by rfl, ?_⟩) ?_ ?_
      rotate_left
      · intro w'
        go_simp
        with_reducible rfl
      rotate_left
      · simp only [Act.put, List.setIfInBounds_toArray, List.set_cons_zero, List.set_cons_succ, i64_w, i32_w]
        rfl
      refine pure_ (i := 1) (N := some 10) (v := ?_) (a' := ?_) #[true, true, false, false, false, false, false, false, false, false, false, false, false, false] rfl rfl (any_of HT_.out (by kernel_rfl)) (fun _ _ _ h => h) (Or.inl ⟨by rfl, ?_⟩) ?_ ?_
      rotate_left
      · intro w'
        go_simp
        with_reducible rfl
      rotate_left
      · simp only [Act.put, List.setIfInBounds_toArray, List.set_cons_zero, List.set_cons_succ, i64_w, i32_w]
        rfl
      refine pure_ (i := 2) (N := some 11) (v := ?_) (a' := ?_) #[true, true, true, false, false, false, false, false, false, false, false, false, false, false] rfl rfl (any_of HT_.out (by kernel_rfl)) (fun _ _ _ h => h) (Or.inl ⟨by rfl, ?_⟩) ?_ ?_
      rotate_left
      · intro w'
        go_simp
        with_reducible rfl
      rotate_left
      · simp only [Act.put, List.setIfInBounds_toArray, List.set_cons_zero, List.set_cons_succ, i64_w, i32_w]
        rfl
      refine take_ (i := 3) (N := some 12) (v := ?_) (a' := ?_) #[true, true, true, true, false, false, false, false, false, false, false, false, false, false] rfl rfl (take_ofW HT_.out HW_.out (by kernel_rfl)) (fun _ _ _ h => h) (Or.inl ⟨by rfl, ?_⟩) hHeld ?_ ?_
      rotate_left
      · rintro w' ⟨s0, s1, s2, s3, s4, s5, s6, s7, s8, s9, s10⟩
        go_simp
        with_reducible rfl
      rotate_left
      · simp only [Act.put, List.setIfInBounds_toArray, List.set_cons_zero, List.set_cons_succ, i64_w, i32_w]
        rfl
      refine pure_ (i := 4) (N := some 13) (v := ?_) (a' := ?_) #[true, true, true, true, true, false, false, false, false, false, false, false, false, false] rfl rfl (any_of HT_.out (by kernel_rfl)) (fun _ _ _ h => h) (Or.inl ⟨by rfl, ?_⟩) ?_ ?_
      rotate_left
      · intro w'
        go_simp
        with_reducible rfl
      rotate_left
      · simp only [Act.put, List.setIfInBounds_toArray, List.set_cons_zero, List.set_cons_succ, i64_w, i32_w]
        rfl
      refine pure_ (i := 5) (N := some 14) (v := ?_) (a' := ?_) #[true, true, true, true, true, true, false, false, false, false, false, false, false, false] rfl rfl (any_of HT_.out (by kernel_rfl)) (fun _ _ _ h => h) (Or.inl ⟨by rfl, ?_⟩) ?_ ?_
      rotate_left
      · intro w'
        go_simp
        with_reducible rfl
      rotate_left
      · simp only [Act.put, List.setIfInBounds_toArray, List.set_cons_zero, List.set_cons_succ, i64_w, i32_w]
        rfl
      refine pure_ (i := 6) (N := some 15) (v := ?_) (a' := ?_) #[true, true, true, true, true, true, true, false, false, false, false, false, false, false] rfl rfl (any_of HT_.out (by kernel_rfl)) (fun _ _ _ h => h) (Or.inl ⟨by rfl, ?_⟩) ?_ ?_
      rotate_left
      · intro w'
        go_simp
        with_reducible rfl
      rotate_left
      · simp only [Act.put, List.setIfInBounds_toArray, List.set_cons_zero, List.set_cons_succ, i64_w, i32_w]
        rfl
      refine pure_ (i := 8) (N := some 17) (v := ?_) (a' := ?_) #[true, true, true, true, true, true, true, false, true, false, false, false, false, false] rfl rfl (any_of HT_.out (by kernel_rfl)) (fun _ _ _ h => h) (Or.inl ⟨by rfl, ?_⟩) ?_ ?_
      rotate_left
      · intro w'
        go_simp
        with_reducible rfl
      rotate_left
      · simp only [Act.put, List.setIfInBounds_toArray, List.set_cons_zero, List.set_cons_succ, i64_w, i32_w]
        rfl
      refine take_ (i := 7) (N := some 16) (v := ?_) (a' := ?_) #[true, true, true, true, true, true, true, true, true, false, false, false, false, false] rfl rfl (take_ofW HT_.out HW_.out (by kernel_rfl)) (fun _ _ _ h => h) (Or.inl ⟨by rfl, ?_⟩) hHeld ?_ ?_
      rotate_left
      · rintro w' ⟨s0, s1, s2, s3, s4, s5, s6, s7, s8, s9, s10⟩
        go_simp
        with_reducible rfl
      rotate_left
      · simp only [Act.put, List.setIfInBounds_toArray, List.set_cons_zero, List.set_cons_succ, i64_w, i32_w]
        rfl
      refine take_ (i := 10) (N := some 19) (v := ?_) (a' := ?_) #[true, true, true, true, true, true, true, true, true, false, true, false, false, false] rfl rfl (take_ofW HT_.out HW_.out (by kernel_rfl)) (fun _ _ _ h => h) (Or.inl ⟨by rfl, ?_⟩) hHeld ?_ ?_
      rotate_left
      · rintro w' ⟨s0, s1, s2, s3, s4, s5, s6, s7, s8, s9, s10⟩
        go_simp
        with_reducible rfl
      rotate_left
      · simp only [Act.put, List.setIfInBounds_toArray, List.set_cons_zero, List.set_cons_succ, i64_w, i32_w]
        rfl
      refine one_ (i := 9) (N := some 18) #[true, true, true, true, true, true, true, true, true, true, true, false, false, false] rfl rfl (one_of HT_.out (by kernel_rfl)) (by decide) (fun K hK => ?_)
      refine goes_ Tryd.func82 (by kernel_rfl) rfl #[.agg #[.int .i64 a0_0, .int .i64 a0_1, .int .u64 a0_2, .int .u64 a0_3, .int .u64 a0_4, .string a0_5], .int .i64 a1] (by rfl) rfl rfl (by (try simp only [List.map_toArray, List.map_cons, List.map_nil]); first | done | rfl | (simp only [List.length_drop, List.length_take]; rfl)) ?_
      with_reducible refine (laws_snAs.calls a0_0 a0_1 a0_2 a0_3 a0_4 a0_5 a1 t313 t314 t315 t316 t317 t318 _ A14.out).mono ?_
      rintro e w19 ⟨rfl, hb⟩
      refine ⟨_, rfl, ?_⟩
      have n0_ := Aside0.mk (blk_below (g := gb304) (o := .cells #[.int .i64 a0_0, .int .i64 a0_1, .int .u64 a0_2, .int .u64 a0_3, .int .u64 a0_4, .string a0_5] 36 (0, 0)) (by (with_reducible repeat (first | refine blk_drewN ?_ _ | refine blk_drew ?_ | refine blk_alloc ?_ _)); exact BK304.out) hb)
      have n1_ := Aside0.mk (blk_below (g := gb305) (o := .cells #[.int .u64 a2_0, .int .u64 a2_1, .int .u64 a2_2, .string a2_3, .string a2_4] 24 (0, 0)) (by (with_reducible repeat (first | refine blk_drewN ?_ _ | refine blk_drew ?_ | refine blk_alloc ?_ _)); exact BK305.out) hb)
      have n2_ := Aside0.mk (below_step (by repeat (first | (with_reducible first | exact HB.out | apply below_alloc | apply pw_below_drewN | apply below_drew1 | refine below_set ?_ GE304.out | refine below_set ?_ GE305.out) | exact HB.out)) hb)
      clear BK304
      clear BK305
      clear HB
      have BK304 := n0_
      have BK305 := n1_
      have HB := n2_
      clear n0_ n1_ n2_
      (try clear hb)
      (try clear hb2)
      (try clear hk)
      (try clear hi)
      refine hK.out _ _ ⟨(blk_cell BK305.out 0).trans rfl, (blk_cell BK305.out 1).trans rfl, (blk_cell BK305.out 2).trans rfl, (blk_cell BK305.out 3).trans rfl, (blk_cell BK305.out 4).trans rfl, (blk_cell BK304.out 0).trans rfl, (blk_cell BK304.out 1).trans rfl, (blk_cell BK304.out 2).trans rfl, (blk_cell BK304.out 3).trans rfl, (blk_cell BK304.out 4).trans rfl, (blk_cell BK304.out 5).trans rfl⟩ (fun hHeld => ?_)
      clear hK K
      refine norm_ (a' := ?_) ?_ ?_
      rotate_left
      · show Act.put _ (some 18) _ = _
        simp only [Act.put, List.setIfInBounds_toArray, List.set_cons_zero, List.set_cons_succ, i64_w, i32_w]
        rfl
      refine one_ (i := 11) (N := some 20) #[true, true, true, true, true, true, true, true, true, true, true, true, false, false] rfl rfl (one_of HT_.out (by kernel_rfl)) (by decide) (fun K hK => ?_)
      refine goes_ Tryd.func86 (by kernel_rfl) rfl #[.agg #[.int .i64 t313, .int .i64 t314, .int .u64 t315, .int .u64 t316, .int .u64 t317, .string t318], .agg #[.int .u64 a2_0, .int .u64 a2_1, .int .u64 a2_2, .string a2_3, .string a2_4]] (by rfl) rfl rfl (by (try simp only [List.map_toArray, List.map_cons, List.map_nil]); first | done | rfl | (simp only [List.length_drop, List.length_take]; rfl)) ?_
      with_reducible refine (spec_Compares.calls k t313 t314 t315 t316 t317 t318 a2_0 a2_1 a2_2 a2_3 a2_4 t319 _ A15.out).mono ?_
      rintro e w20 ⟨rfl, hb⟩
      refine ⟨_, rfl, ?_⟩
      have n0_ := Aside0.mk (blk_below (g := gb304) (o := .cells #[.int .i64 a0_0, .int .i64 a0_1, .int .u64 a0_2, .int .u64 a0_3, .int .u64 a0_4, .string a0_5] 36 (0, 0)) (by (with_reducible repeat (first | refine blk_drewN ?_ _ | refine blk_drew ?_ | refine blk_alloc ?_ _)); exact BK304.out) hb)
      have n1_ := Aside0.mk (blk_below (g := gb305) (o := .cells #[.int .u64 a2_0, .int .u64 a2_1, .int .u64 a2_2, .string a2_3, .string a2_4] 24 (0, 0)) (by (with_reducible repeat (first | refine blk_drewN ?_ _ | refine blk_drew ?_ | refine blk_alloc ?_ _)); exact BK305.out) hb)
      have n2_ := Aside0.mk (below_step (by repeat (first | (with_reducible first | exact HB.out | apply below_alloc | apply pw_below_drewN | apply below_drew1 | refine below_set ?_ GE304.out | refine below_set ?_ GE305.out) | exact HB.out)) hb)
      clear BK304
      clear BK305
      clear HB
      have BK304 := n0_
      have BK305 := n1_
      have HB := n2_
      clear n0_ n1_ n2_
      (try clear hb)
      (try clear hb2)
      (try clear hk)
      (try clear hi)
      refine hK.out _ _ ⟨(blk_cell BK305.out 0).trans rfl, (blk_cell BK305.out 1).trans rfl, (blk_cell BK305.out 2).trans rfl, (blk_cell BK305.out 3).trans rfl, (blk_cell BK305.out 4).trans rfl, (blk_cell BK304.out 0).trans rfl, (blk_cell BK304.out 1).trans rfl, (blk_cell BK304.out 2).trans rfl, (blk_cell BK304.out 3).trans rfl, (blk_cell BK304.out 4).trans rfl, (blk_cell BK304.out 5).trans rfl⟩ (fun hHeld => ?_)
      clear hK K
      refine norm_ (a' := ?_) ?_ ?_
      rotate_left
      · show Act.put _ (some 20) _ = _
        simp only [Act.put, List.setIfInBounds_toArray, List.set_cons_zero, List.set_cons_succ, i64_w, i32_w]
        rfl
      refine pure_ (i := 12) (N := some 21) (v := ?_) (a' := ?_) #[true, true, true, true, true, true, true, true, true, true, true, true, true, false] rfl rfl (any_of HT_.out (by kernel_rfl)) (fun _ _ _ h => h) (Or.inl ⟨by rfl, ?_⟩) ?_ ?_
      rotate_left
      · intro w'
        go_simp
        with_reducible rfl
      rotate_left
      · simp only [Act.put, List.setIfInBounds_toArray, List.set_cons_zero, List.set_cons_succ, i64_w, i32_w]
        rfl
      refine pure_ (i := 13) (N := some 8) (v := ?_) (a' := ?_) #[true, true, true, true, true, true, true, true, true, true, true, true, true, true] rfl rfl (any_of HT_.out (by kernel_rfl)) (fun _ _ _ h => h) (Or.inl ⟨by rfl, ?_⟩) ?_ ?_
      rotate_left
      · intro w'
        go_simp
        with_reducible rfl
      rotate_left
      · simp only [Act.put, List.setIfInBounds_toArray, List.set_cons_zero, List.set_cons_succ, i64_w, i32_w]
        rfl
      refine done_ (done_of HT_.out (by kernel_rfl)) ?_
      try go_wp2
      go_ret
      exact ⟨by first | rfl | (simp [errW_none, errW_some] <;> rfl) | (simp [*, errW_none, errW_some] <;> rfl), by repeat (first | (with_reducible first | exact HB.out | apply below_alloc | apply pw_below_drewN | apply below_drew1 | refine below_set ?_ GE304.out | refine below_set ?_ GE305.out) | exact HB.out)⟩
    · rw [if_neg c13] at H
      have c13b0 : (a2_3.toList == ([] : List UInt8)) = false := beq_eq_false_iff_ne.mpr c13
      have c13b1 : (a2_3.toList != ([] : List UInt8)) = true := bne_iff_ne.mpr c13
      (try (have c13b2 : a2_3.toList.isEmpty = false := by simpa using c13))
      (try (have c13b3 : (!a2_3.toList.isEmpty) = true := by simpa using c13))
      obtain rfl := Option.some.inj H
      go_enter Tryd.func36, Tryd.ntmps36
      try go_wp2_with (first | ((with_reducible refine gate_dst (N := 4) rfl ?_); refine box_event ?hg (N := 4) ?hd (cs := #[.int .i64 a0_0, .int .i64 a0_1, .int .u64 a0_2, .int .u64 a0_3, .int .u64 a0_4, .string a0_5]) (t := 36) ?hr ?_; (case hd => rfl); (case hg => rfl); (case hr => first | (go_simp; done) | (go_simp; rfl)); intro gb304 hg w21 hbox hb; have n0_ := Aside0.mk (below_step (by repeat (first | (with_reducible first | exact HB.out | apply below_alloc | apply pw_below_drewN | apply below_drew1) | exact HB.out)) hb); have n1_ := Aside0.mk (hbox); have n2_ := Aside0.mk ((by rw [hg]; exact (below_size (by repeat (first | (with_reducible first | exact HB.out | apply below_alloc | apply pw_below_drewN | apply below_drew1) | exact HB.out))) : w.heap.size ≤ gb304)); have n3_ := Aside0.mk ((by rw [hg]; exact (below_size (by repeat (first | (with_reducible first | exact HB.out | apply below_alloc | apply pw_below_drewN | apply below_drew1) | exact HB.out))) : w.heap.size ≤ gb304)); clear HB; have HB := n0_; have BK304 := n1_; have GW304 := n2_; have GE304 := n3_; clear n0_ n1_ n2_ n3_; clear hb hbox hg) | ((with_reducible refine gate_dst (N := 6) rfl ?_); refine box_event ?hg (N := 6) ?hd (cs := #[.int .u64 a2_0, .int .u64 a2_1, .int .u64 a2_2, .string a2_3, .string a2_4]) (t := 24) ?hr ?_; (case hd => rfl); (case hg => rfl); (case hr => first | (go_simp; done) | (go_simp; rfl)); intro gb305 hg w22 hbox hb; have n0_ := Aside0.mk (blk_below (g := gb304) (o := .cells #[.int .i64 a0_0, .int .i64 a0_1, .int .u64 a0_2, .int .u64 a0_3, .int .u64 a0_4, .string a0_5] 36 (0, 0)) (by (with_reducible repeat (first | refine blk_drewN ?_ _ | refine blk_drew ?_ | refine blk_alloc ?_ _)); exact BK304.out) hb); have n1_ := Aside0.mk (below_step (by repeat (first | (with_reducible first | exact HB.out | apply below_alloc | apply pw_below_drewN | apply below_drew1 | refine below_set ?_ GE304.out) | exact HB.out)) hb); have n2_ := Aside0.mk (hbox); have n3_ := Aside0.mk ((by rw [hg]; exact (below_size (by repeat (first | (with_reducible first | exact HB.out | apply below_alloc | apply pw_below_drewN | apply below_drew1 | refine below_set ?_ GE304.out) | exact HB.out))) : w.heap.size ≤ gb305)); have n4_ := Aside0.mk ((by rw [hg]; exact (below_size (by repeat (first | (with_reducible first | exact HB.out | apply below_alloc | apply pw_below_drewN | apply below_drew1 | refine below_set ?_ GE304.out) | exact HB.out))) : w.heap.size ≤ gb305)); have n5_ := Aside0.mk ((by rw [hg]; exact Nat.ne_of_lt (blk_lt (g := gb304) (o := .cells #[.int .i64 a0_0, .int .i64 a0_1, .int .u64 a0_2, .int .u64 a0_3, .int .u64 a0_4, .string a0_5] 36 (0, 0)) (by (with_reducible repeat (first | refine blk_drewN ?_ _ | refine blk_drew ?_ | refine blk_alloc ?_ _)); exact BK304.out)) : gb304 ≠ gb305)); have n6_ := Aside0.mk ((by rw [hg]; exact Nat.ne_of_gt (blk_lt (g := gb304) (o := .cells #[.int .i64 a0_0, .int .i64 a0_1, .int .u64 a0_2, .int .u64 a0_3, .int .u64 a0_4, .string a0_5] 36 (0, 0)) (by (with_reducible repeat (first | refine blk_drewN ?_ _ | refine blk_drew ?_ | refine blk_alloc ?_ _)); exact BK304.out)) : gb305 ≠ gb304)); clear BK304; clear HB; have BK304 := n0_; have HB := n1_; have BK305 := n2_; have GW305 := n3_; have GE305 := n4_; have NB304_305 := n5_; have NB305_304 := n6_; clear n0_ n1_ n2_ n3_ n4_ n5_ n6_; clear hb hbox hg))
      have n0_ := Aside0.mk (blk_drew BK304.out)
      have n1_ := Aside0.mk (blk_drew BK305.out)
      have n2_ := Aside0.mk (below_drew1 HB.out)
      clear BK304
      clear BK305
      clear HB
      have BK304 := n0_
      have BK305 := n1_
      have HB := n2_
      clear n0_ n1_ n2_
      refine start_ (n := 14) (S := fun w' => w'.cell? ⟨gb305, 0, none⟩ = some (.int .u64 a2_0) ∧ w'.cell? ⟨gb305, 1, none⟩ = some (.int .u64 a2_1) ∧ w'.cell? ⟨gb305, 2, none⟩ = some (.int .u64 a2_2) ∧ w'.cell? ⟨gb305, 3, none⟩ = some (.string a2_3) ∧ w'.cell? ⟨gb305, 4, none⟩ = some (.string a2_4)) (ds := []) #[false, false, false, false, false, false, false, false, false, false, false, false, false, false] (by kernel_rfl) rfl rfl ⟨(blk_cell BK305.out 0).trans rfl, (blk_cell BK305.out 1).trans rfl, (blk_cell BK305.out 2).trans rfl, (blk_cell BK305.out 3).trans rfl, (blk_cell BK305.out 4).trans rfl⟩ (fun hHeld => ?_); refine with_tabW laws_snWant.tab1 laws_snWant.bits1 (fun HT_ HW_ => ?_)
      generalize w22.drew = w23 at BK304 BK305 HB hHeld ⊢
      refine pure_ (i := 0) (N := some 9) (v := ?_) (a' := ?_) #[true, false, false, false, false, false, false, false, false, false, false, false, false, false] rfl rfl (any_of HT_.out (by kernel_rfl)) (fun _ _ _ h => h) (Or.inl ⟨by rfl, ?_⟩) ?_ ?_
      rotate_left
      · intro w'
        go_simp
        with_reducible rfl
      rotate_left
      · simp only [Act.put, List.setIfInBounds_toArray, List.set_cons_zero, List.set_cons_succ, i64_w, i32_w]
        rfl
      refine pure_ (i := 1) (N := some 10) (v := ?_) (a' := ?_) #[true, true, false, false, false, false, false, false, false, false, false, false, false, false] rfl rfl (any_of HT_.out (by kernel_rfl)) (fun _ _ _ h => h) (Or.inl ⟨by rfl, ?_⟩) ?_ ?_
      rotate_left
      · intro w'
        go_simp
        with_reducible rfl
      rotate_left
      · simp only [Act.put, List.setIfInBounds_toArray, List.set_cons_zero, List.set_cons_succ, i64_w, i32_w]
        rfl
      refine pure_ (i := 2) (N := some 11) (v := ?_) (a' := ?_) #[true, true, true, false, false, false, false, false, false, false, false, false, false, false] rfl rfl (any_of HT_.out (by kernel_rfl)) (fun _ _ _ h => h) (Or.inl ⟨by rfl, ?_⟩) ?_ ?_
      rotate_left
      · intro w'
        go_simp
        with_reducible rfl
      rotate_left
      · simp only [Act.put, List.setIfInBounds_toArray, List.set_cons_zero, List.set_cons_succ, i64_w, i32_w]
        rfl
      refine take_ (i := 3) (N := some 12) (v := ?_) (a' := ?_) #[true, true, true, true, false, false, false, false, false, false, false, false, false, false] rfl rfl (take_ofW HT_.out HW_.out (by kernel_rfl)) (fun _ _ _ h => h) (Or.inl ⟨by rfl, ?_⟩) hHeld ?_ ?_
      rotate_left
      · rintro w' ⟨s0, s1, s2, s3, s4⟩
        go_simp
        with_reducible rfl
      rotate_left
      · simp only [Act.put, List.setIfInBounds_toArray, List.set_cons_zero, List.set_cons_succ, i64_w, i32_w]
        rfl
      refine pure_ (i := 4) (N := some 13) (v := ?_) (a' := ?_) #[true, true, true, true, true, false, false, false, false, false, false, false, false, false] rfl rfl (any_of HT_.out (by kernel_rfl)) (fun _ _ _ h => h) (Or.inl ⟨by rfl, ?_⟩) ?_ ?_
      rotate_left
      · intro w'
        go_simp
        with_reducible rfl
      rotate_left
      · simp only [Act.put, List.setIfInBounds_toArray, List.set_cons_zero, List.set_cons_succ, i64_w, i32_w]
        rfl
      refine pure_ (i := 5) (N := some 14) (v := ?_) (a' := ?_) #[true, true, true, true, true, true, false, false, false, false, false, false, false, false] rfl rfl (any_of HT_.out (by kernel_rfl)) (fun _ _ _ h => h) (Or.inl ⟨by rfl, ?_⟩) ?_ ?_
      rotate_left
      · intro w'
        go_simp
        with_reducible rfl
      rotate_left
      · simp only [Act.put, List.setIfInBounds_toArray, List.set_cons_zero, List.set_cons_succ, i64_w, i32_w]
        rfl
      refine pure_ (i := 6) (N := some 15) (v := ?_) (a' := ?_) #[true, true, true, true, true, true, true, false, false, false, false, false, false, false] rfl rfl (any_of HT_.out (by kernel_rfl)) (fun _ _ _ h => h) (Or.inl ⟨by rfl, ?_⟩) ?_ ?_
      rotate_left
      · intro w'
        go_simp
        with_reducible rfl
      rotate_left
      · simp only [Act.put, List.setIfInBounds_toArray, List.set_cons_zero, List.set_cons_succ, i64_w, i32_w]
        rfl
      refine pure_ (i := 7) (N := some 16) (v := undef) (a' := ?_) #[true, true, true, true, true, true, true, true, false, false, false, false, false, false] rfl rfl (any_of HT_.out (by kernel_rfl)) (fun _ _ _ h => h) (Or.inr ⟨by rfl, rfl⟩) ?_ ?_
      rotate_left
      · simp only [Act.put, List.setIfInBounds_toArray, List.set_cons_zero, List.set_cons_succ, i64_w, i32_w]
        rfl
      refine pure_ (i := 8) (N := some 17) (v := undef) (a' := ?_) #[true, true, true, true, true, true, true, true, true, false, false, false, false, false] rfl rfl (any_of HT_.out (by kernel_rfl)) (fun _ _ _ h => h) (Or.inr ⟨by rfl, rfl⟩) ?_ ?_
      rotate_left
      · simp only [Act.put, List.setIfInBounds_toArray, List.set_cons_zero, List.set_cons_succ, i64_w, i32_w]
        rfl
      refine pure_ (i := 9) (N := some 18) (v := undef) (a' := ?_) #[true, true, true, true, true, true, true, true, true, true, false, false, false, false] rfl rfl (any_of HT_.out (by kernel_rfl)) (fun _ _ _ h => h) (Or.inr ⟨by rfl, rfl⟩) ?_ ?_
      rotate_left
      · simp only [Act.put, List.setIfInBounds_toArray, List.set_cons_zero, List.set_cons_succ, i64_w, i32_w]
        rfl
      refine pure_ (i := 10) (N := some 19) (v := undef) (a' := ?_) #[true, true, true, true, true, true, true, true, true, true, true, false, false, false] rfl rfl (any_of HT_.out (by kernel_rfl)) (fun _ _ _ h => h) (Or.inr ⟨by rfl, rfl⟩) ?_ ?_
      rotate_left
      · simp only [Act.put, List.setIfInBounds_toArray, List.set_cons_zero, List.set_cons_succ, i64_w, i32_w]
        rfl
      refine pure_ (i := 11) (N := some 20) (v := undef) (a' := ?_) #[true, true, true, true, true, true, true, true, true, true, true, true, false, false] rfl rfl (any_of HT_.out (by kernel_rfl)) (fun _ _ _ h => h) (Or.inr ⟨by rfl, rfl⟩) ?_ ?_
      rotate_left
      · simp only [Act.put, List.setIfInBounds_toArray, List.set_cons_zero, List.set_cons_succ, i64_w, i32_w]
        rfl
      refine pure_ (i := 12) (N := some 21) (v := ?_) (a' := ?_) #[true, true, true, true, true, true, true, true, true, true, true, true, true, false] rfl rfl (any_of HT_.out (by kernel_rfl)) (fun _ _ _ h => h) (Or.inl ⟨by rfl, ?_⟩) ?_ ?_
      rotate_left
      · intro w'
        go_simp
        with_reducible rfl
      rotate_left
      · simp only [Act.put, List.setIfInBounds_toArray, List.set_cons_zero, List.set_cons_succ, i64_w, i32_w]
        rfl
      refine pure_ (i := 13) (N := some 8) (v := ?_) (a' := ?_) #[true, true, true, true, true, true, true, true, true, true, true, true, true, true] rfl rfl (any_of HT_.out (by kernel_rfl)) (fun _ _ _ h => h) (Or.inl ⟨by rfl, ?_⟩) ?_ ?_
      rotate_left
      · intro w'
        go_simp
        with_reducible rfl
      rotate_left
      · simp only [Act.put, List.setIfInBounds_toArray, List.set_cons_zero, List.set_cons_succ, i64_w, i32_w]
        rfl
      refine done_ (done_of HT_.out (by kernel_rfl)) ?_
      try go_wp2
      go_ret
      exact ⟨by first | rfl | (simp [errW_none, errW_some] <;> rfl) | (simp [*, errW_none, errW_some] <;> rfl), by repeat (first | (with_reducible first | exact HB.out | apply below_alloc | apply pw_below_drewN | apply below_drew1 | refine below_set ?_ GE304.out | refine below_set ?_ GE305.out) | exact HB.out)⟩

end Go.Proofs.YtlooelfkkbgmhaaDoor.QS
