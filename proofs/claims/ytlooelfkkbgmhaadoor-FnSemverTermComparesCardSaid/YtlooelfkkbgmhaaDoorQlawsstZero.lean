-- written by a program of mine (wip/tools/myprint.py) for this claim. Not trusted: Lean checks it.
import Derived.Test.YtlooelfkkbgmhaaDoorQSA
import Derived.Test.YtlooelfkkbgmhaaDoorConTerm
import Derived.Test.YtlooelfkkbgmhaaDoorGivSpec
import Derived.Test.YtlooelfkkbgmhaaDoorGivTerms
namespace Go.Proofs.YtlooelfkkbgmhaaDoor.QS
open Go.RowKit Go.Proofs.YtlooelfkkbgmhaaDoorW.PrintWords Go.Proofs.YtlooelfkkbgmhaaDoorW.PrintLast
set_option linter.unusedVariables false
set_option linter.unusedSimpArgs false

/-! ### laws_stZero: function 50 -/
def laws_stZero.f (a0_0 : Int) (a0_1 : Int) (a0_2 : Int) (a0_3 : ByteArray) (a0_4 : ByteArray) : Option (Bool) := (spec_CompareNumbers.f a0_0 a0_1 a0_2 a0_3 a0_4 0 0 0 (⟨#[]⟩ : ByteArray) (⟨#[]⟩ : ByteArray) 3).bind fun t369 => (some (t369 == 0))
set_option maxHeartbeats 8000000 in
set_option maxRecDepth 100000 in
theorem laws_stZero.calls (a0_0 : Int) (a0_1 : Int) (a0_2 : Int) (a0_3 : ByteArray) (a0_4 : ByteArray) (r : Bool) (w : World) (h : laws_stZero.f a0_0 a0_1 a0_2 a0_3 a0_4 = some r) :
    Calls Tryd.prog 50 #[.agg #[.int .u64 a0_0, .int .u64 a0_1, .int .u64 a0_2, .string a0_3, .string a0_4]] w fun e w' => e = .returned (.bool r) ∧ Below w.heap.size w w' := by
  have hu24 := Tryd.underlying24
  have HB := Aside0.mk (Below.refl w.heap.size w)
  have H : ((spec_CompareNumbers.f a0_0 a0_1 a0_2 a0_3 a0_4 0 0 0 (⟨#[]⟩ : ByteArray) (⟨#[]⟩ : ByteArray) 3).bind fun t369 => (some (t369 == 0))) = some r := h
  clear h
  replace H := Option.bind_eq_some_iff.mp H
  obtain ⟨t369, A20, H⟩ := H
  replace H : (some (t369 == 0)) = some r := H
  have A2 := Aside0.mk A20
  clear A20
  obtain rfl := Option.some.inj H
  go_enter Tryd.func50, Tryd.ntmps50
  go_wp2_with (first | ((with_reducible refine gate_dst (N := 1) rfl ?_); refine box_event ?hg (N := 1) ?hd (cs := #[.int .u64 a0_0, .int .u64 a0_1, .int .u64 a0_2, .string a0_3, .string a0_4]) (t := 24) ?hr ?_; (case hd => rfl); (case hg => rfl); (case hr => first | (go_simp; done) | (go_simp; rfl)); intro gb368 hg w3 hbox hb; have n0_ := Aside0.mk (below_step (by repeat (first | (with_reducible first | exact HB.out | apply below_alloc | apply pw_below_drewN | apply below_drew1) | exact HB.out)) hb); have n1_ := Aside0.mk (hbox); have n2_ := Aside0.mk ((by rw [hg]; exact (below_size (by repeat (first | (with_reducible first | exact HB.out | apply below_alloc | apply pw_below_drewN | apply below_drew1) | exact HB.out))) : w.heap.size ≤ gb368)); have n3_ := Aside0.mk ((by rw [hg]; exact (below_size (by repeat (first | (with_reducible first | exact HB.out | apply below_alloc | apply pw_below_drewN | apply below_drew1) | exact HB.out))) : w.heap.size ≤ gb368)); clear HB; have HB := n0_; have BK368 := n1_; have GW368 := n2_; have GE368 := n3_; clear n0_ n1_ n2_ n3_; clear hb hbox hg; have hcz4_0 : w3.cell? ⟨gb368, 0, none⟩ = some (.int .u64 a0_0) := (blk_cell BK368.out 0).trans rfl; have hcz4_1 : w3.cell? ⟨gb368, 1, none⟩ = some (.int .u64 a0_1) := (blk_cell BK368.out 1).trans rfl; have hcz4_2 : w3.cell? ⟨gb368, 2, none⟩ = some (.int .u64 a0_2) := (blk_cell BK368.out 2).trans rfl; have hcz4_3 : w3.cell? ⟨gb368, 3, none⟩ = some (.string a0_3) := (blk_cell BK368.out 3).trans rfl; have hcz4_4 : w3.cell? ⟨gb368, 4, none⟩ = some (.string a0_4) := (blk_cell BK368.out 4).trans rfl; have hfz4_0 := blk_frozen BK368.out 0; have hfz4_1 := blk_frozen BK368.out 1; have hfz4_2 := blk_frozen BK368.out 2; have hfz4_3 := blk_frozen BK368.out 3; have hfz4_4 := blk_frozen BK368.out 4) | ((with_reducible refine only_callee (f := 94) rfl ?_); refine goesL_ (some 5) rfl rfl Tryd.func94 (by kernel_rfl) rfl #[.agg #[.int .u64 a0_0, .int .u64 a0_1, .int .u64 a0_2, .string a0_3, .string a0_4], .agg #[.int .u64 0, .int .u64 0, .int .u64 0, .string (⟨#[]⟩ : ByteArray), .string (⟨#[]⟩ : ByteArray)], .int .i64 3] rfl (by (try simp only [List.map_toArray, List.map_cons, List.map_nil]); first | done | rfl | (simp only [List.length_drop, List.length_take]; rfl)) ?_; (with_reducible refine (spec_CompareNumbers.calls a0_0 a0_1 a0_2 a0_3 a0_4 0 0 0 (⟨#[]⟩ : ByteArray) (⟨#[]⟩ : ByteArray) 3 t369 _ A2.out).mono ?_); rintro e w5 ⟨rfl, hb⟩; refine ⟨_, rfl, ?_⟩; have n0_ := Aside0.mk (blk_below (g := gb368) (o := .cells #[.int .u64 a0_0, .int .u64 a0_1, .int .u64 a0_2, .string a0_3, .string a0_4] 24 (0, 0)) (by (with_reducible repeat (first | refine blk_drewN ?_ _ | refine blk_drew ?_ | refine blk_alloc ?_ _)); exact BK368.out) hb); have n1_ := Aside0.mk (below_step (by repeat (first | (with_reducible first | exact HB.out | apply below_alloc | apply pw_below_drewN | apply below_drew1 | refine below_set ?_ GE368.out) | exact HB.out)) hb); clear BK368; clear HB; have BK368 := n0_; have HB := n1_; clear n0_ n1_; (try clear hb); (try clear hb2); (try clear hk); (try clear hi)))
  go_ret
  exact ⟨by first | rfl | (simp [errW_none, errW_some] <;> rfl) | (simp [*, errW_none, errW_some] <;> rfl), by repeat (first | (with_reducible first | exact HB.out | apply below_alloc | apply pw_below_drewN | apply below_drew1 | refine below_set ?_ GE368.out) | exact HB.out)⟩

/-! ### laws_stHolds: function 51 -/
def laws_stHolds.f (k : Nat) (a0 : Int) (a1_0 : Int) (a1_1 : Int) (a1_2 : Int) (a1_3 : ByteArray) (a1_4 : ByteArray) (a2 : Int) (a3_0 : Int) (a3_1 : Int) (a3_2 : Int) (a3_3 : ByteArray) (a3_4 : ByteArray) : Option (Bool) := (laws_stTerm.f a0 a1_0 a1_1 a1_2 a1_3 a1_4 a2).bind fun bt372 => ((impl_TermHolds.f k bt372.1 bt372.2.1 bt372.2.2.1 bt372.2.2.2.1 bt372.2.2.2.2.1 bt372.2.2.2.2.2 a3_0 a3_1 a3_2 a3_3 a3_4 true).bind fun t378 => (some t378))
theorem laws_stHolds.mono : ∀ a0 a1 a2 a3 a4 a5 a6 a7 a8 a9 a10 a11 k, LeO (laws_stHolds.f k a0 a1 a2 a3 a4 a5 a6 a7 a8 a9 a10 a11) (laws_stHolds.f (k + 1) a0 a1 a2 a3 a4 a5 a6 a7 a8 a9 a10 a11) := by
  intro a0 a1 a2 a3 a4 a5 a6 a7 a8 a9 a10 a11 k
  unfold laws_stHolds.f
  repeat' first
      | (with_reducible exact impl_TermHolds.mono _ _ _ _ _ _ _ _ _ _ _ _ _)
      | (with_reducible exact LeO.refl _)
      | (with_reducible exact LeO.none _)
      | (with_reducible refine LeO.ite ?_ ?_)
      | (with_reducible refine LeO.bind ?_ (fun _ => ?_))
      | exact impl_TermHolds.mono _ _ _ _ _ _ _ _ _ _ _ _ _
      | exact LeO.none _
      | refine LeO.ite ?_ ?_
      | refine LeO.bind ?_ (fun _ => ?_)
set_option maxHeartbeats 8000000 in
set_option maxRecDepth 100000 in
theorem laws_stHolds.calls (k : Nat) (a0 : Int) (a1_0 : Int) (a1_1 : Int) (a1_2 : Int) (a1_3 : ByteArray) (a1_4 : ByteArray) (a2 : Int) (a3_0 : Int) (a3_1 : Int) (a3_2 : Int) (a3_3 : ByteArray) (a3_4 : ByteArray) (r : Bool) (w : World) (hGE : GlobE w) (h : laws_stHolds.f k a0 a1_0 a1_1 a1_2 a1_3 a1_4 a2 a3_0 a3_1 a3_2 a3_3 a3_4 = some r) :
    Calls Tryd.prog 51 #[.int .i64 a0, .agg #[.int .u64 a1_0, .int .u64 a1_1, .int .u64 a1_2, .string a1_3, .string a1_4], .int .i64 a2, .agg #[.int .u64 a3_0, .int .u64 a3_1, .int .u64 a3_2, .string a3_3, .string a3_4]] w fun e w' => e = .returned (.bool r) ∧ Below w.heap.size w w' := by
  have hu24 := Tryd.underlying24
  have HGE := Aside0.mk hGE
  clear hGE
  have HB := Aside0.mk (Below.refl w.heap.size w)
  have H : ((laws_stTerm.f a0 a1_0 a1_1 a1_2 a1_3 a1_4 a2).bind fun bt372 => ((impl_TermHolds.f k bt372.1 bt372.2.1 bt372.2.2.1 bt372.2.2.2.1 bt372.2.2.2.2.1 bt372.2.2.2.2.2 a3_0 a3_1 a3_2 a3_3 a3_4 true).bind fun t378 => (some t378))) = some r := h
  clear h
  replace H := Option.bind_eq_some_iff.mp H
  obtain ⟨⟨t372, t373, t374, t375, t376, t377⟩, A50, H⟩ := H
  replace H : ((impl_TermHolds.f k t372 t373 t374 t375 t376 t377 a3_0 a3_1 a3_2 a3_3 a3_4 true).bind fun t378 => (some t378)) = some r := H
  have A5 := Aside0.mk A50
  clear A50
  replace H := Option.bind_eq_some_iff.mp H
  obtain ⟨t378, A60, H⟩ := H
  replace H : (some t378) = some r := H
  have A6 := Aside0.mk A60
  clear A60
  obtain rfl := Option.some.inj H
  go_enter Tryd.func51, Tryd.ntmps51
  try go_wp2_with (first | ((with_reducible refine gate_dst (N := 5) rfl ?_); refine box_event ?hg (N := 5) ?hd (cs := #[.int .u64 a1_0, .int .u64 a1_1, .int .u64 a1_2, .string a1_3, .string a1_4]) (t := 24) ?hr ?_; (case hd => rfl); (case hg => rfl); (case hr => first | (go_simp; done) | (go_simp; rfl)); intro gb370 hg w7 hbox hb; have n0_ := Aside0.mk (below_step (by repeat (first | (with_reducible first | exact HB.out | apply below_alloc | apply pw_below_drewN | apply below_drew1) | exact HB.out)) hb); have n1_ := Aside0.mk (hbox); have n2_ := Aside0.mk ((by rw [hg]; exact (below_size (by repeat (first | (with_reducible first | exact HB.out | apply below_alloc | apply pw_below_drewN | apply below_drew1) | exact HB.out))) : w.heap.size ≤ gb370)); have n3_ := Aside0.mk ((by rw [hg]; exact (below_size (by repeat (first | (with_reducible first | exact HB.out | apply below_alloc | apply pw_below_drewN | apply below_drew1) | exact HB.out))) : w.heap.size ≤ gb370)); clear HB; have HB := n0_; have BK370 := n1_; have GW370 := n2_; have GE370 := n3_; clear n0_ n1_ n2_ n3_; clear hb hbox hg) | ((with_reducible refine gate_dst (N := 7) rfl ?_); refine box_event ?hg (N := 7) ?hd (cs := #[.int .u64 a3_0, .int .u64 a3_1, .int .u64 a3_2, .string a3_3, .string a3_4]) (t := 24) ?hr ?_; (case hd => rfl); (case hg => rfl); (case hr => first | (go_simp; done) | (go_simp; rfl)); intro gb371 hg w8 hbox hb; have n0_ := Aside0.mk (blk_below (g := gb370) (o := .cells #[.int .u64 a1_0, .int .u64 a1_1, .int .u64 a1_2, .string a1_3, .string a1_4] 24 (0, 0)) (by (with_reducible repeat (first | refine blk_drewN ?_ _ | refine blk_drew ?_ | refine blk_alloc ?_ _)); exact BK370.out) hb); have n1_ := Aside0.mk (below_step (by repeat (first | (with_reducible first | exact HB.out | apply below_alloc | apply pw_below_drewN | apply below_drew1 | refine below_set ?_ GE370.out) | exact HB.out)) hb); have n2_ := Aside0.mk (hbox); have n3_ := Aside0.mk ((by rw [hg]; exact (below_size (by repeat (first | (with_reducible first | exact HB.out | apply below_alloc | apply pw_below_drewN | apply below_drew1 | refine below_set ?_ GE370.out) | exact HB.out))) : w.heap.size ≤ gb371)); have n4_ := Aside0.mk ((by rw [hg]; exact (below_size (by repeat (first | (with_reducible first | exact HB.out | apply below_alloc | apply pw_below_drewN | apply below_drew1 | refine below_set ?_ GE370.out) | exact HB.out))) : w.heap.size ≤ gb371)); have n5_ := Aside0.mk ((by rw [hg]; exact Nat.ne_of_lt (blk_lt (g := gb370) (o := .cells #[.int .u64 a1_0, .int .u64 a1_1, .int .u64 a1_2, .string a1_3, .string a1_4] 24 (0, 0)) (by (with_reducible repeat (first | refine blk_drewN ?_ _ | refine blk_drew ?_ | refine blk_alloc ?_ _)); exact BK370.out)) : gb370 ≠ gb371)); have n6_ := Aside0.mk ((by rw [hg]; exact Nat.ne_of_gt (blk_lt (g := gb370) (o := .cells #[.int .u64 a1_0, .int .u64 a1_1, .int .u64 a1_2, .string a1_3, .string a1_4] 24 (0, 0)) (by (with_reducible repeat (first | refine blk_drewN ?_ _ | refine blk_drew ?_ | refine blk_alloc ?_ _)); exact BK370.out)) : gb371 ≠ gb370)); clear BK370; clear HB; have BK370 := n0_; have HB := n1_; have BK371 := n2_; have GW371 := n3_; have GE371 := n4_; have NB370_371 := n5_; have NB371_370 := n6_; clear n0_ n1_ n2_ n3_ n4_ n5_ n6_; clear hb hbox hg))
  have n0_ := Aside0.mk (blk_drew BK370.out)
  have n1_ := Aside0.mk (blk_drew BK371.out)
  have n2_ := Aside0.mk (below_drew1 HB.out)
  clear BK370
  clear BK371
  clear HB
  have BK370 := n0_
  have BK371 := n1_
  have HB := n2_
  clear n0_ n1_ n2_
  refine start_ (n := 7) (S := fun w' => w'.cell? ⟨gb370, 0, none⟩ = some (.int .u64 a1_0) ∧ w'.cell? ⟨gb370, 1, none⟩ = some (.int .u64 a1_1) ∧ w'.cell? ⟨gb370, 2, none⟩ = some (.int .u64 a1_2) ∧ w'.cell? ⟨gb370, 3, none⟩ = some (.string a1_3) ∧ w'.cell? ⟨gb370, 4, none⟩ = some (.string a1_4) ∧ w'.cell? ⟨gb371, 0, none⟩ = some (.int .u64 a3_0) ∧ w'.cell? ⟨gb371, 1, none⟩ = some (.int .u64 a3_1) ∧ w'.cell? ⟨gb371, 2, none⟩ = some (.int .u64 a3_2) ∧ w'.cell? ⟨gb371, 3, none⟩ = some (.string a3_3) ∧ w'.cell? ⟨gb371, 4, none⟩ = some (.string a3_4)) (ds := []) #[false, false, false, false, false, false, false] (by kernel_rfl) rfl rfl ⟨(blk_cell BK370.out 0).trans rfl, (blk_cell BK370.out 1).trans rfl, (blk_cell BK370.out 2).trans rfl, (blk_cell BK370.out 3).trans rfl, (blk_cell BK370.out 4).trans rfl, (blk_cell BK371.out 0).trans rfl, (blk_cell BK371.out 1).trans rfl, (blk_cell BK371.out 2).trans rfl, (blk_cell BK371.out 3).trans rfl, (blk_cell BK371.out 4).trans rfl⟩ (fun hHeld => ?_)
  generalize w8.drew = w9 at BK370 BK371 HB hHeld ⊢
  refine pure_ (i := 0) (N := some 9) (v := ?_) (a' := ?_) #[true, false, false, false, false, false, false] rfl rfl (by kernel_rfl) (fun _ _ _ h => h) (Or.inl ⟨by rfl, ?_⟩) ?_ ?_
  rotate_left
  · intro w'
    go_simp
    with_reducible rfl
  rotate_left
  · simp only [Act.put, List.setIfInBounds_toArray, List.set_cons_zero, List.set_cons_succ, i64_w, i32_w]
    rfl
  refine pure_ (i := 2) (N := some 11) (v := ?_) (a' := ?_) #[true, false, true, false, false, false, false] rfl rfl (by kernel_rfl) (fun _ _ _ h => h) (Or.inl ⟨by rfl, ?_⟩) ?_ ?_
  rotate_left
  · intro w'
    go_simp
    with_reducible rfl
  rotate_left
  · simp only [Act.put, List.setIfInBounds_toArray, List.set_cons_zero, List.set_cons_succ, i64_w, i32_w]
    rfl
  refine take_ (i := 1) (N := some 10) (v := ?_) (a' := ?_) #[true, true, true, false, false, false, false] rfl rfl (by kernel_rfl) (fun _ _ _ h => h) (Or.inl ⟨by rfl, ?_⟩) hHeld ?_ ?_
  rotate_left
  · rintro w' ⟨s0, s1, s2, s3, s4, s5, s6, s7, s8, s9⟩
    go_simp
    with_reducible rfl
  rotate_left
  · simp only [Act.put, List.setIfInBounds_toArray, List.set_cons_zero, List.set_cons_succ, i64_w, i32_w]
    rfl
  refine take_ (i := 4) (N := some 13) (v := ?_) (a' := ?_) #[true, true, true, false, true, false, false] rfl rfl (by kernel_rfl) (fun _ _ _ h => h) (Or.inl ⟨by rfl, ?_⟩) hHeld ?_ ?_
  rotate_left
  · rintro w' ⟨s0, s1, s2, s3, s4, s5, s6, s7, s8, s9⟩
    go_simp
    with_reducible rfl
  rotate_left
  · simp only [Act.put, List.setIfInBounds_toArray, List.set_cons_zero, List.set_cons_succ, i64_w, i32_w]
    rfl
  refine one_ (i := 3) (N := some 12) #[true, true, true, true, true, false, false] rfl rfl (by kernel_rfl) (by decide) (fun K hK => ?_)
  refine goes_ Tryd.func37 (by kernel_rfl) rfl #[.int .i64 a0, .agg #[.int .u64 a1_0, .int .u64 a1_1, .int .u64 a1_2, .string a1_3, .string a1_4], .int .i64 a2] (by rfl) rfl rfl (by (try simp only [List.map_toArray, List.map_cons, List.map_nil]); first | done | rfl | (simp only [List.length_drop, List.length_take]; rfl)) ?_
  with_reducible refine (laws_stTerm.calls a0 a1_0 a1_1 a1_2 a1_3 a1_4 a2 t372 t373 t374 t375 t376 t377 _ A5.out).mono ?_
  rintro e w10 ⟨rfl, hb⟩
  refine ⟨_, rfl, ?_⟩
  have n0_ := Aside0.mk (blk_below (g := gb370) (o := .cells #[.int .u64 a1_0, .int .u64 a1_1, .int .u64 a1_2, .string a1_3, .string a1_4] 24 (0, 0)) (by (with_reducible repeat (first | refine blk_drewN ?_ _ | refine blk_drew ?_ | refine blk_alloc ?_ _)); exact BK370.out) hb)
  have n1_ := Aside0.mk (blk_below (g := gb371) (o := .cells #[.int .u64 a3_0, .int .u64 a3_1, .int .u64 a3_2, .string a3_3, .string a3_4] 24 (0, 0)) (by (with_reducible repeat (first | refine blk_drewN ?_ _ | refine blk_drew ?_ | refine blk_alloc ?_ _)); exact BK371.out) hb)
  have n2_ := Aside0.mk (below_step (by repeat (first | (with_reducible first | exact HB.out | apply below_alloc | apply pw_below_drewN | apply below_drew1 | refine below_set ?_ GE370.out | refine below_set ?_ GE371.out) | exact HB.out)) hb)
  clear BK370
  clear BK371
  clear HB
  have BK370 := n0_
  have BK371 := n1_
  have HB := n2_
  clear n0_ n1_ n2_
  (try clear hb)
  (try clear hb2)
  (try clear hk)
  (try clear hi)
  refine hK.out _ _ ⟨(blk_cell BK370.out 0).trans rfl, (blk_cell BK370.out 1).trans rfl, (blk_cell BK370.out 2).trans rfl, (blk_cell BK370.out 3).trans rfl, (blk_cell BK370.out 4).trans rfl, (blk_cell BK371.out 0).trans rfl, (blk_cell BK371.out 1).trans rfl, (blk_cell BK371.out 2).trans rfl, (blk_cell BK371.out 3).trans rfl, (blk_cell BK371.out 4).trans rfl⟩ (fun hHeld => ?_)
  clear hK K
  refine norm_ (a' := ?_) ?_ ?_
  rotate_left
  · show Act.put _ (some 12) _ = _
    simp only [Act.put, List.setIfInBounds_toArray, List.set_cons_zero, List.set_cons_succ, i64_w, i32_w]
    rfl
  refine one_ (i := 5) (N := some 14) #[true, true, true, true, true, true, false] rfl rfl (by kernel_rfl) (by decide) (fun K hK => ?_)
  refine goes_ Tryd.func48 (by kernel_rfl) rfl #[.agg #[.int .i64 t372, .int .i64 t373, .int .u64 t374, .int .u64 t375, .int .u64 t376, .string t377], .agg #[.int .u64 a3_0, .int .u64 a3_1, .int .u64 a3_2, .string a3_3, .string a3_4], .bool true] (by rfl) rfl rfl (by (try simp only [List.map_toArray, List.map_cons, List.map_nil]); first | done | rfl | (simp only [List.length_drop, List.length_take]; rfl)) ?_
  with_reducible refine (impl_TermHolds.calls k t372 t373 t374 t375 t376 t377 a3_0 a3_1 a3_2 a3_3 a3_4 true t378 _ ?side1 A6.out).mono ?_
  (case side1 => exact globE_below HGE.out (by repeat (first | (with_reducible first | exact HB.out | apply below_alloc | apply pw_below_drewN | apply below_drew1 | refine below_set ?_ GE370.out | refine below_set ?_ GE371.out) | exact HB.out)))
  rintro e w11 ⟨rfl, hb⟩
  refine ⟨_, rfl, ?_⟩
  have n0_ := Aside0.mk (blk_below (g := gb370) (o := .cells #[.int .u64 a1_0, .int .u64 a1_1, .int .u64 a1_2, .string a1_3, .string a1_4] 24 (0, 0)) (by (with_reducible repeat (first | refine blk_drewN ?_ _ | refine blk_drew ?_ | refine blk_alloc ?_ _)); exact BK370.out) hb)
  have n1_ := Aside0.mk (blk_below (g := gb371) (o := .cells #[.int .u64 a3_0, .int .u64 a3_1, .int .u64 a3_2, .string a3_3, .string a3_4] 24 (0, 0)) (by (with_reducible repeat (first | refine blk_drewN ?_ _ | refine blk_drew ?_ | refine blk_alloc ?_ _)); exact BK371.out) hb)
  have n2_ := Aside0.mk (below_step (by repeat (first | (with_reducible first | exact HB.out | apply below_alloc | apply pw_below_drewN | apply below_drew1 | refine below_set ?_ GE370.out | refine below_set ?_ GE371.out) | exact HB.out)) hb)
  clear BK370
  clear BK371
  clear HB
  have BK370 := n0_
  have BK371 := n1_
  have HB := n2_
  clear n0_ n1_ n2_
  (try clear hb)
  (try clear hb2)
  (try clear hk)
  (try clear hi)
  refine hK.out _ _ ⟨(blk_cell BK370.out 0).trans rfl, (blk_cell BK370.out 1).trans rfl, (blk_cell BK370.out 2).trans rfl, (blk_cell BK370.out 3).trans rfl, (blk_cell BK370.out 4).trans rfl, (blk_cell BK371.out 0).trans rfl, (blk_cell BK371.out 1).trans rfl, (blk_cell BK371.out 2).trans rfl, (blk_cell BK371.out 3).trans rfl, (blk_cell BK371.out 4).trans rfl⟩ (fun hHeld => ?_)
  clear hK K
  refine norm_ (a' := ?_) ?_ ?_
  rotate_left
  · show Act.put _ (some 14) _ = _
    simp only [Act.put, List.setIfInBounds_toArray, List.set_cons_zero, List.set_cons_succ, i64_w, i32_w]
    rfl
  refine pure_ (i := 6) (N := some 8) (v := ?_) (a' := ?_) #[true, true, true, true, true, true, true] rfl rfl (by kernel_rfl) (fun _ _ _ h => h) (Or.inl ⟨by rfl, ?_⟩) ?_ ?_
  rotate_left
  · intro w'
    go_simp
    with_reducible rfl
  rotate_left
  · simp only [Act.put, List.setIfInBounds_toArray, List.set_cons_zero, List.set_cons_succ, i64_w, i32_w]
    rfl
  refine done_ (by kernel_rfl) ?_
  try go_wp2
  go_ret
  exact ⟨by first | rfl | (simp [errW_none, errW_some] <;> rfl) | (simp [*, errW_none, errW_some] <;> rfl), by repeat (first | (with_reducible first | exact HB.out | apply below_alloc | apply pw_below_drewN | apply below_drew1 | refine below_set ?_ GE370.out | refine below_set ?_ GE371.out) | exact HB.out)⟩

end Go.Proofs.YtlooelfkkbgmhaaDoor.QS
