-- written by a program of mine (wip/tools/myprint.py) for this claim. Not trusted: Lean checks it.
import Derived.Test.YtapdpmjbfplmfaaQRefx0
import Derived.Test.YtapdpmjbfplmfaaQRefx1
namespace Go.Proofs.Ytapdpmjbfplmfaa.QRef
open Go.RowKit Go.Proofs.YtapdpmjbfplmfaaW.PrintWords Go.Proofs.YtapdpmjbfplmfaaW.PrintLast Go.Proofs.YtapdpmjbfplmfaaW.PrintMore
attribute [local go_sem] max2_int min2_int max_two min_two max_three min_three max_four min_four   -- for this text's walks alone
set_option linter.unusedVariables false
set_option linter.unusedSimpArgs false

/-! ### laws_FnRefTells: function 7 -/
def laws_FnRefTells.f (k : Nat) (a0_0 : ByteArray) (a0_1 : ByteArray) (a0_2 : ByteArray) (a0_3 : ByteArray) : Option (Bool) := (laws_zzFits7.f a0_0 a0_1 a0_2 a0_3).bind fun t105 => (if t105 = true then ((laws_refShort.f a0_0 a0_1 a0_2 a0_3).bind fun t106 => (if t106 = true then ((impl_RefTells.f a0_0 a0_1 a0_2 a0_3).bind fun t107 => ((spec_RefTells.f k a0_0 a0_1 a0_2 a0_3).bind fun t108 => (some (t107 == t108)))) else (some true))) else (some true))
theorem laws_FnRefTells.mono : ∀ a0 a1 a2 a3 k, LeO (laws_FnRefTells.f k a0 a1 a2 a3) (laws_FnRefTells.f (k + 1) a0 a1 a2 a3) := by
  intro a0 a1 a2 a3 k
  unfold laws_FnRefTells.f
  repeat' first
      | (with_reducible exact spec_RefTells.mono _ _ _ _ _)
      | (with_reducible exact LeO.refl _)
      | (with_reducible exact LeO.none _)
      | (with_reducible refine LeO.ite ?_ ?_)
      | (with_reducible refine LeO.bind ?_ (fun _ => ?_))
      | exact spec_RefTells.mono _ _ _ _ _
      | exact LeO.none _
      | refine LeO.ite ?_ ?_
      | refine LeO.bind ?_ (fun _ => ?_)
def laws_FnRefTells.T3 : Bool × List (List Nat × List Nat) := (true, [([], []), ([0], [0]), ([1], [1]), ([2, 1], [2]), ([3], [3]), ([4, 3, 3], [3, 4]), ([3], [3]), ([6, 5, 3], [3, 6]), ([5, 7, 3], [3, 5, 7]), ([3, 8], [3, 8]), ([9, 7, 0, 1, 2, 3, 4, 5, 6, 7, 8, 9], [9])])
def laws_FnRefTells.B3 : List Nat := [0, 1, 3, 7, 15, 31, 15, 127, 255, 511, 1023]
theorem laws_FnRefTells.tab3 : rtab .any (opsOf Try.f7 3) = laws_FnRefTells.T3 := by kernel_rfl
theorem laws_FnRefTells.bits3 : waitsOk laws_FnRefTells.T3.2 laws_FnRefTells.B3 = true := by kernel_rfl
set_option maxHeartbeats 8000000 in
set_option maxRecDepth 100000 in
theorem laws_FnRefTells.calls (k : Nat) (a0_0 : ByteArray) (a0_1 : ByteArray) (a0_2 : ByteArray) (a0_3 : ByteArray) (r : Bool) (w : World) (h : laws_FnRefTells.f k a0_0 a0_1 a0_2 a0_3 = some r) :
    Calls Try.prog 7 #[.agg #[.string a0_0, .string a0_1, .string a0_2, .string a0_3]] w fun e w' => e = .returned (.bool r) ∧ Below w.heap.size w w' := by
  have hu34 := Try.underlying34
  have HB := Aside0.mk (Below.refl w.heap.size w)
  have H : ((laws_zzFits7.f a0_0 a0_1 a0_2 a0_3).bind fun t105 => (if t105 = true then ((laws_refShort.f a0_0 a0_1 a0_2 a0_3).bind fun t106 => (if t106 = true then ((impl_RefTells.f a0_0 a0_1 a0_2 a0_3).bind fun t107 => ((spec_RefTells.f k a0_0 a0_1 a0_2 a0_3).bind fun t108 => (some (t107 == t108)))) else (some true))) else (some true))) = some r := h
  clear h
  replace H := Option.bind_eq_some_iff.mp H
  obtain ⟨t105, A20, H⟩ := H
  replace H : (if t105 = true then ((laws_refShort.f a0_0 a0_1 a0_2 a0_3).bind fun t106 => (if t106 = true then ((impl_RefTells.f a0_0 a0_1 a0_2 a0_3).bind fun t107 => ((spec_RefTells.f k a0_0 a0_1 a0_2 a0_3).bind fun t108 => (some (t107 == t108)))) else (some true))) else (some true)) = some r := H
  have A2 := Aside0.mk A20
  clear A20
  by_cases c3 : t105 = true
  · subst c3
    have H1 : ((laws_refShort.f a0_0 a0_1 a0_2 a0_3).bind fun t106 => (if t106 = true then ((impl_RefTells.f a0_0 a0_1 a0_2 a0_3).bind fun t107 => ((spec_RefTells.f k a0_0 a0_1 a0_2 a0_3).bind fun t108 => (some (t107 == t108)))) else (some true))) = some r := by rw [if_pos rfl] at H; exact H
    clear H
    have H := H1
    clear H1
    replace H := Option.bind_eq_some_iff.mp H
    obtain ⟨t106, A40, H⟩ := H
    replace H : (if t106 = true then ((impl_RefTells.f a0_0 a0_1 a0_2 a0_3).bind fun t107 => ((spec_RefTells.f k a0_0 a0_1 a0_2 a0_3).bind fun t108 => (some (t107 == t108)))) else (some true)) = some r := H
    have A4 := Aside0.mk A40
    clear A40
    by_cases c5 : t106 = true
    · subst c5
      have H1 : ((impl_RefTells.f a0_0 a0_1 a0_2 a0_3).bind fun t107 => ((spec_RefTells.f k a0_0 a0_1 a0_2 a0_3).bind fun t108 => (some (t107 == t108)))) = some r := by rw [if_pos rfl] at H; exact H
      clear H
      have H := H1
      clear H1
      replace H := Option.bind_eq_some_iff.mp H
      obtain ⟨t107, A60, H⟩ := H
      replace H : ((spec_RefTells.f k a0_0 a0_1 a0_2 a0_3).bind fun t108 => (some (t107 == t108))) = some r := H
      have A6 := Aside0.mk A60
      clear A60
      replace H := Option.bind_eq_some_iff.mp H
      obtain ⟨t108, A70, H⟩ := H
      replace H : (some (t107 == t108)) = some r := H
      have A7 := Aside0.mk A70
      clear A70
      obtain rfl := Option.some.inj H
      go_enter Try.func7, Try.ntmps7
      try go_wp2_with (first | ((with_reducible refine gate_dst (N := 1) rfl ?_); refine box_event ?hg (N := 1) ?hd (cs := #[.string a0_0, .string a0_1, .string a0_2, .string a0_3]) (t := 34) ?hr ?_; (case hd => rfl); (case hg => rfl); (case hr => first | (go_simp; done) | (go_simp; rfl)); intro gb104 hg w8 hbox hb; have n0_ := Aside0.mk (below_step (by repeat (first | (with_reducible first | exact HB.out | apply below_alloc | apply pw_below_drewN | apply below_drew1) | exact HB.out)) hb); have n1_ := Aside0.mk (hbox); have n2_ := Aside0.mk ((by rw [hg]; exact (below_size (by repeat (first | (with_reducible first | exact HB.out | apply below_alloc | apply pw_below_drewN | apply below_drew1) | exact HB.out))) : w.heap.size ≤ gb104)); have n3_ := Aside0.mk ((by rw [hg]; exact (below_size (by repeat (first | (with_reducible first | exact HB.out | apply below_alloc | apply pw_below_drewN | apply below_drew1) | exact HB.out))) : w.heap.size ≤ gb104)); clear HB; have HB := n0_; have BK104 := n1_; have GW104 := n2_; have GE104 := n3_; clear n0_ n1_ n2_ n3_; clear hb hbox hg; have hcz9_0 : w8.cell? ⟨gb104, 0, none⟩ = some (.string a0_0) := (blk_cell BK104.out 0).trans rfl; have hcz9_1 : w8.cell? ⟨gb104, 1, none⟩ = some (.string a0_1) := (blk_cell BK104.out 1).trans rfl; have hcz9_2 : w8.cell? ⟨gb104, 2, none⟩ = some (.string a0_2) := (blk_cell BK104.out 2).trans rfl; have hcz9_3 : w8.cell? ⟨gb104, 3, none⟩ = some (.string a0_3) := (blk_cell BK104.out 3).trans rfl; have hfz9_0 := blk_frozen BK104.out 0; have hfz9_1 := blk_frozen BK104.out 1; have hfz9_2 := blk_frozen BK104.out 2; have hfz9_3 := blk_frozen BK104.out 3) | ((with_reducible refine gate_callee (f := 14) rfl ?_); refine goesL_ (some 4) rfl rfl Try.func14 (by kernel_rfl) rfl #[.agg #[.string a0_0, .string a0_1, .string a0_2, .string a0_3]] rfl (by (try simp only [List.map_toArray, List.map_cons, List.map_nil]); first | done | rfl | (simp only [List.length_drop, List.length_take]; rfl)) ?_; (with_reducible refine (laws_zzFits7.calls a0_0 a0_1 a0_2 a0_3 true _ A2.out).mono ?_); rintro e w10 ⟨rfl, hb⟩; refine ⟨_, rfl, ?_⟩; have n0_ := Aside0.mk (blk_below (g := gb104) (o := .cells #[.string a0_0, .string a0_1, .string a0_2, .string a0_3] 34 (0, 0)) (by (with_reducible repeat (first | refine blk_drewN ?_ _ | refine blk_drew ?_ | refine blk_alloc ?_ _)); exact BK104.out) hb); have n1_ := Aside0.mk (below_step (by repeat (first | (with_reducible first | exact HB.out | apply below_alloc | apply pw_below_drewN | apply below_drew1 | refine below_set ?_ GE104.out) | exact HB.out)) hb); clear BK104; clear HB; have BK104 := n0_; have HB := n1_; clear n0_ n1_; (try clear hb); (try clear hb2); (try clear hk); (try clear hi)))
      have n0_ := Aside0.mk (blk_drew BK104.out)
      have n1_ := Aside0.mk (below_drew1 HB.out)
      clear BK104
      clear HB
      have BK104 := n0_
      have HB := n1_
      clear n0_ n1_
      refine start_ (n := 11) (S := fun w' => w'.cell? ⟨gb104, 0, none⟩ = some (.string a0_0) ∧ w'.cell? ⟨gb104, 1, none⟩ = some (.string a0_1) ∧ w'.cell? ⟨gb104, 2, none⟩ = some (.string a0_2) ∧ w'.cell? ⟨gb104, 3, none⟩ = some (.string a0_3)) (ds := []) #[false, false, false, false, false, false, false, false, false, false, false] (by kernel_rfl) rfl rfl ⟨(blk_cell BK104.out 0).trans rfl, (blk_cell BK104.out 1).trans rfl, (blk_cell BK104.out 2).trans rfl, (blk_cell BK104.out 3).trans rfl⟩ (fun hHeld => ?_); refine with_tabW laws_FnRefTells.tab3 laws_FnRefTells.bits3 (fun HT_ HW_ => ?_)
      generalize w10.drew = w11 at BK104 HB hHeld ⊢
      refine take_ (i := 0) (N := some 6) (v := ?_) (a' := ?_) #[true, false, false, false, false, false, false, false, false, false, false] rfl rfl (take_ofW HT_.out HW_.out (by kernel_rfl)) (fun _ _ _ h => h) (Or.inl ⟨by rfl, ?_⟩) hHeld ?_ ?_
      rotate_left
      · rintro w' ⟨s0, s1, s2, s3⟩
        go_simp
        with_reducible rfl
      rotate_left
      · simp only [Act.put, List.setIfInBounds_toArray, List.set_cons_zero, List.set_cons_succ, i64_w, i32_w]
        rfl
      refine one_ (i := 1) (N := some 7) #[true, true, false, false, false, false, false, false, false, false, false] rfl rfl (one_of HT_.out (by kernel_rfl)) (by decide) (fun K hK => ?_)
      refine goes_ Try.func15 (by kernel_rfl) rfl #[.agg #[.string a0_0, .string a0_1, .string a0_2, .string a0_3]] (by rfl) rfl rfl (by (try simp only [List.map_toArray, List.map_cons, List.map_nil]); first | done | rfl | (simp only [List.length_drop, List.length_take]; rfl)) ?_
      with_reducible refine (laws_refShort.calls a0_0 a0_1 a0_2 a0_3 true _ A4.out).mono ?_
      rintro e w12 ⟨rfl, hb⟩
      refine ⟨_, rfl, ?_⟩
      have n0_ := Aside0.mk (blk_below (g := gb104) (o := .cells #[.string a0_0, .string a0_1, .string a0_2, .string a0_3] 34 (0, 0)) (by (with_reducible repeat (first | refine blk_drewN ?_ _ | refine blk_drew ?_ | refine blk_alloc ?_ _)); exact BK104.out) hb)
      have n1_ := Aside0.mk (below_step (by repeat (first | (with_reducible first | exact HB.out | apply below_alloc | apply pw_below_drewN | apply below_drew1 | refine below_set ?_ GE104.out) | exact HB.out)) hb)
      clear BK104
      clear HB
      have BK104 := n0_
      have HB := n1_
      clear n0_ n1_
      (try clear hb)
      (try clear hb2)
      (try clear hk)
      (try clear hi)
      refine hK.out _ _ ⟨(blk_cell BK104.out 0).trans rfl, (blk_cell BK104.out 1).trans rfl, (blk_cell BK104.out 2).trans rfl, (blk_cell BK104.out 3).trans rfl⟩ (fun hHeld => ?_)
      clear hK K
      refine norm_ (a' := ?_) ?_ ?_
      rotate_left
      · show Act.put _ (some 7) _ = _
        simp only [Act.put, List.setIfInBounds_toArray, List.set_cons_zero, List.set_cons_succ, i64_w, i32_w]
        rfl
      refine pure_ (i := 2) (N := some 8) (v := ?_) (a' := ?_) #[true, true, true, false, false, false, false, false, false, false, false] rfl rfl (any_of HT_.out (by kernel_rfl)) (fun _ _ _ h => h) (Or.inl ⟨by rfl, ?_⟩) ?_ ?_
      rotate_left
      · intro w'
        go_simp
        with_reducible rfl
      rotate_left
      · simp only [Act.put, List.setIfInBounds_toArray, List.set_cons_zero, List.set_cons_succ, i64_w, i32_w]
        rfl
      refine pure_ (i := 3) (N := some 9) (v := ?_) (a' := ?_) #[true, true, true, true, false, false, false, false, false, false, false] rfl rfl (any_of HT_.out (by kernel_rfl)) (fun _ _ _ h => h) (Or.inl ⟨by rfl, ?_⟩) ?_ ?_
      rotate_left
      · intro w'
        go_simp
        with_reducible rfl
      rotate_left
      · simp only [Act.put, List.setIfInBounds_toArray, List.set_cons_zero, List.set_cons_succ, i64_w, i32_w]
        rfl
      refine take_ (i := 4) (N := some 10) (v := ?_) (a' := ?_) #[true, true, true, true, true, false, false, false, false, false, false] rfl rfl (take_ofW HT_.out HW_.out (by kernel_rfl)) (fun _ _ _ h => h) (Or.inl ⟨by rfl, ?_⟩) hHeld ?_ ?_
      rotate_left
      · rintro w' ⟨s0, s1, s2, s3⟩
        go_simp
        with_reducible rfl
      rotate_left
      · simp only [Act.put, List.setIfInBounds_toArray, List.set_cons_zero, List.set_cons_succ, i64_w, i32_w]
        rfl
      refine take_ (i := 6) (N := some 12) (v := ?_) (a' := ?_) #[true, true, true, true, true, false, true, false, false, false, false] rfl rfl (take_ofW HT_.out HW_.out (by kernel_rfl)) (fun _ _ _ h => h) (Or.inl ⟨by rfl, ?_⟩) hHeld ?_ ?_
      rotate_left
      · rintro w' ⟨s0, s1, s2, s3⟩
        go_simp
        with_reducible rfl
      rotate_left
      · simp only [Act.put, List.setIfInBounds_toArray, List.set_cons_zero, List.set_cons_succ, i64_w, i32_w]
        rfl
      refine one_ (i := 5) (N := some 11) #[true, true, true, true, true, true, true, false, false, false, false] rfl rfl (one_of HT_.out (by kernel_rfl)) (by decide) (fun K hK => ?_)
      refine goes_ Try.func16 (by kernel_rfl) rfl #[.agg #[.string a0_0, .string a0_1, .string a0_2, .string a0_3]] (by rfl) rfl rfl (by (try simp only [List.map_toArray, List.map_cons, List.map_nil]); first | done | rfl | (simp only [List.length_drop, List.length_take]; rfl)) ?_
      with_reducible refine (impl_RefTells.calls a0_0 a0_1 a0_2 a0_3 t107 _ A6.out).mono ?_
      rintro e w13 ⟨rfl, hb⟩
      refine ⟨_, rfl, ?_⟩
      have n0_ := Aside0.mk (blk_below (g := gb104) (o := .cells #[.string a0_0, .string a0_1, .string a0_2, .string a0_3] 34 (0, 0)) (by (with_reducible repeat (first | refine blk_drewN ?_ _ | refine blk_drew ?_ | refine blk_alloc ?_ _)); exact BK104.out) hb)
      have n1_ := Aside0.mk (below_step (by repeat (first | (with_reducible first | exact HB.out | apply below_alloc | apply pw_below_drewN | apply below_drew1 | refine below_set ?_ GE104.out) | exact HB.out)) hb)
      clear BK104
      clear HB
      have BK104 := n0_
      have HB := n1_
      clear n0_ n1_
      (try clear hb)
      (try clear hb2)
      (try clear hk)
      (try clear hi)
      refine hK.out _ _ ⟨(blk_cell BK104.out 0).trans rfl, (blk_cell BK104.out 1).trans rfl, (blk_cell BK104.out 2).trans rfl, (blk_cell BK104.out 3).trans rfl⟩ (fun hHeld => ?_)
      clear hK K
      refine norm_ (a' := ?_) ?_ ?_
      rotate_left
      · show Act.put _ (some 11) _ = _
        simp only [Act.put, List.setIfInBounds_toArray, List.set_cons_zero, List.set_cons_succ, i64_w, i32_w]
        rfl
      refine one_ (i := 7) (N := some 13) #[true, true, true, true, true, true, true, true, false, false, false] rfl rfl (one_of HT_.out (by kernel_rfl)) (by decide) (fun K hK => ?_)
      refine goes_ Try.func17 (by kernel_rfl) rfl #[.agg #[.string a0_0, .string a0_1, .string a0_2, .string a0_3]] (by rfl) rfl rfl (by (try simp only [List.map_toArray, List.map_cons, List.map_nil]); first | done | rfl | (simp only [List.length_drop, List.length_take]; rfl)) ?_
      with_reducible refine (spec_RefTells.calls k a0_0 a0_1 a0_2 a0_3 t108 _ A7.out).mono ?_
      rintro e w14 ⟨rfl, hb⟩
      refine ⟨_, rfl, ?_⟩
      have n0_ := Aside0.mk (blk_below (g := gb104) (o := .cells #[.string a0_0, .string a0_1, .string a0_2, .string a0_3] 34 (0, 0)) (by (with_reducible repeat (first | refine blk_drewN ?_ _ | refine blk_drew ?_ | refine blk_alloc ?_ _)); exact BK104.out) hb)
      have n1_ := Aside0.mk (below_step (by repeat (first | (with_reducible first | exact HB.out | apply below_alloc | apply pw_below_drewN | apply below_drew1 | refine below_set ?_ GE104.out) | exact HB.out)) hb)
      clear BK104
      clear HB
      have BK104 := n0_
      have HB := n1_
      clear n0_ n1_
      (try clear hb)
      (try clear hb2)
      (try clear hk)
      (try clear hi)
      refine hK.out _ _ ⟨(blk_cell BK104.out 0).trans rfl, (blk_cell BK104.out 1).trans rfl, (blk_cell BK104.out 2).trans rfl, (blk_cell BK104.out 3).trans rfl⟩ (fun hHeld => ?_)
      clear hK K
      refine norm_ (a' := ?_) ?_ ?_
      rotate_left
      · show Act.put _ (some 13) _ = _
        simp only [Act.put, List.setIfInBounds_toArray, List.set_cons_zero, List.set_cons_succ, i64_w, i32_w]
        rfl
      refine pure_ (i := 8) (N := some 14) (v := ?_) (a' := ?_) #[true, true, true, true, true, true, true, true, true, false, false] rfl rfl (any_of HT_.out (by kernel_rfl)) (fun _ _ _ h => h) (Or.inl ⟨by rfl, ?_⟩) ?_ ?_
      rotate_left
      · intro w'
        go_simp
        with_reducible rfl
      rotate_left
      · simp only [Act.put, List.setIfInBounds_toArray, List.set_cons_zero, List.set_cons_succ, i64_w, i32_w]
        rfl
      refine pure_ (i := 9) (N := some 15) (v := ?_) (a' := ?_) #[true, true, true, true, true, true, true, true, true, true, false] rfl rfl (any_of HT_.out (by kernel_rfl)) (fun _ _ _ h => h) (Or.inl ⟨by rfl, ?_⟩) ?_ ?_
      rotate_left
      · intro w'
        go_simp
        with_reducible rfl
      rotate_left
      · simp only [Act.put, List.setIfInBounds_toArray, List.set_cons_zero, List.set_cons_succ, i64_w, i32_w]
        rfl
      refine pure_ (i := 10) (N := some 2) (v := ?_) (a' := ?_) #[true, true, true, true, true, true, true, true, true, true, true] rfl rfl (any_of HT_.out (by kernel_rfl)) (fun _ _ _ h => h) (Or.inl ⟨by rfl, ?_⟩) ?_ ?_
      rotate_left
      · intro w'
        go_simp
        with_reducible rfl
      rotate_left
      · simp only [Act.put, List.setIfInBounds_toArray, List.set_cons_zero, List.set_cons_succ, i64_w, i32_w]
        rfl
      refine done_ (done_of HT_.out (by kernel_rfl)) ?_
      try go_wp2
      go_ret
      exact ⟨by first | rfl | (simp [errW_none, errW_some] <;> rfl) | (simp [*, errW_none, errW_some] <;> rfl), by repeat (first | (with_reducible first | exact HB.out | apply below_alloc | apply pw_below_drewN | apply below_drew1 | refine below_set ?_ GE104.out) | exact HB.out)⟩
    · replace c5 := Bool.eq_false_iff.mpr c5
      subst c5
      have H1 : (some true) = some r := by rw [if_neg (show ¬ (false = true) by decide)] at H; exact H
      clear H
      have H := H1
      clear H1
      obtain rfl := Option.some.inj H
      go_enter Try.func7, Try.ntmps7
      try go_wp2_with (first | ((with_reducible refine gate_dst (N := 1) rfl ?_); refine box_event ?hg (N := 1) ?hd (cs := #[.string a0_0, .string a0_1, .string a0_2, .string a0_3]) (t := 34) ?hr ?_; (case hd => rfl); (case hg => rfl); (case hr => first | (go_simp; done) | (go_simp; rfl)); intro gb104 hg w15 hbox hb; have n0_ := Aside0.mk (below_step (by repeat (first | (with_reducible first | exact HB.out | apply below_alloc | apply pw_below_drewN | apply below_drew1) | exact HB.out)) hb); have n1_ := Aside0.mk (hbox); have n2_ := Aside0.mk ((by rw [hg]; exact (below_size (by repeat (first | (with_reducible first | exact HB.out | apply below_alloc | apply pw_below_drewN | apply below_drew1) | exact HB.out))) : w.heap.size ≤ gb104)); have n3_ := Aside0.mk ((by rw [hg]; exact (below_size (by repeat (first | (with_reducible first | exact HB.out | apply below_alloc | apply pw_below_drewN | apply below_drew1) | exact HB.out))) : w.heap.size ≤ gb104)); clear HB; have HB := n0_; have BK104 := n1_; have GW104 := n2_; have GE104 := n3_; clear n0_ n1_ n2_ n3_; clear hb hbox hg; have hcz16_0 : w15.cell? ⟨gb104, 0, none⟩ = some (.string a0_0) := (blk_cell BK104.out 0).trans rfl; have hcz16_1 : w15.cell? ⟨gb104, 1, none⟩ = some (.string a0_1) := (blk_cell BK104.out 1).trans rfl; have hcz16_2 : w15.cell? ⟨gb104, 2, none⟩ = some (.string a0_2) := (blk_cell BK104.out 2).trans rfl; have hcz16_3 : w15.cell? ⟨gb104, 3, none⟩ = some (.string a0_3) := (blk_cell BK104.out 3).trans rfl; have hfz16_0 := blk_frozen BK104.out 0; have hfz16_1 := blk_frozen BK104.out 1; have hfz16_2 := blk_frozen BK104.out 2; have hfz16_3 := blk_frozen BK104.out 3) | ((with_reducible refine gate_callee (f := 14) rfl ?_); refine goesL_ (some 4) rfl rfl Try.func14 (by kernel_rfl) rfl #[.agg #[.string a0_0, .string a0_1, .string a0_2, .string a0_3]] rfl (by (try simp only [List.map_toArray, List.map_cons, List.map_nil]); first | done | rfl | (simp only [List.length_drop, List.length_take]; rfl)) ?_; (with_reducible refine (laws_zzFits7.calls a0_0 a0_1 a0_2 a0_3 true _ A2.out).mono ?_); rintro e w17 ⟨rfl, hb⟩; refine ⟨_, rfl, ?_⟩; have n0_ := Aside0.mk (blk_below (g := gb104) (o := .cells #[.string a0_0, .string a0_1, .string a0_2, .string a0_3] 34 (0, 0)) (by (with_reducible repeat (first | refine blk_drewN ?_ _ | refine blk_drew ?_ | refine blk_alloc ?_ _)); exact BK104.out) hb); have n1_ := Aside0.mk (below_step (by repeat (first | (with_reducible first | exact HB.out | apply below_alloc | apply pw_below_drewN | apply below_drew1 | refine below_set ?_ GE104.out) | exact HB.out)) hb); clear BK104; clear HB; have BK104 := n0_; have HB := n1_; clear n0_ n1_; (try clear hb); (try clear hb2); (try clear hk); (try clear hi)))
      have n0_ := Aside0.mk (blk_drew BK104.out)
      have n1_ := Aside0.mk (below_drew1 HB.out)
      clear BK104
      clear HB
      have BK104 := n0_
      have HB := n1_
      clear n0_ n1_
      refine start_ (n := 11) (S := fun w' => w'.cell? ⟨gb104, 0, none⟩ = some (.string a0_0) ∧ w'.cell? ⟨gb104, 1, none⟩ = some (.string a0_1) ∧ w'.cell? ⟨gb104, 2, none⟩ = some (.string a0_2) ∧ w'.cell? ⟨gb104, 3, none⟩ = some (.string a0_3)) (ds := []) #[false, false, false, false, false, false, false, false, false, false, false] (by kernel_rfl) rfl rfl ⟨(blk_cell BK104.out 0).trans rfl, (blk_cell BK104.out 1).trans rfl, (blk_cell BK104.out 2).trans rfl, (blk_cell BK104.out 3).trans rfl⟩ (fun hHeld => ?_); refine with_tabW laws_FnRefTells.tab3 laws_FnRefTells.bits3 (fun HT_ HW_ => ?_)
      generalize w17.drew = w18 at BK104 HB hHeld ⊢
      refine take_ (i := 0) (N := some 6) (v := ?_) (a' := ?_) #[true, false, false, false, false, false, false, false, false, false, false] rfl rfl (take_ofW HT_.out HW_.out (by kernel_rfl)) (fun _ _ _ h => h) (Or.inl ⟨by rfl, ?_⟩) hHeld ?_ ?_
      rotate_left
      · rintro w' ⟨s0, s1, s2, s3⟩
        go_simp
        with_reducible rfl
      rotate_left
      · simp only [Act.put, List.setIfInBounds_toArray, List.set_cons_zero, List.set_cons_succ, i64_w, i32_w]
        rfl
      refine one_ (i := 1) (N := some 7) #[true, true, false, false, false, false, false, false, false, false, false] rfl rfl (one_of HT_.out (by kernel_rfl)) (by decide) (fun K hK => ?_)
      refine goes_ Try.func15 (by kernel_rfl) rfl #[.agg #[.string a0_0, .string a0_1, .string a0_2, .string a0_3]] (by rfl) rfl rfl (by (try simp only [List.map_toArray, List.map_cons, List.map_nil]); first | done | rfl | (simp only [List.length_drop, List.length_take]; rfl)) ?_
      with_reducible refine (laws_refShort.calls a0_0 a0_1 a0_2 a0_3 false _ A4.out).mono ?_
      rintro e w19 ⟨rfl, hb⟩
      refine ⟨_, rfl, ?_⟩
      have n0_ := Aside0.mk (blk_below (g := gb104) (o := .cells #[.string a0_0, .string a0_1, .string a0_2, .string a0_3] 34 (0, 0)) (by (with_reducible repeat (first | refine blk_drewN ?_ _ | refine blk_drew ?_ | refine blk_alloc ?_ _)); exact BK104.out) hb)
      have n1_ := Aside0.mk (below_step (by repeat (first | (with_reducible first | exact HB.out | apply below_alloc | apply pw_below_drewN | apply below_drew1 | refine below_set ?_ GE104.out) | exact HB.out)) hb)
      clear BK104
      clear HB
      have BK104 := n0_
      have HB := n1_
      clear n0_ n1_
      (try clear hb)
      (try clear hb2)
      (try clear hk)
      (try clear hi)
      refine hK.out _ _ ⟨(blk_cell BK104.out 0).trans rfl, (blk_cell BK104.out 1).trans rfl, (blk_cell BK104.out 2).trans rfl, (blk_cell BK104.out 3).trans rfl⟩ (fun hHeld => ?_)
      clear hK K
      refine norm_ (a' := ?_) ?_ ?_
      rotate_left
      · show Act.put _ (some 7) _ = _
        simp only [Act.put, List.setIfInBounds_toArray, List.set_cons_zero, List.set_cons_succ, i64_w, i32_w]
        rfl
      refine pure_ (i := 2) (N := some 8) (v := ?_) (a' := ?_) #[true, true, true, false, false, false, false, false, false, false, false] rfl rfl (any_of HT_.out (by kernel_rfl)) (fun _ _ _ h => h) (Or.inl ⟨by rfl, ?_⟩) ?_ ?_
      rotate_left
      · intro w'
        go_simp
        with_reducible rfl
      rotate_left
      · simp only [Act.put, List.setIfInBounds_toArray, List.set_cons_zero, List.set_cons_succ, i64_w, i32_w]
        rfl
      refine pure_ (i := 3) (N := some 9) (v := ?_) (a' := ?_) #[true, true, true, true, false, false, false, false, false, false, false] rfl rfl (any_of HT_.out (by kernel_rfl)) (fun _ _ _ h => h) (Or.inl ⟨by rfl, ?_⟩) ?_ ?_
      rotate_left
      · intro w'
        go_simp
        with_reducible rfl
      rotate_left
      · simp only [Act.put, List.setIfInBounds_toArray, List.set_cons_zero, List.set_cons_succ, i64_w, i32_w]
        rfl
      refine pure_ (i := 4) (N := some 10) (v := undef) (a' := ?_) #[true, true, true, true, true, false, false, false, false, false, false] rfl rfl (any_of HT_.out (by kernel_rfl)) (fun _ _ _ h => h) (Or.inr ⟨by rfl, rfl⟩) ?_ ?_
      rotate_left
      · simp only [Act.put, List.setIfInBounds_toArray, List.set_cons_zero, List.set_cons_succ, i64_w, i32_w]
        rfl
      refine pure_ (i := 5) (N := some 11) (v := undef) (a' := ?_) #[true, true, true, true, true, true, false, false, false, false, false] rfl rfl (any_of HT_.out (by kernel_rfl)) (fun _ _ _ h => h) (Or.inr ⟨by rfl, rfl⟩) ?_ ?_
      rotate_left
      · simp only [Act.put, List.setIfInBounds_toArray, List.set_cons_zero, List.set_cons_succ, i64_w, i32_w]
        rfl
      refine pure_ (i := 6) (N := some 12) (v := undef) (a' := ?_) #[true, true, true, true, true, true, true, false, false, false, false] rfl rfl (any_of HT_.out (by kernel_rfl)) (fun _ _ _ h => h) (Or.inr ⟨by rfl, rfl⟩) ?_ ?_
      rotate_left
      · simp only [Act.put, List.setIfInBounds_toArray, List.set_cons_zero, List.set_cons_succ, i64_w, i32_w]
        rfl
      refine pure_ (i := 7) (N := some 13) (v := undef) (a' := ?_) #[true, true, true, true, true, true, true, true, false, false, false] rfl rfl (any_of HT_.out (by kernel_rfl)) (fun _ _ _ h => h) (Or.inr ⟨by rfl, rfl⟩) ?_ ?_
      rotate_left
      · simp only [Act.put, List.setIfInBounds_toArray, List.set_cons_zero, List.set_cons_succ, i64_w, i32_w]
        rfl
      refine pure_ (i := 8) (N := some 14) (v := undef) (a' := ?_) #[true, true, true, true, true, true, true, true, true, false, false] rfl rfl (any_of HT_.out (by kernel_rfl)) (fun _ _ _ h => h) (Or.inr ⟨by rfl, rfl⟩) ?_ ?_
      rotate_left
      · simp only [Act.put, List.setIfInBounds_toArray, List.set_cons_zero, List.set_cons_succ, i64_w, i32_w]
        rfl
      refine pure_ (i := 9) (N := some 15) (v := ?_) (a' := ?_) #[true, true, true, true, true, true, true, true, true, true, false] rfl rfl (any_of HT_.out (by kernel_rfl)) (fun _ _ _ h => h) (Or.inl ⟨by rfl, ?_⟩) ?_ ?_
      rotate_left
      · intro w'
        go_simp
        with_reducible rfl
      rotate_left
      · simp only [Act.put, List.setIfInBounds_toArray, List.set_cons_zero, List.set_cons_succ, i64_w, i32_w]
        rfl
      refine pure_ (i := 10) (N := some 2) (v := ?_) (a' := ?_) #[true, true, true, true, true, true, true, true, true, true, true] rfl rfl (any_of HT_.out (by kernel_rfl)) (fun _ _ _ h => h) (Or.inl ⟨by rfl, ?_⟩) ?_ ?_
      rotate_left
      · intro w'
        go_simp
        with_reducible rfl
      rotate_left
      · simp only [Act.put, List.setIfInBounds_toArray, List.set_cons_zero, List.set_cons_succ, i64_w, i32_w]
        rfl
      refine done_ (done_of HT_.out (by kernel_rfl)) ?_
      try go_wp2
      go_ret
      exact ⟨by first | rfl | (simp [errW_none, errW_some] <;> rfl) | (simp [*, errW_none, errW_some] <;> rfl), by repeat (first | (with_reducible first | exact HB.out | apply below_alloc | apply pw_below_drewN | apply below_drew1 | refine below_set ?_ GE104.out) | exact HB.out)⟩
  · replace c3 := Bool.eq_false_iff.mpr c3
    subst c3
    have H1 : (some true) = some r := by rw [if_neg (show ¬ (false = true) by decide)] at H; exact H
    clear H
    have H := H1
    clear H1
    obtain rfl := Option.some.inj H
    go_enter Try.func7, Try.ntmps7
    go_wp2_with (first | ((with_reducible refine gate_dst (N := 1) rfl ?_); refine box_event ?hg (N := 1) ?hd (cs := #[.string a0_0, .string a0_1, .string a0_2, .string a0_3]) (t := 34) ?hr ?_; (case hd => rfl); (case hg => rfl); (case hr => first | (go_simp; done) | (go_simp; rfl)); intro gb104 hg w20 hbox hb; have n0_ := Aside0.mk (below_step (by repeat (first | (with_reducible first | exact HB.out | apply below_alloc | apply pw_below_drewN | apply below_drew1) | exact HB.out)) hb); have n1_ := Aside0.mk (hbox); have n2_ := Aside0.mk ((by rw [hg]; exact (below_size (by repeat (first | (with_reducible first | exact HB.out | apply below_alloc | apply pw_below_drewN | apply below_drew1) | exact HB.out))) : w.heap.size ≤ gb104)); have n3_ := Aside0.mk ((by rw [hg]; exact (below_size (by repeat (first | (with_reducible first | exact HB.out | apply below_alloc | apply pw_below_drewN | apply below_drew1) | exact HB.out))) : w.heap.size ≤ gb104)); clear HB; have HB := n0_; have BK104 := n1_; have GW104 := n2_; have GE104 := n3_; clear n0_ n1_ n2_ n3_; clear hb hbox hg; have hcz21_0 : w20.cell? ⟨gb104, 0, none⟩ = some (.string a0_0) := (blk_cell BK104.out 0).trans rfl; have hcz21_1 : w20.cell? ⟨gb104, 1, none⟩ = some (.string a0_1) := (blk_cell BK104.out 1).trans rfl; have hcz21_2 : w20.cell? ⟨gb104, 2, none⟩ = some (.string a0_2) := (blk_cell BK104.out 2).trans rfl; have hcz21_3 : w20.cell? ⟨gb104, 3, none⟩ = some (.string a0_3) := (blk_cell BK104.out 3).trans rfl; have hfz21_0 := blk_frozen BK104.out 0; have hfz21_1 := blk_frozen BK104.out 1; have hfz21_2 := blk_frozen BK104.out 2; have hfz21_3 := blk_frozen BK104.out 3) | ((with_reducible refine gate_callee (f := 14) rfl ?_); refine goesL_ (some 4) rfl rfl Try.func14 (by kernel_rfl) rfl #[.agg #[.string a0_0, .string a0_1, .string a0_2, .string a0_3]] rfl (by (try simp only [List.map_toArray, List.map_cons, List.map_nil]); first | done | rfl | (simp only [List.length_drop, List.length_take]; rfl)) ?_; (with_reducible refine (laws_zzFits7.calls a0_0 a0_1 a0_2 a0_3 false _ A2.out).mono ?_); rintro e w22 ⟨rfl, hb⟩; refine ⟨_, rfl, ?_⟩; have n0_ := Aside0.mk (blk_below (g := gb104) (o := .cells #[.string a0_0, .string a0_1, .string a0_2, .string a0_3] 34 (0, 0)) (by (with_reducible repeat (first | refine blk_drewN ?_ _ | refine blk_drew ?_ | refine blk_alloc ?_ _)); exact BK104.out) hb); have n1_ := Aside0.mk (below_step (by repeat (first | (with_reducible first | exact HB.out | apply below_alloc | apply pw_below_drewN | apply below_drew1 | refine below_set ?_ GE104.out) | exact HB.out)) hb); clear BK104; clear HB; have BK104 := n0_; have HB := n1_; clear n0_ n1_; (try clear hb); (try clear hb2); (try clear hk); (try clear hi)))
    go_ret
    exact ⟨by first | rfl | (simp [errW_none, errW_some] <;> rfl) | (simp [*, errW_none, errW_some] <;> rfl), by repeat (first | (with_reducible first | exact HB.out | apply below_alloc | apply pw_below_drewN | apply below_drew1 | refine below_set ?_ GE104.out) | exact HB.out)⟩

end Go.Proofs.Ytapdpmjbfplmfaa.QRef
