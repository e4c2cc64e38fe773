-- written by a program of mine (wip/tools/myprint.py) for this claim. Not trusted: Lean checks it.
import Derived.Test.YtlooelfkkbgmhaaDoorQSA
import Derived.Test.YtlooelfkkbgmhaaDoorGivInc
namespace Go.Proofs.YtlooelfkkbgmhaaDoor.QS
open Go.RowKit Go.Proofs.YtlooelfkkbgmhaaDoorW.PrintWords Go.Proofs.YtlooelfkkbgmhaaDoorW.PrintLast
set_option linter.unusedVariables false
set_option linter.unusedSimpArgs false

-- GIVEN: function 41 (impl_BelowHolds)

-- GIVEN: function 42 (impl_EqualHolds)

-- GIVEN: function 43 (impl_AboveHolds)

-- GIVEN: function 44 (impl_NotEqualHolds)

-- GIVEN: function 45 (impl_LeastHolds)

-- NOT PRINTED: function 10 (laws_FnSemverOneOf)

-- NOT PRINTED: function 13 (laws_FnSemverTermCompares)

-- GIVEN: function 87 (impl_VersionIncMinor)

-- GIVEN: function 88 (impl_VersionIncMajor)

/-! ### laws_svRun: function 38 -/
def laws_svRun.l0 : Nat → List (S24) → List Int → Int → Int → Int → Int → Int → ByteArray → ByteArray → Option ((List (S24)))
  | 0, _, _, _, _, _, _, _, _, _ => none
  | k + 1, x5, x10, x11, x12, x460000, x460001, x460002, x460003, x460004 => if x12 < x11 then (if 0 ≤ x12 then (if x12 < (x10.length : Int) then (if (rd x10 x12) = 0 then ((impl_VersionIncPatch.f x460000 x460001 x460002 x460003 x460004).bind fun bt464 => (if x5.length < 2513169434916 then (laws_svRun.l0 k (x5 ++ [(⟨bt464.1, bt464.2.1, bt464.2.2.1, bt464.2.2.2.1, bt464.2.2.2.2⟩ : S24)]) x10 x11 (wrap64 (x12 + 1)) bt464.1 bt464.2.1 bt464.2.2.1 bt464.2.2.2.1 bt464.2.2.2.2) else (none))) else (if (rd x10 x12) = 1 then ((impl_VersionIncMinor.f x460000 x460001 x460002 x460003 x460004).bind fun bt472 => (if x5.length < 2513169434916 then (laws_svRun.l0 k (x5 ++ [(⟨bt472.1, bt472.2.1, bt472.2.2.1, bt472.2.2.2.1, bt472.2.2.2.2⟩ : S24)]) x10 x11 (wrap64 (x12 + 1)) bt472.1 bt472.2.1 bt472.2.2.1 bt472.2.2.2.1 bt472.2.2.2.2) else (none))) else ((impl_VersionIncMajor.f x460000 x460001 x460002 x460003 x460004).bind fun bt480 => (if x5.length < 2513169434916 then (laws_svRun.l0 k (x5 ++ [(⟨bt480.1, bt480.2.1, bt480.2.2.1, bt480.2.2.2.1, bt480.2.2.2.2⟩ : S24)]) x10 x11 (wrap64 (x12 + 1)) bt480.1 bt480.2.1 bt480.2.2.1 bt480.2.2.2.1 bt480.2.2.2.2) else (none))))) else (none)) else (none)) else (some x5)
def laws_svRun.f (k : Nat) (a0_0 : Int) (a0_1 : Int) (a0_2 : Int) (a0_3 : ByteArray) (a0_4 : ByteArray) (l1 : List Int) : Option ((List (S24))) := laws_svRun.l0 k (([(⟨a0_0, a0_1, a0_2, a0_3, a0_4⟩ : S24)] : List (S24))) l1 (l1.length : Int) 0 a0_0 a0_1 a0_2 a0_3 a0_4
theorem laws_svRun.mono_l : ∀ k, (∀ y0 y1 y2 y3 y4 y5 y6 y7 y8, LeO (laws_svRun.l0 k y0 y1 y2 y3 y4 y5 y6 y7 y8) (laws_svRun.l0 (k + 1) y0 y1 y2 y3 y4 y5 y6 y7 y8))
  | 0 => fun _ _ _ _ _ _ _ _ _ r h => by simp [laws_svRun.l0] at h
  | k + 1 => by
    have ih0 := laws_svRun.mono_l k
    · intro y0 y1 y2 y3 y4 y5 y6 y7 y8
      unfold laws_svRun.l0
      repeat' first
      | (with_reducible exact ih0 _ _ _ _ _ _ _ _ _)
      | (with_reducible exact LeO.refl _)
      | (with_reducible exact LeO.none _)
      | (with_reducible refine LeO.ite ?_ ?_)
      | (with_reducible refine LeO.bind ?_ (fun _ => ?_))
      | exact ih0 _ _ _ _ _ _ _ _ _
      | exact LeO.none _
      | refine LeO.ite ?_ ?_
      | refine LeO.bind ?_ (fun _ => ?_)
theorem laws_svRun.mono : ∀ a0 a1 a2 a3 a4 a5 k, LeO (laws_svRun.f k a0 a1 a2 a3 a4 a5) (laws_svRun.f (k + 1) a0 a1 a2 a3 a4 a5) := by
  intro a0 a1 a2 a3 a4 a5 k
  have ih0 := laws_svRun.mono_l k
  unfold laws_svRun.f
  repeat' first
      | (with_reducible exact ih0 _ _ _ _ _ _ _ _ _)
      | (with_reducible exact LeO.refl _)
      | (with_reducible exact LeO.none _)
      | (with_reducible refine LeO.ite ?_ ?_)
      | (with_reducible refine LeO.bind ?_ (fun _ => ?_))
      | exact ih0 _ _ _ _ _ _ _ _ _
      | exact LeO.none _
      | refine LeO.ite ?_ ?_
      | refine LeO.bind ?_ (fun _ => ?_)
set_option maxHeartbeats 8000000 in
set_option maxRecDepth 100000 in
theorem laws_svRun.calls (k : Nat) (a0_0 : Int) (a0_1 : Int) (a0_2 : Int) (a0_3 : ByteArray) (a0_4 : ByteArray) (A1 : Option Addr) (c1 : Nat) (l1 : List Int) (r : List (S24)) (w : World) (hr1 : Kd.C (Kd.int .u8) w A1 l1.length l1) (hc1 : l1.length ≤ c1) (hGT : GlobT w) (h : laws_svRun.f k a0_0 a0_1 a0_2 a0_3 a0_4 l1 = some r) :
    Calls Tryd.prog 38 #[.agg #[.int .u64 a0_0, .int .u64 a0_1, .int .u64 a0_2, .string a0_3, .string a0_4], .slice A1 l1.length c1] w fun e w' => ∃ v0_ : Value, e = .returned (v0_) ∧ Kd.R k24 24 w' w.heap.size (fun _ => True) v0_ r ∧ Below w.heap.size w w' := by
  have hu24 := Tryd.underlying24
  have HGT := Aside0.mk hGT
  clear hGT
  have HR1 := Aside0.mk hr1
  have HC1 := Aside0.mk hc1
  clear hr1 hc1
  have HB := Aside0.mk (Below.refl w.heap.size w)
  have H : (laws_svRun.l0 k (([(⟨a0_0, a0_1, a0_2, a0_3, a0_4⟩ : S24)] : List (S24))) l1 (l1.length : Int) 0 a0_0 a0_1 a0_2 a0_3 a0_4) = some r := h
  clear h
  obtain ⟨y460, hy460⟩ : ∃ y_ : List (S24), y_ = (([(⟨a0_0, a0_1, a0_2, a0_3, a0_4⟩ : S24)] : List (S24))) := ⟨_, rfl⟩
  replace H : (laws_svRun.l0 k y460 l1 (l1.length : Int) 0 a0_0 a0_1 a0_2 a0_3 a0_4) = some r := by first | (rw [hy460]; with_reducible exact H) | (have H2_ := (Option.bind_some _ _).symm.trans H; rw [hy460]; with_reducible exact H2_) | (have H2_ := (Option.bind_some _ _).symm.trans H; with_reducible exact H2_) | with_reducible exact H | (rw [hy460]; exact H) | exact H
  have Ny460 := Aside0.mk hy460
  clear hy460
  have H' := Aside0.mk H
  clear H
  go_enter Tryd.func38, Tryd.ntmps38
  go_wp2_with (first | ((with_reducible refine gate_dst (N := 2) rfl ?_); refine box_event ?hg (N := 2) ?hd (cs := #[.int .u64 a0_0, .int .u64 a0_1, .int .u64 a0_2, .string a0_3, .string a0_4]) (t := 24) ?hr ?_; (case hd => rfl); (case hg => rfl); (case hr => first | (go_simp; done) | (go_simp; rfl)); intro gb459 hg w3 hbox hb; have n0_ := Aside0.mk (below_step (by repeat (first | (with_reducible first | exact HB.out | apply below_alloc | apply pw_below_drewN | apply below_drew1) | exact HB.out)) hb); have n1_ := Aside0.mk (hbox); have n2_ := Aside0.mk ((by rw [hg]; exact (below_size (by repeat (first | (with_reducible first | exact HB.out | apply below_alloc | apply pw_below_drewN | apply below_drew1) | exact HB.out))) : w.heap.size ≤ gb459)); have n3_ := Aside0.mk ((by rw [hg]; exact (below_size (by repeat (first | (with_reducible first | exact HB.out | apply below_alloc | apply pw_below_drewN | apply below_drew1) | exact HB.out))) : w.heap.size ≤ gb459)); clear HB; have HB := n0_; have BK459 := n1_; have GW459 := n2_; have GE459 := n3_; clear n0_ n1_ n2_ n3_; clear hb hbox hg; have hcz4_0 : w3.cell? ⟨gb459, 0, none⟩ = some (.int .u64 a0_0) := (blk_cell BK459.out 0).trans rfl; have hcz4_1 : w3.cell? ⟨gb459, 1, none⟩ = some (.int .u64 a0_1) := (blk_cell BK459.out 1).trans rfl; have hcz4_2 : w3.cell? ⟨gb459, 2, none⟩ = some (.int .u64 a0_2) := (blk_cell BK459.out 2).trans rfl; have hcz4_3 : w3.cell? ⟨gb459, 3, none⟩ = some (.string a0_3) := (blk_cell BK459.out 3).trans rfl; have hcz4_4 : w3.cell? ⟨gb459, 4, none⟩ = some (.string a0_4) := (blk_cell BK459.out 4).trans rfl; have hfz4_0 := blk_frozen BK459.out 0; have hfz4_1 := blk_frozen BK459.out 1; have hfz4_2 := blk_frozen BK459.out 2; have hfz4_3 := blk_frozen BK459.out 3; have hfz4_4 := blk_frozen BK459.out 4) | ((with_reducible refine gate_dst (N := 9) rfl ?_); refine Kd.R_lit k24 _ 24 ?hg (N := 9) ?hd (xs := ([(⟨a0_0, a0_1, a0_2, a0_3, a0_4⟩ : S24)] : List (S24))) (inner := [.int .u64 a0_0, .int .u64 a0_1, .int .u64 a0_2, .string a0_3, .string a0_4]) (ok := fun _ => True) (okp := fun _ => True) ?hr ?hp (fun _ hk => hk) trivial (Below.refl _ _) (Nat.le_refl _) (by simp) ?_; (case hd => rfl); (case hg => rfl); (case hr => first | (go_simp; done) | (go_simp; rfl)); (case hp => exact (Reps.c5 (show Kd.M k24 _ _ _ (⟨a0_0, a0_1, a0_2, a0_3, a0_4⟩ : S24) [.int .u64 a0_0, .int .u64 a0_1, .int .u64 a0_2, .string a0_3, .string a0_4] from (k24_mkM _ _ _ (⟨a0_0, a0_1, a0_2, a0_3, a0_4⟩ : S24) )) (Reps.none _ _))); intro v461 w5 ho6 hb hg_ hnew_; clear hg_ hnew_; (first | rw [← Ny460.out] at ho6 | (simp only [Int.reduceToNat] at ho6; rw [← Ny460.out] at ho6)); have n0_ := Aside0.mk (Kd.R_lower (Kd.R_newB ho6 (g := gb459) (o := .cells #[.int .u64 a0_0, .int .u64 a0_1, .int .u64 a0_2, .string a0_3, .string a0_4] 24 (0, 0)) (by (with_reducible repeat (first | refine blk_drewN ?_ _ | refine blk_drew ?_ | refine blk_alloc ?_ _)); exact BK459.out)) (below_size (by repeat (first | (with_reducible first | exact HB.out | apply below_alloc | apply pw_below_drewN | apply below_drew1 | refine below_set ?_ GE459.out) | exact HB.out)))); have n1_ := Aside0.mk (blk_below (g := gb459) (o := .cells #[.int .u64 a0_0, .int .u64 a0_1, .int .u64 a0_2, .string a0_3, .string a0_4] 24 (0, 0)) (by (with_reducible repeat (first | refine blk_drewN ?_ _ | refine blk_drew ?_ | refine blk_alloc ?_ _)); exact BK459.out) hb); have n2_ := Aside0.mk (below_step (by repeat (first | (with_reducible first | exact HB.out | apply below_alloc | apply pw_below_drewN | apply below_drew1 | refine below_set ?_ GE459.out) | exact HB.out)) hb); clear BK459; clear HB; have HO462 := n0_; have BK459 := n1_; have HB := n2_; clear n0_ n1_ n2_; clear hb ho6))
  go_loopg [5, 12] k (fun kq v5 v12 w' => ∃ (x5_1 : List (S24)) (x12_1 : Int) (x460000_1 : Int) (x460001_1 : Int) (x460002_1 : Int) (x460003_1 : ByteArray) (x460004_1 : ByteArray), v12 = .int .i64 x12_1 ∧ Aside0 (laws_svRun.l0 kq x5_1 l1 (l1.length : Int) x12_1 x460000_1 x460001_1 x460002_1 x460003_1 x460004_1 = some r) ∧ Aside0 (kq ≤ k) ∧ Aside0 (Kd.R k24 24 w' w.heap.size (fun k_ => k_ ≠ gb459) v5 x5_1) ∧ Aside0 (w'.heap[gb459]? = some (.cells #[.int .u64 x460000_1, .int .u64 x460001_1, .int .u64 x460002_1, .string x460003_1, .string x460004_1] 24 (0, 0))) ∧ Aside0 (Below w.heap.size w w'))
  case atStart => exact ⟨(y460), (0), (a0_0), (a0_1), (a0_2), (a0_3), (a0_4), (by first | rfl | (simp; done) | (simp [*]; done) | (simp [nil_bne]; done)), H', ⟨Nat.le_refl _⟩, ⟨by (with_reducible repeat (first | apply Kd.R_alloc | apply Kd.R_drewN | apply Kd.R_drew)); exact Kd.R_mono HO462.out (fun _ hk => hk.2)⟩, ⟨by (with_reducible repeat (first | refine blk_drewN ?_ _ | refine blk_drew ?_ | refine blk_alloc ?_ _)); exact BK459.out⟩, ⟨by repeat (first | (with_reducible first | exact HB.out | apply below_alloc | apply pw_below_drewN | apply below_drew1 | refine below_set ?_ GE459.out) | exact HB.out)⟩⟩
  case round =>
    clear H'
    try clear c1
    try clear p2
    try clear c3
    try clear c5
    try clear hcz4_0
    try clear hcz4_1
    try clear hcz4_2
    try clear hcz4_3
    try clear hcz4_4
    try clear hfz4_0
    try clear hfz4_1
    try clear hfz4_2
    try clear hfz4_3
    try clear hfz4_4
    obtain ⟨x5_1, x12_1, x460000_1, x460001_1, x460002_1, x460003_1, x460004_1, rfl, HA, HK1, HO_5, BK459, HB⟩ := hrel
    cases gk with
    | zero => exact absurd HA.out (by simp [laws_svRun.l0])
    | succ k1 =>
      have H := HA.out
      clear HA
      simp only [laws_svRun.l0] at H
      by_cases c7 : x12_1 < (l1.length : Int)
      · rw [if_pos c7] at H
        have c7b0 : decide (x12_1 < (l1.length : Int)) = true := decide_eq_true c7
        clear c7
        by_cases c8 : 0 ≤ x12_1
        · rw [if_pos c8] at H
          have c8b0 : decide (0 ≤ x12_1) = true := decide_eq_true c8
          clear c8
          by_cases c9 : x12_1 < (l1.length : Int)
          · rw [if_pos c9] at H
            have c9b0 : decide (x12_1 < (l1.length : Int)) = true := decide_eq_true c9
            clear c9
            by_cases c10 : (rd l1 x12_1) = 0
            · rw [if_pos c10] at H
              have c10b0 : ((rd l1 x12_1) == 0) = true := beq_iff_eq.mpr c10
              have c10b1 : ((rd l1 x12_1) != 0) = false := bne_eq_false_iff_eq.mpr c10
              clear c10
              replace H := Option.bind_eq_some_iff.mp H
              obtain ⟨⟨t464, t465, t466, t467, t468⟩, A110, H⟩ := H
              replace H : (if x5_1.length < 2513169434916 then (laws_svRun.l0 k1 (x5_1 ++ [(⟨t464, t465, t466, t467, t468⟩ : S24)]) l1 (l1.length : Int) (wrap64 (x12_1 + 1)) t464 t465 t466 t467 t468) else (none)) = some r := H
              have A11 := Aside0.mk A110
              clear A110
              by_cases c12 : x5_1.length < 2513169434916
              · rw [if_pos c12] at H
                have LMc12 := Aside0.mk c12
                clear c12
                obtain ⟨y469, hy469⟩ : ∃ y_ : List (S24), y_ = (x5_1 ++ [(⟨t464, t465, t466, t467, t468⟩ : S24)]) := ⟨_, rfl⟩
                replace H : (laws_svRun.l0 k1 y469 l1 (l1.length : Int) (wrap64 (x12_1 + 1)) t464 t465 t466 t467 t468) = some r := by first | (rw [hy469]; with_reducible exact H) | (have H2_ := (Option.bind_some _ _).symm.trans H; rw [hy469]; with_reducible exact H2_) | (have H2_ := (Option.bind_some _ _).symm.trans H; with_reducible exact H2_) | with_reducible exact H | (rw [hy469]; exact H) | exact H
                have Ny469 := Aside0.mk hy469
                clear hy469
                have H' := Aside0.mk H
                clear H
                have p463 : 0 ≤ (x12_1 : Int) := of_decide_eq_true (by first | (with_reducible assumption) | assumption)
                have q463 : x12_1 < (l1.length : Int) := of_decide_eq_true (by first | (with_reducible assumption) | assumption)
                obtain ⟨ad463, e463, hx463_0⟩ := Kd.at_int HR1.out x12_1 p463 q463
                cases e463
                replace hx463_0 := (HB.out.cell (World.block_lt_of_cell? w _ hx463_0)).trans hx463_0
                replace p463 := eq_true p463
                replace q463 := eq_true q463
                have hcz13_0 : wr.cell? ⟨gb459, 0, none⟩ = some (.int .u64 x460000_1) := (blk_cell BK459.out 0).trans rfl
                have hcz13_1 : wr.cell? ⟨gb459, 1, none⟩ = some (.int .u64 x460001_1) := (blk_cell BK459.out 1).trans rfl
                have hcz13_2 : wr.cell? ⟨gb459, 2, none⟩ = some (.int .u64 x460002_1) := (blk_cell BK459.out 2).trans rfl
                have hcz13_3 : wr.cell? ⟨gb459, 3, none⟩ = some (.string x460003_1) := (blk_cell BK459.out 3).trans rfl
                have hcz13_4 : wr.cell? ⟨gb459, 4, none⟩ = some (.string x460004_1) := (blk_cell BK459.out 4).trans rfl
                have hfz13_0 := blk_frozen BK459.out 0
                have hfz13_1 := blk_frozen BK459.out 1
                have hfz13_2 := blk_frozen BK459.out 2
                have hfz13_3 := blk_frozen BK459.out 3
                have hfz13_4 := blk_frozen BK459.out 4
                go_wp2_with (first | ((with_reducible refine only_callee (f := 20) rfl ?_); refine goesL_ (some 22) rfl rfl Tryd.func20 (by kernel_rfl) rfl #[.agg #[.int .u64 x460000_1, .int .u64 x460001_1, .int .u64 x460002_1, .string x460003_1, .string x460004_1]] rfl (by (try simp only [List.map_toArray, List.map_cons, List.map_nil]); first | done | rfl | (simp only [List.length_drop, List.length_take]; rfl)) ?_; (with_reducible refine (impl_VersionIncPatch.calls x460000_1 x460001_1 x460002_1 x460003_1 x460004_1 t464 t465 t466 t467 t468 _ ?side1 A11.out).mono ?_); (case side1 => exact globT_below HGT.out (by repeat (first | (with_reducible first | exact HB.out | apply below_alloc | apply pw_below_drewN | apply below_drew1 | refine below_set ?_ GE459.out) | exact HB.out))); rintro e w14 ⟨rfl, hb⟩; refine ⟨_, rfl, ?_⟩; have n0_ := Aside0.mk (Kd.R_below (by (with_reducible repeat (first | apply Kd.R_alloc | apply Kd.R_drewN | apply Kd.R_drew)); exact HO_5.out) hb); have n1_ := Aside0.mk (blk_below (g := gb459) (o := .cells #[.int .u64 x460000_1, .int .u64 x460001_1, .int .u64 x460002_1, .string x460003_1, .string x460004_1] 24 (0, 0)) (by (with_reducible repeat (first | refine blk_drewN ?_ _ | refine blk_drew ?_ | refine blk_alloc ?_ _)); exact BK459.out) hb); have n2_ := Aside0.mk (below_step (by repeat (first | (with_reducible first | exact HB.out | apply below_alloc | apply pw_below_drewN | apply below_drew1 | refine below_set ?_ GE459.out) | exact HB.out)) hb); clear HO_5; clear BK459; clear HB; have HO_5 := n0_; have BK459 := n1_; have HB := n2_; clear n0_ n1_ n2_; (try clear hb); (try clear hb2); (try clear hk); (try clear hi); have hcz15_0 : w14.cell? ⟨gb459, 0, none⟩ = some (.int .u64 x460000_1) := (blk_cell BK459.out 0).trans rfl; have hcz15_1 : w14.cell? ⟨gb459, 1, none⟩ = some (.int .u64 x460001_1) := (blk_cell BK459.out 1).trans rfl; have hcz15_2 : w14.cell? ⟨gb459, 2, none⟩ = some (.int .u64 x460002_1) := (blk_cell BK459.out 2).trans rfl; have hcz15_3 : w14.cell? ⟨gb459, 3, none⟩ = some (.string x460003_1) := (blk_cell BK459.out 3).trans rfl; have hcz15_4 : w14.cell? ⟨gb459, 4, none⟩ = some (.string x460004_1) := (blk_cell BK459.out 4).trans rfl; have hfz15_0 := blk_frozen BK459.out 0; have hfz15_1 := blk_frozen BK459.out 1; have hfz15_2 := blk_frozen BK459.out 2; have hfz15_3 := blk_frozen BK459.out 3; have hfz15_4 := blk_frozen BK459.out 4) | ((with_reducible refine only_builtin (b := .append) (xs := #[.tmp 27, .tmp 29]) rfl ?_); at_builtin; refine Kd.R_append k24 (w0 := w) w.heap.size rfl (.tmp 27) (.tmp 29) 44 24 (.agg #[(.int .u64 0), (.int .u64 0), (.int .u64 0), (.string ⟨#[]⟩), (.string ⟨#[]⟩)]) 56 rfl Tryd.underlying44 info24 rfl (by decide) (by omega) u5 x5_1 (⟨t464, t465, t466, t467, t468⟩ : S24) [.int .u64 t464, .int .u64 t465, .int .u64 t466, .string t467, .string t468] (fun k_ => k_ ≠ gb459) (fun _ => False) rfl (by first | (go_simp; done) | (go_simp; rfl)) ?aP (fun _ hk => hk.elim) ?aF ?aO ?aB ?aS ?aL ?_; (case aP => exact k24_mkM _ _ _ (⟨t464, t465, t466, t467, t468⟩ : S24)); (case aB => exact (by repeat (first | (with_reducible first | exact HB.out | apply below_alloc | apply pw_below_drewN | apply below_drew1 | refine below_set ?_ GE459.out) | exact HB.out))); (case aF => exact (fun k_ hk => Kd.freshB (g := gb459) (o := .cells #[.int .u64 t464, .int .u64 t465, .int .u64 t466, .string t467, .string t468] 24 (0, 0)) (by (with_reducible repeat (first | refine blk_drewN ?_ _ | refine blk_drew ?_ | refine blk_alloc ?_ _)); refine blk_put (cs := #[.int .u64 t464, .int .u64 t465, .int .u64 t466, .string t467, .string x460004_1]) ?_ 4 _ rfl; (with_reducible repeat (first | refine blk_drewN ?_ _ | refine blk_drew ?_ | refine blk_alloc ?_ _)); refine blk_put (cs := #[.int .u64 t464, .int .u64 t465, .int .u64 t466, .string x460003_1, .string x460004_1]) ?_ 3 _ rfl; (with_reducible repeat (first | refine blk_drewN ?_ _ | refine blk_drew ?_ | refine blk_alloc ?_ _)); refine blk_put (cs := #[.int .u64 t464, .int .u64 t465, .int .u64 x460002_1, .string x460003_1, .string x460004_1]) ?_ 2 _ rfl; (with_reducible repeat (first | refine blk_drewN ?_ _ | refine blk_drew ?_ | refine blk_alloc ?_ _)); refine blk_put (cs := #[.int .u64 t464, .int .u64 x460001_1, .int .u64 x460002_1, .string x460003_1, .string x460004_1]) ?_ 1 _ rfl; (with_reducible repeat (first | refine blk_drewN ?_ _ | refine blk_drew ?_ | refine blk_alloc ?_ _)); refine blk_put (cs := #[.int .u64 x460000_1, .int .u64 x460001_1, .int .u64 x460002_1, .string x460003_1, .string x460004_1]) ?_ 0 _ rfl; (with_reducible repeat (first | refine blk_drewN ?_ _ | refine blk_drew ?_ | refine blk_alloc ?_ _)); exact BK459.out) k_ hk)); (case aO => exact (by (with_reducible repeat (first | apply Kd.R_alloc | apply Kd.R_drewN | apply Kd.R_drew)); exact Kd.R_mono (Kd.R_far (p := ⟨gb459, 4, none⟩) (Kd.R_far (p := ⟨gb459, 3, none⟩) (Kd.R_far (p := ⟨gb459, 2, none⟩) (Kd.R_far (p := ⟨gb459, 1, none⟩) (Kd.R_far (p := ⟨gb459, 0, none⟩) (Kd.R_mono HO_5.out (fun k_ hk => (⟨hk, hk⟩ : _ ∧ k_ ≠ gb459))) (fun _ hk => hk.2) (.int .u64 t464)) (fun _ hk => hk.2) (.int .u64 t465)) (fun _ hk => hk.2) (.int .u64 t466)) (fun _ hk => hk.2) (.string t467)) (fun _ hk => hk.2) (.string t468)) (fun _ hk => hk.1))); (case aS => exact (below_size (by repeat (first | (with_reducible first | exact HB.out | apply below_alloc | apply pw_below_drewN | apply below_drew1 | refine below_set ?_ GE459.out) | exact HB.out)))); (case aL => have := LMc12.out; omega); intro v470 w16 ho hb hg hat; rw [← Ny469.out] at ho; have n0_ := Aside0.mk (blk_grown (g := gb459) (o := .cells #[.int .u64 t464, .int .u64 t465, .int .u64 t466, .string t467, .string t468] 24 (0, 0)) (by (with_reducible repeat (first | refine blk_drewN ?_ _ | refine blk_drew ?_ | refine blk_alloc ?_ _)); refine blk_put (cs := #[.int .u64 t464, .int .u64 t465, .int .u64 t466, .string t467, .string x460004_1]) ?_ 4 _ rfl; (with_reducible repeat (first | refine blk_drewN ?_ _ | refine blk_drew ?_ | refine blk_alloc ?_ _)); refine blk_put (cs := #[.int .u64 t464, .int .u64 t465, .int .u64 t466, .string x460003_1, .string x460004_1]) ?_ 3 _ rfl; (with_reducible repeat (first | refine blk_drewN ?_ _ | refine blk_drew ?_ | refine blk_alloc ?_ _)); refine blk_put (cs := #[.int .u64 t464, .int .u64 t465, .int .u64 x460002_1, .string x460003_1, .string x460004_1]) ?_ 2 _ rfl; (with_reducible repeat (first | refine blk_drewN ?_ _ | refine blk_drew ?_ | refine blk_alloc ?_ _)); refine blk_put (cs := #[.int .u64 t464, .int .u64 x460001_1, .int .u64 x460002_1, .string x460003_1, .string x460004_1]) ?_ 1 _ rfl; (with_reducible repeat (first | refine blk_drewN ?_ _ | refine blk_drew ?_ | refine blk_alloc ?_ _)); refine blk_put (cs := #[.int .u64 x460000_1, .int .u64 x460001_1, .int .u64 x460002_1, .string x460003_1, .string x460004_1]) ?_ 0 _ rfl; (with_reducible repeat (first | refine blk_drewN ?_ _ | refine blk_drew ?_ | refine blk_alloc ?_ _)); exact BK459.out) hg (Kd.R_away HO_5.out (fun _ hk => hk))); have n1_ := Aside0.mk (hb); have n2_ := Aside0.mk (ho); clear BK459; clear HB; clear HO_5; have BK459 := n0_; have HB := n1_; have HO471 := n2_; clear n0_ n1_ n2_; clear ho hb hg hat))
                go_roundg k1
                case measure => have := HK1.out; omega
                case rel => exact ⟨(y469), (wrap64 (x12_1 + 1)), (t464), (t465), (t466), (t467), (t468), (by first | rfl | (simp; done) | (simp [*]; done) | (simp [nil_bne]; done)), H', ⟨by have := HK1.out; omega⟩, ⟨by (with_reducible repeat (first | apply Kd.R_alloc | apply Kd.R_drewN | apply Kd.R_drew)); exact HO471.out⟩, ⟨by (with_reducible repeat (first | refine blk_drewN ?_ _ | refine blk_drew ?_ | refine blk_alloc ?_ _)); exact BK459.out⟩, ⟨by repeat (first | (with_reducible first | exact HB.out | apply below_alloc | apply pw_below_drewN | apply below_drew1 | refine below_set ?_ GE459.out) | exact HB.out)⟩⟩
              · rw [if_neg c12] at H
                exact absurd H (by simp)
            · rw [if_neg c10] at H
              have c10b0 : ((rd l1 x12_1) == 0) = false := beq_eq_false_iff_ne.mpr c10
              have c10b1 : ((rd l1 x12_1) != 0) = true := bne_iff_ne.mpr c10
              by_cases c17 : (rd l1 x12_1) = 1
              · rw [if_pos c17] at H
                have c17b0 : ((rd l1 x12_1) == 1) = true := beq_iff_eq.mpr c17
                have c17b1 : ((rd l1 x12_1) != 1) = false := bne_eq_false_iff_eq.mpr c17
                clear c17
                replace H := Option.bind_eq_some_iff.mp H
                obtain ⟨⟨t472, t473, t474, t475, t476⟩, A180, H⟩ := H
                replace H : (if x5_1.length < 2513169434916 then (laws_svRun.l0 k1 (x5_1 ++ [(⟨t472, t473, t474, t475, t476⟩ : S24)]) l1 (l1.length : Int) (wrap64 (x12_1 + 1)) t472 t473 t474 t475 t476) else (none)) = some r := H
                have A18 := Aside0.mk A180
                clear A180
                by_cases c19 : x5_1.length < 2513169434916
                · rw [if_pos c19] at H
                  have LMc19 := Aside0.mk c19
                  clear c19
                  obtain ⟨y477, hy477⟩ : ∃ y_ : List (S24), y_ = (x5_1 ++ [(⟨t472, t473, t474, t475, t476⟩ : S24)]) := ⟨_, rfl⟩
                  replace H : (laws_svRun.l0 k1 y477 l1 (l1.length : Int) (wrap64 (x12_1 + 1)) t472 t473 t474 t475 t476) = some r := by first | (rw [hy477]; with_reducible exact H) | (have H2_ := (Option.bind_some _ _).symm.trans H; rw [hy477]; with_reducible exact H2_) | (have H2_ := (Option.bind_some _ _).symm.trans H; with_reducible exact H2_) | with_reducible exact H | (rw [hy477]; exact H) | exact H
                  have Ny477 := Aside0.mk hy477
                  clear hy477
                  have H' := Aside0.mk H
                  clear H
                  have p463 : 0 ≤ (x12_1 : Int) := of_decide_eq_true (by first | (with_reducible assumption) | assumption)
                  have q463 : x12_1 < (l1.length : Int) := of_decide_eq_true (by first | (with_reducible assumption) | assumption)
                  obtain ⟨ad463, e463, hx463_0⟩ := Kd.at_int HR1.out x12_1 p463 q463
                  cases e463
                  replace hx463_0 := (HB.out.cell (World.block_lt_of_cell? w _ hx463_0)).trans hx463_0
                  replace p463 := eq_true p463
                  replace q463 := eq_true q463
                  have hcz20_0 : wr.cell? ⟨gb459, 0, none⟩ = some (.int .u64 x460000_1) := (blk_cell BK459.out 0).trans rfl
                  have hcz20_1 : wr.cell? ⟨gb459, 1, none⟩ = some (.int .u64 x460001_1) := (blk_cell BK459.out 1).trans rfl
                  have hcz20_2 : wr.cell? ⟨gb459, 2, none⟩ = some (.int .u64 x460002_1) := (blk_cell BK459.out 2).trans rfl
                  have hcz20_3 : wr.cell? ⟨gb459, 3, none⟩ = some (.string x460003_1) := (blk_cell BK459.out 3).trans rfl
                  have hcz20_4 : wr.cell? ⟨gb459, 4, none⟩ = some (.string x460004_1) := (blk_cell BK459.out 4).trans rfl
                  have hfz20_0 := blk_frozen BK459.out 0
                  have hfz20_1 := blk_frozen BK459.out 1
                  have hfz20_2 := blk_frozen BK459.out 2
                  have hfz20_3 := blk_frozen BK459.out 3
                  have hfz20_4 := blk_frozen BK459.out 4
                  go_wp2_with (first | ((with_reducible refine only_callee (f := 87) rfl ?_); refine goesL_ (some 26) rfl rfl Tryd.func87 (by kernel_rfl) rfl #[.agg #[.int .u64 x460000_1, .int .u64 x460001_1, .int .u64 x460002_1, .string x460003_1, .string x460004_1]] rfl (by (try simp only [List.map_toArray, List.map_cons, List.map_nil]); first | done | rfl | (simp only [List.length_drop, List.length_take]; rfl)) ?_; (with_reducible refine (impl_VersionIncMinor.calls x460000_1 x460001_1 x460002_1 x460003_1 x460004_1 t472 t473 t474 t475 t476 _ ?side1 A18.out).mono ?_); (case side1 => exact globT_below HGT.out (by repeat (first | (with_reducible first | exact HB.out | apply below_alloc | apply pw_below_drewN | apply below_drew1 | refine below_set ?_ GE459.out) | exact HB.out))); rintro e w21 ⟨rfl, hb⟩; refine ⟨_, rfl, ?_⟩; have n0_ := Aside0.mk (Kd.R_below (by (with_reducible repeat (first | apply Kd.R_alloc | apply Kd.R_drewN | apply Kd.R_drew)); exact HO_5.out) hb); have n1_ := Aside0.mk (blk_below (g := gb459) (o := .cells #[.int .u64 x460000_1, .int .u64 x460001_1, .int .u64 x460002_1, .string x460003_1, .string x460004_1] 24 (0, 0)) (by (with_reducible repeat (first | refine blk_drewN ?_ _ | refine blk_drew ?_ | refine blk_alloc ?_ _)); exact BK459.out) hb); have n2_ := Aside0.mk (below_step (by repeat (first | (with_reducible first | exact HB.out | apply below_alloc | apply pw_below_drewN | apply below_drew1 | refine below_set ?_ GE459.out) | exact HB.out)) hb); clear HO_5; clear BK459; clear HB; have HO_5 := n0_; have BK459 := n1_; have HB := n2_; clear n0_ n1_ n2_; (try clear hb); (try clear hb2); (try clear hk); (try clear hi); have hcz22_0 : w21.cell? ⟨gb459, 0, none⟩ = some (.int .u64 x460000_1) := (blk_cell BK459.out 0).trans rfl; have hcz22_1 : w21.cell? ⟨gb459, 1, none⟩ = some (.int .u64 x460001_1) := (blk_cell BK459.out 1).trans rfl; have hcz22_2 : w21.cell? ⟨gb459, 2, none⟩ = some (.int .u64 x460002_1) := (blk_cell BK459.out 2).trans rfl; have hcz22_3 : w21.cell? ⟨gb459, 3, none⟩ = some (.string x460003_1) := (blk_cell BK459.out 3).trans rfl; have hcz22_4 : w21.cell? ⟨gb459, 4, none⟩ = some (.string x460004_1) := (blk_cell BK459.out 4).trans rfl; have hfz22_0 := blk_frozen BK459.out 0; have hfz22_1 := blk_frozen BK459.out 1; have hfz22_2 := blk_frozen BK459.out 2; have hfz22_3 := blk_frozen BK459.out 3; have hfz22_4 := blk_frozen BK459.out 4) | ((with_reducible refine only_builtin (b := .append) (xs := #[.tmp 27, .tmp 29]) rfl ?_); at_builtin; refine Kd.R_append k24 (w0 := w) w.heap.size rfl (.tmp 27) (.tmp 29) 44 24 (.agg #[(.int .u64 0), (.int .u64 0), (.int .u64 0), (.string ⟨#[]⟩), (.string ⟨#[]⟩)]) 56 rfl Tryd.underlying44 info24 rfl (by decide) (by omega) u5 x5_1 (⟨t472, t473, t474, t475, t476⟩ : S24) [.int .u64 t472, .int .u64 t473, .int .u64 t474, .string t475, .string t476] (fun k_ => k_ ≠ gb459) (fun _ => False) rfl (by first | (go_simp; done) | (go_simp; rfl)) ?aP (fun _ hk => hk.elim) ?aF ?aO ?aB ?aS ?aL ?_; (case aP => exact k24_mkM _ _ _ (⟨t472, t473, t474, t475, t476⟩ : S24)); (case aB => exact (by repeat (first | (with_reducible first | exact HB.out | apply below_alloc | apply pw_below_drewN | apply below_drew1 | refine below_set ?_ GE459.out) | exact HB.out))); (case aF => exact (fun k_ hk => Kd.freshB (g := gb459) (o := .cells #[.int .u64 t472, .int .u64 t473, .int .u64 t474, .string t475, .string t476] 24 (0, 0)) (by (with_reducible repeat (first | refine blk_drewN ?_ _ | refine blk_drew ?_ | refine blk_alloc ?_ _)); refine blk_put (cs := #[.int .u64 t472, .int .u64 t473, .int .u64 t474, .string t475, .string x460004_1]) ?_ 4 _ rfl; (with_reducible repeat (first | refine blk_drewN ?_ _ | refine blk_drew ?_ | refine blk_alloc ?_ _)); refine blk_put (cs := #[.int .u64 t472, .int .u64 t473, .int .u64 t474, .string x460003_1, .string x460004_1]) ?_ 3 _ rfl; (with_reducible repeat (first | refine blk_drewN ?_ _ | refine blk_drew ?_ | refine blk_alloc ?_ _)); refine blk_put (cs := #[.int .u64 t472, .int .u64 t473, .int .u64 x460002_1, .string x460003_1, .string x460004_1]) ?_ 2 _ rfl; (with_reducible repeat (first | refine blk_drewN ?_ _ | refine blk_drew ?_ | refine blk_alloc ?_ _)); refine blk_put (cs := #[.int .u64 t472, .int .u64 x460001_1, .int .u64 x460002_1, .string x460003_1, .string x460004_1]) ?_ 1 _ rfl; (with_reducible repeat (first | refine blk_drewN ?_ _ | refine blk_drew ?_ | refine blk_alloc ?_ _)); refine blk_put (cs := #[.int .u64 x460000_1, .int .u64 x460001_1, .int .u64 x460002_1, .string x460003_1, .string x460004_1]) ?_ 0 _ rfl; (with_reducible repeat (first | refine blk_drewN ?_ _ | refine blk_drew ?_ | refine blk_alloc ?_ _)); exact BK459.out) k_ hk)); (case aO => exact (by (with_reducible repeat (first | apply Kd.R_alloc | apply Kd.R_drewN | apply Kd.R_drew)); exact Kd.R_mono (Kd.R_far (p := ⟨gb459, 4, none⟩) (Kd.R_far (p := ⟨gb459, 3, none⟩) (Kd.R_far (p := ⟨gb459, 2, none⟩) (Kd.R_far (p := ⟨gb459, 1, none⟩) (Kd.R_far (p := ⟨gb459, 0, none⟩) (Kd.R_mono HO_5.out (fun k_ hk => (⟨hk, hk⟩ : _ ∧ k_ ≠ gb459))) (fun _ hk => hk.2) (.int .u64 t472)) (fun _ hk => hk.2) (.int .u64 t473)) (fun _ hk => hk.2) (.int .u64 t474)) (fun _ hk => hk.2) (.string t475)) (fun _ hk => hk.2) (.string t476)) (fun _ hk => hk.1))); (case aS => exact (below_size (by repeat (first | (with_reducible first | exact HB.out | apply below_alloc | apply pw_below_drewN | apply below_drew1 | refine below_set ?_ GE459.out) | exact HB.out)))); (case aL => have := LMc19.out; omega); intro v478 w23 ho hb hg hat; rw [← Ny477.out] at ho; have n0_ := Aside0.mk (blk_grown (g := gb459) (o := .cells #[.int .u64 t472, .int .u64 t473, .int .u64 t474, .string t475, .string t476] 24 (0, 0)) (by (with_reducible repeat (first | refine blk_drewN ?_ _ | refine blk_drew ?_ | refine blk_alloc ?_ _)); refine blk_put (cs := #[.int .u64 t472, .int .u64 t473, .int .u64 t474, .string t475, .string x460004_1]) ?_ 4 _ rfl; (with_reducible repeat (first | refine blk_drewN ?_ _ | refine blk_drew ?_ | refine blk_alloc ?_ _)); refine blk_put (cs := #[.int .u64 t472, .int .u64 t473, .int .u64 t474, .string x460003_1, .string x460004_1]) ?_ 3 _ rfl; (with_reducible repeat (first | refine blk_drewN ?_ _ | refine blk_drew ?_ | refine blk_alloc ?_ _)); refine blk_put (cs := #[.int .u64 t472, .int .u64 t473, .int .u64 x460002_1, .string x460003_1, .string x460004_1]) ?_ 2 _ rfl; (with_reducible repeat (first | refine blk_drewN ?_ _ | refine blk_drew ?_ | refine blk_alloc ?_ _)); refine blk_put (cs := #[.int .u64 t472, .int .u64 x460001_1, .int .u64 x460002_1, .string x460003_1, .string x460004_1]) ?_ 1 _ rfl; (with_reducible repeat (first | refine blk_drewN ?_ _ | refine blk_drew ?_ | refine blk_alloc ?_ _)); refine blk_put (cs := #[.int .u64 x460000_1, .int .u64 x460001_1, .int .u64 x460002_1, .string x460003_1, .string x460004_1]) ?_ 0 _ rfl; (with_reducible repeat (first | refine blk_drewN ?_ _ | refine blk_drew ?_ | refine blk_alloc ?_ _)); exact BK459.out) hg (Kd.R_away HO_5.out (fun _ hk => hk))); have n1_ := Aside0.mk (hb); have n2_ := Aside0.mk (ho); clear BK459; clear HB; clear HO_5; have BK459 := n0_; have HB := n1_; have HO479 := n2_; clear n0_ n1_ n2_; clear ho hb hg hat))
                  go_roundg k1
                  case measure => have := HK1.out; omega
                  case rel => exact ⟨(y477), (wrap64 (x12_1 + 1)), (t472), (t473), (t474), (t475), (t476), (by first | rfl | (simp; done) | (simp [*]; done) | (simp [nil_bne]; done)), H', ⟨by have := HK1.out; omega⟩, ⟨by (with_reducible repeat (first | apply Kd.R_alloc | apply Kd.R_drewN | apply Kd.R_drew)); exact HO479.out⟩, ⟨by (with_reducible repeat (first | refine blk_drewN ?_ _ | refine blk_drew ?_ | refine blk_alloc ?_ _)); exact BK459.out⟩, ⟨by repeat (first | (with_reducible first | exact HB.out | apply below_alloc | apply pw_below_drewN | apply below_drew1 | refine below_set ?_ GE459.out) | exact HB.out)⟩⟩
                · rw [if_neg c19] at H
                  exact absurd H (by simp)
              · rw [if_neg c17] at H
                have c17b0 : ((rd l1 x12_1) == 1) = false := beq_eq_false_iff_ne.mpr c17
                have c17b1 : ((rd l1 x12_1) != 1) = true := bne_iff_ne.mpr c17
                replace H := Option.bind_eq_some_iff.mp H
                obtain ⟨⟨t480, t481, t482, t483, t484⟩, A240, H⟩ := H
                replace H : (if x5_1.length < 2513169434916 then (laws_svRun.l0 k1 (x5_1 ++ [(⟨t480, t481, t482, t483, t484⟩ : S24)]) l1 (l1.length : Int) (wrap64 (x12_1 + 1)) t480 t481 t482 t483 t484) else (none)) = some r := H
                have A24 := Aside0.mk A240
                clear A240
                by_cases c25 : x5_1.length < 2513169434916
                · rw [if_pos c25] at H
                  have LMc25 := Aside0.mk c25
                  clear c25
                  obtain ⟨y485, hy485⟩ : ∃ y_ : List (S24), y_ = (x5_1 ++ [(⟨t480, t481, t482, t483, t484⟩ : S24)]) := ⟨_, rfl⟩
                  replace H : (laws_svRun.l0 k1 y485 l1 (l1.length : Int) (wrap64 (x12_1 + 1)) t480 t481 t482 t483 t484) = some r := by first | (rw [hy485]; with_reducible exact H) | (have H2_ := (Option.bind_some _ _).symm.trans H; rw [hy485]; with_reducible exact H2_) | (have H2_ := (Option.bind_some _ _).symm.trans H; with_reducible exact H2_) | with_reducible exact H | (rw [hy485]; exact H) | exact H
                  have Ny485 := Aside0.mk hy485
                  clear hy485
                  have H' := Aside0.mk H
                  clear H
                  have p463 : 0 ≤ (x12_1 : Int) := of_decide_eq_true (by first | (with_reducible assumption) | assumption)
                  have q463 : x12_1 < (l1.length : Int) := of_decide_eq_true (by first | (with_reducible assumption) | assumption)
                  obtain ⟨ad463, e463, hx463_0⟩ := Kd.at_int HR1.out x12_1 p463 q463
                  cases e463
                  replace hx463_0 := (HB.out.cell (World.block_lt_of_cell? w _ hx463_0)).trans hx463_0
                  replace p463 := eq_true p463
                  replace q463 := eq_true q463
                  have hcz26_0 : wr.cell? ⟨gb459, 0, none⟩ = some (.int .u64 x460000_1) := (blk_cell BK459.out 0).trans rfl
                  have hcz26_1 : wr.cell? ⟨gb459, 1, none⟩ = some (.int .u64 x460001_1) := (blk_cell BK459.out 1).trans rfl
                  have hcz26_2 : wr.cell? ⟨gb459, 2, none⟩ = some (.int .u64 x460002_1) := (blk_cell BK459.out 2).trans rfl
                  have hcz26_3 : wr.cell? ⟨gb459, 3, none⟩ = some (.string x460003_1) := (blk_cell BK459.out 3).trans rfl
                  have hcz26_4 : wr.cell? ⟨gb459, 4, none⟩ = some (.string x460004_1) := (blk_cell BK459.out 4).trans rfl
                  have hfz26_0 := blk_frozen BK459.out 0
                  have hfz26_1 := blk_frozen BK459.out 1
                  have hfz26_2 := blk_frozen BK459.out 2
                  have hfz26_3 := blk_frozen BK459.out 3
                  have hfz26_4 := blk_frozen BK459.out 4
                  go_wp2_with (first | ((with_reducible refine only_callee (f := 88) rfl ?_); refine goesL_ (some 18) rfl rfl Tryd.func88 (by kernel_rfl) rfl #[.agg #[.int .u64 x460000_1, .int .u64 x460001_1, .int .u64 x460002_1, .string x460003_1, .string x460004_1]] rfl (by (try simp only [List.map_toArray, List.map_cons, List.map_nil]); first | done | rfl | (simp only [List.length_drop, List.length_take]; rfl)) ?_; (with_reducible refine (impl_VersionIncMajor.calls x460000_1 x460001_1 x460002_1 x460003_1 x460004_1 t480 t481 t482 t483 t484 _ ?side1 A24.out).mono ?_); (case side1 => exact globT_below HGT.out (by repeat (first | (with_reducible first | exact HB.out | apply below_alloc | apply pw_below_drewN | apply below_drew1 | refine below_set ?_ GE459.out) | exact HB.out))); rintro e w27 ⟨rfl, hb⟩; refine ⟨_, rfl, ?_⟩; have n0_ := Aside0.mk (Kd.R_below (by (with_reducible repeat (first | apply Kd.R_alloc | apply Kd.R_drewN | apply Kd.R_drew)); exact HO_5.out) hb); have n1_ := Aside0.mk (blk_below (g := gb459) (o := .cells #[.int .u64 x460000_1, .int .u64 x460001_1, .int .u64 x460002_1, .string x460003_1, .string x460004_1] 24 (0, 0)) (by (with_reducible repeat (first | refine blk_drewN ?_ _ | refine blk_drew ?_ | refine blk_alloc ?_ _)); exact BK459.out) hb); have n2_ := Aside0.mk (below_step (by repeat (first | (with_reducible first | exact HB.out | apply below_alloc | apply pw_below_drewN | apply below_drew1 | refine below_set ?_ GE459.out) | exact HB.out)) hb); clear HO_5; clear BK459; clear HB; have HO_5 := n0_; have BK459 := n1_; have HB := n2_; clear n0_ n1_ n2_; (try clear hb); (try clear hb2); (try clear hk); (try clear hi); have hcz28_0 : w27.cell? ⟨gb459, 0, none⟩ = some (.int .u64 x460000_1) := (blk_cell BK459.out 0).trans rfl; have hcz28_1 : w27.cell? ⟨gb459, 1, none⟩ = some (.int .u64 x460001_1) := (blk_cell BK459.out 1).trans rfl; have hcz28_2 : w27.cell? ⟨gb459, 2, none⟩ = some (.int .u64 x460002_1) := (blk_cell BK459.out 2).trans rfl; have hcz28_3 : w27.cell? ⟨gb459, 3, none⟩ = some (.string x460003_1) := (blk_cell BK459.out 3).trans rfl; have hcz28_4 : w27.cell? ⟨gb459, 4, none⟩ = some (.string x460004_1) := (blk_cell BK459.out 4).trans rfl; have hfz28_0 := blk_frozen BK459.out 0; have hfz28_1 := blk_frozen BK459.out 1; have hfz28_2 := blk_frozen BK459.out 2; have hfz28_3 := blk_frozen BK459.out 3; have hfz28_4 := blk_frozen BK459.out 4) | ((with_reducible refine only_builtin (b := .append) (xs := #[.tmp 27, .tmp 29]) rfl ?_); at_builtin; refine Kd.R_append k24 (w0 := w) w.heap.size rfl (.tmp 27) (.tmp 29) 44 24 (.agg #[(.int .u64 0), (.int .u64 0), (.int .u64 0), (.string ⟨#[]⟩), (.string ⟨#[]⟩)]) 56 rfl Tryd.underlying44 info24 rfl (by decide) (by omega) u5 x5_1 (⟨t480, t481, t482, t483, t484⟩ : S24) [.int .u64 t480, .int .u64 t481, .int .u64 t482, .string t483, .string t484] (fun k_ => k_ ≠ gb459) (fun _ => False) rfl (by first | (go_simp; done) | (go_simp; rfl)) ?aP (fun _ hk => hk.elim) ?aF ?aO ?aB ?aS ?aL ?_; (case aP => exact k24_mkM _ _ _ (⟨t480, t481, t482, t483, t484⟩ : S24)); (case aB => exact (by repeat (first | (with_reducible first | exact HB.out | apply below_alloc | apply pw_below_drewN | apply below_drew1 | refine below_set ?_ GE459.out) | exact HB.out))); (case aF => exact (fun k_ hk => Kd.freshB (g := gb459) (o := .cells #[.int .u64 t480, .int .u64 t481, .int .u64 t482, .string t483, .string t484] 24 (0, 0)) (by (with_reducible repeat (first | refine blk_drewN ?_ _ | refine blk_drew ?_ | refine blk_alloc ?_ _)); refine blk_put (cs := #[.int .u64 t480, .int .u64 t481, .int .u64 t482, .string t483, .string x460004_1]) ?_ 4 _ rfl; (with_reducible repeat (first | refine blk_drewN ?_ _ | refine blk_drew ?_ | refine blk_alloc ?_ _)); refine blk_put (cs := #[.int .u64 t480, .int .u64 t481, .int .u64 t482, .string x460003_1, .string x460004_1]) ?_ 3 _ rfl; (with_reducible repeat (first | refine blk_drewN ?_ _ | refine blk_drew ?_ | refine blk_alloc ?_ _)); refine blk_put (cs := #[.int .u64 t480, .int .u64 t481, .int .u64 x460002_1, .string x460003_1, .string x460004_1]) ?_ 2 _ rfl; (with_reducible repeat (first | refine blk_drewN ?_ _ | refine blk_drew ?_ | refine blk_alloc ?_ _)); refine blk_put (cs := #[.int .u64 t480, .int .u64 x460001_1, .int .u64 x460002_1, .string x460003_1, .string x460004_1]) ?_ 1 _ rfl; (with_reducible repeat (first | refine blk_drewN ?_ _ | refine blk_drew ?_ | refine blk_alloc ?_ _)); refine blk_put (cs := #[.int .u64 x460000_1, .int .u64 x460001_1, .int .u64 x460002_1, .string x460003_1, .string x460004_1]) ?_ 0 _ rfl; (with_reducible repeat (first | refine blk_drewN ?_ _ | refine blk_drew ?_ | refine blk_alloc ?_ _)); exact BK459.out) k_ hk)); (case aO => exact (by (with_reducible repeat (first | apply Kd.R_alloc | apply Kd.R_drewN | apply Kd.R_drew)); exact Kd.R_mono (Kd.R_far (p := ⟨gb459, 4, none⟩) (Kd.R_far (p := ⟨gb459, 3, none⟩) (Kd.R_far (p := ⟨gb459, 2, none⟩) (Kd.R_far (p := ⟨gb459, 1, none⟩) (Kd.R_far (p := ⟨gb459, 0, none⟩) (Kd.R_mono HO_5.out (fun k_ hk => (⟨hk, hk⟩ : _ ∧ k_ ≠ gb459))) (fun _ hk => hk.2) (.int .u64 t480)) (fun _ hk => hk.2) (.int .u64 t481)) (fun _ hk => hk.2) (.int .u64 t482)) (fun _ hk => hk.2) (.string t483)) (fun _ hk => hk.2) (.string t484)) (fun _ hk => hk.1))); (case aS => exact (below_size (by repeat (first | (with_reducible first | exact HB.out | apply below_alloc | apply pw_below_drewN | apply below_drew1 | refine below_set ?_ GE459.out) | exact HB.out)))); (case aL => have := LMc25.out; omega); intro v486 w29 ho hb hg hat; rw [← Ny485.out] at ho; have n0_ := Aside0.mk (blk_grown (g := gb459) (o := .cells #[.int .u64 t480, .int .u64 t481, .int .u64 t482, .string t483, .string t484] 24 (0, 0)) (by (with_reducible repeat (first | refine blk_drewN ?_ _ | refine blk_drew ?_ | refine blk_alloc ?_ _)); refine blk_put (cs := #[.int .u64 t480, .int .u64 t481, .int .u64 t482, .string t483, .string x460004_1]) ?_ 4 _ rfl; (with_reducible repeat (first | refine blk_drewN ?_ _ | refine blk_drew ?_ | refine blk_alloc ?_ _)); refine blk_put (cs := #[.int .u64 t480, .int .u64 t481, .int .u64 t482, .string x460003_1, .string x460004_1]) ?_ 3 _ rfl; (with_reducible repeat (first | refine blk_drewN ?_ _ | refine blk_drew ?_ | refine blk_alloc ?_ _)); refine blk_put (cs := #[.int .u64 t480, .int .u64 t481, .int .u64 x460002_1, .string x460003_1, .string x460004_1]) ?_ 2 _ rfl; (with_reducible repeat (first | refine blk_drewN ?_ _ | refine blk_drew ?_ | refine blk_alloc ?_ _)); refine blk_put (cs := #[.int .u64 t480, .int .u64 x460001_1, .int .u64 x460002_1, .string x460003_1, .string x460004_1]) ?_ 1 _ rfl; (with_reducible repeat (first | refine blk_drewN ?_ _ | refine blk_drew ?_ | refine blk_alloc ?_ _)); refine blk_put (cs := #[.int .u64 x460000_1, .int .u64 x460001_1, .int .u64 x460002_1, .string x460003_1, .string x460004_1]) ?_ 0 _ rfl; (with_reducible repeat (first | refine blk_drewN ?_ _ | refine blk_drew ?_ | refine blk_alloc ?_ _)); exact BK459.out) hg (Kd.R_away HO_5.out (fun _ hk => hk))); have n1_ := Aside0.mk (hb); have n2_ := Aside0.mk (ho); clear BK459; clear HB; clear HO_5; have BK459 := n0_; have HB := n1_; have HO487 := n2_; clear n0_ n1_ n2_; clear ho hb hg hat))
                  go_roundg k1
                  case measure => have := HK1.out; omega
                  case rel => exact ⟨(y485), (wrap64 (x12_1 + 1)), (t480), (t481), (t482), (t483), (t484), (by first | rfl | (simp; done) | (simp [*]; done) | (simp [nil_bne]; done)), H', ⟨by have := HK1.out; omega⟩, ⟨by (with_reducible repeat (first | apply Kd.R_alloc | apply Kd.R_drewN | apply Kd.R_drew)); exact HO487.out⟩, ⟨by (with_reducible repeat (first | refine blk_drewN ?_ _ | refine blk_drew ?_ | refine blk_alloc ?_ _)); exact BK459.out⟩, ⟨by repeat (first | (with_reducible first | exact HB.out | apply below_alloc | apply pw_below_drewN | apply below_drew1 | refine below_set ?_ GE459.out) | exact HB.out)⟩⟩
                · rw [if_neg c25] at H
                  exact absurd H (by simp)
          · rw [if_neg c9] at H
            exact absurd H (by simp)
        · rw [if_neg c8] at H
          exact absurd H (by simp)
      · rw [if_neg c7] at H
        have c7b0 : decide (x12_1 < (l1.length : Int)) = false := decide_eq_false c7
        clear c7
        obtain rfl := Option.some.inj H
        go_wp2
        go_ret
        exact ⟨_, by first | rfl | (simp [errW_none, errW_some] <;> rfl) | (simp [*, errW_none, errW_some] <;> rfl), by (with_reducible repeat (first | apply Kd.R_alloc | apply Kd.R_drewN | apply Kd.R_drew)); exact Kd.R_mono HO_5.out (fun _ hk => trivial), by repeat (first | (with_reducible first | exact HB.out | apply below_alloc | apply pw_below_drewN | apply below_drew1 | refine below_set ?_ GE459.out) | exact HB.out)⟩

-- NOT PRINTED: function 9 (laws_FnSemverIncRun)

end Go.Proofs.YtlooelfkkbgmhaaDoor.QS
