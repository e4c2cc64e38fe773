-- written by a program of mine (wip/tools/bigprint.py over myprint.py) for this claim. Not trusted: Lean checks it.
import Derived.Test.YtlooelfkkbgmhaaDoorQlawsFnSemverIncRunD
namespace Go.Proofs.YtlooelfkkbgmhaaDoor.QS
open Go.RowKit Go.Proofs.YtlooelfkkbgmhaaDoorW.PrintWords Go.Proofs.YtlooelfkkbgmhaaDoorW.PrintLast
set_option linter.unusedVariables false
set_option linter.unusedSimpArgs false

attribute [local go_sem high] eqA24
set_option maxHeartbeats 8000000 in
set_option maxRecDepth 100000 in
theorem laws_FnSemverIncRun.calls (k : Nat) (a0_0 : Int) (a0_1 : Int) (a0_2 : Int) (a0_3 : ByteArray) (a0_4 : ByteArray) (A1 : Option Addr) (c1 : Nat) (l1 : List Int) (r : Bool) (w : World) (hr1 : Kd.C (Kd.int .u8) w A1 l1.length l1) (hc1 : l1.length ≤ c1) (hGE : GlobE w) (hGT : GlobT w) (h : laws_FnSemverIncRun.f k a0_0 a0_1 a0_2 a0_3 a0_4 l1 = some r) :
  Calls Tryd.prog 9 #[.agg #[.int .u64 a0_0, .int .u64 a0_1, .int .u64 a0_2, .string a0_3, .string a0_4], .slice A1 l1.length c1] w fun e w' => e = .returned (.bool r) ∧ Below w.heap.size w w' := by
 have hu24 := Tryd.underlying24
 have HGE := Aside0.mk hGE
 clear hGE
 have HGT := Aside0.mk hGT
 clear hGT
 have HR1 := Aside0.mk hr1
 have HC1 := Aside0.mk hc1
 clear hr1 hc1
 have HB := Aside0.mk (Below.refl w.heap.size w)
 have H : ((laws_zzFits14.f a0_0 a0_1 a0_2 a0_3 a0_4).bind fun t174 => (if t174 = true then (laws_FnSemverIncRun.j0 k l1 (decide ((l1.length : Int) > 2147483647)) a0_0 a0_1 a0_2 a0_3 a0_4) else (laws_FnSemverIncRun.j0 k l1 true a0_0 a0_1 a0_2 a0_3 a0_4))) = some r := h
 clear h
 have HC3 := Aside0.mk H
 clear H
 go_enter Tryd.func9, Tryd.ntmps9
 go_upto_region 1 with (first | ((with_reducible refine gate_dst (N := 2) rfl ?_); (try (refine gate_guard (by rfl) ?_; dsimp only)); refine box_event ?hg (N := 2) ?hd (cs := #[.int .u64 a0_0, .int .u64 a0_1, .int .u64 a0_2, .string a0_3, .string a0_4]) (t := 24) ?hr ?_; (case hd => rfl); (case hg => rfl); (case hr => first | (go_simp; done) | (go_simp; rfl)); intro gb173 hg w4 hbox hb; have n0_ := Aside0.mk (below_step (by repeat (first | (with_reducible first | exact HB.out | apply below_alloc | apply pw_below_drewN | apply below_drew1) | exact HB.out)) hb); have n1_ := Aside0.mk (hbox); have n2_ := Aside0.mk ((by rw [hg]; exact (below_size (by repeat (first | (with_reducible first | exact HB.out | apply below_alloc | apply pw_below_drewN | apply below_drew1) | exact HB.out))) : w.heap.size ≤ gb173)); have n3_ := Aside0.mk ((by rw [hg]; exact (below_size (by repeat (first | (with_reducible first | exact HB.out | apply below_alloc | apply pw_below_drewN | apply below_drew1) | exact HB.out))) : w.heap.size ≤ gb173)); clear HB; have HB := n0_; have BK173 := n1_; have GW173 := n2_; have GE173 := n3_; clear n0_ n1_ n2_ n3_; clear hb hbox hg))
 (try simp only [Act.put, List.setIfInBounds_toArray, List.set_cons_zero, List.set_cons_succ])
 go_cut [17] (fun v17 wc => ∃ (kq : Nat) (x17_2 : Bool), v17 = .bool x17_2 ∧ Aside0 (laws_FnSemverIncRun.j0 kq l1 x17_2 a0_0 a0_1 a0_2 a0_3 a0_4 = some r) ∧ Aside0 (kq ≤ k) ∧ Aside0 (wc.heap[gb173]? = some (.cells #[.int .u64 a0_0, .int .u64 a0_1, .int .u64 a0_2, .string a0_3, .string a0_4] 24 (0, 0))) ∧ Aside0 (Below w.heap.size w wc))
 case first =>
  have H := HC3.out
  clear HC3
  replace H := Option.bind_eq_some_iff.mp H
  obtain ⟨t174, A50, H⟩ := H
  replace H : (if t174 = true then (laws_FnSemverIncRun.j0 k l1 (decide ((l1.length : Int) > 2147483647)) a0_0 a0_1 a0_2 a0_3 a0_4) else (laws_FnSemverIncRun.j0 k l1 true a0_0 a0_1 a0_2 a0_3 a0_4)) = some r := H
  have A5 := Aside0.mk A50
  clear A50
  by_cases c6 : t174 = true
  ·subst c6
   have H1 : (laws_FnSemverIncRun.j0 k l1 (decide ((l1.length : Int) > 2147483647)) a0_0 a0_1 a0_2 a0_3 a0_4) = some r := by rw [if_pos rfl] at H; exact H
   clear H
   have H := H1
   clear H1
   have H' := Aside0.mk H
   clear H
   have hcz7_0 : w4.cell? ⟨gb173, 0, none⟩ = some (.int .u64 a0_0) := (blk_cell BK173.out 0).trans rfl
   have hcz7_1 : w4.cell? ⟨gb173, 1, none⟩ = some (.int .u64 a0_1) := (blk_cell BK173.out 1).trans rfl
   have hcz7_2 : w4.cell? ⟨gb173, 2, none⟩ = some (.int .u64 a0_2) := (blk_cell BK173.out 2).trans rfl
   have hcz7_3 : w4.cell? ⟨gb173, 3, none⟩ = some (.string a0_3) := (blk_cell BK173.out 3).trans rfl
   have hcz7_4 : w4.cell? ⟨gb173, 4, none⟩ = some (.string a0_4) := (blk_cell BK173.out 4).trans rfl
   have hfz7_0 := blk_frozen BK173.out 0
   have hfz7_1 := blk_frozen BK173.out 1
   have hfz7_2 := blk_frozen BK173.out 2
   have hfz7_3 := blk_frozen BK173.out 3
   have hfz7_4 := blk_frozen BK173.out 4
   go_wp2_with (first | ((with_reducible refine only_callee (f := 17) rfl ?_); refine goesL_ (some 11) rfl rfl Tryd.func17 (by kernel_rfl) rfl #[.agg #[.int .u64 a0_0, .int .u64 a0_1, .int .u64 a0_2, .string a0_3, .string a0_4]] rfl (by (try simp only [List.map_toArray, List.map_cons, List.map_nil]); first | done | rfl | (simp only [List.length_drop, List.length_take]; rfl)) ?_; (with_reducible refine (laws_zzFits14.calls a0_0 a0_1 a0_2 a0_3 a0_4 true _ A5.out).mono ?_); rintro e w8 ⟨rfl, hb⟩; refine ⟨_, rfl, ?_⟩; have n0_ := Aside0.mk (blk_below (g := gb173) (o := .cells #[.int .u64 a0_0, .int .u64 a0_1, .int .u64 a0_2, .string a0_3, .string a0_4] 24 (0, 0)) (by (with_reducible repeat (first | refine blk_drewN ?_ _ | refine blk_drew ?_ | refine blk_alloc ?_ _)); exact BK173.out) hb); have n1_ := Aside0.mk (below_step (by repeat (first | (with_reducible first | exact HB.out | apply below_alloc | apply pw_below_drewN | apply below_drew1 | refine below_set ?_ GE173.out) | exact HB.out)) hb); clear BK173; clear HB; have BK173 := n0_; have HB := n1_; clear n0_ n1_; (try clear hb); (try clear hb2); (try clear hk); (try clear hi)))
   go_meet
   case rel => exact ⟨_, (decide ((l1.length : Int) > 2147483647)), (by first | rfl | (simp; done) | (simp [*]; done) | (simp [nil_bne]; done)), H', ⟨by first | omega | exact Nat.le_refl _⟩, ⟨by (with_reducible repeat (first | refine blk_drewN ?_ _ | refine blk_drew ?_ | refine blk_alloc ?_ _)); exact BK173.out⟩, ⟨by repeat (first | (with_reducible first | exact HB.out | apply below_alloc | apply pw_below_drewN | apply below_drew1 | refine below_set ?_ GE173.out) | exact HB.out)⟩⟩
  ·replace c6 := Bool.eq_false_iff.mpr c6
   subst c6
   have H1 : (laws_FnSemverIncRun.j0 k l1 true a0_0 a0_1 a0_2 a0_3 a0_4) = some r := by rw [if_neg (show ¬ (false = true) by decide)] at H; exact H
   clear H
   have H := H1
   clear H1
   have H' := Aside0.mk H
   clear H
   have hcz9_0 : w4.cell? ⟨gb173, 0, none⟩ = some (.int .u64 a0_0) := (blk_cell BK173.out 0).trans rfl
   have hcz9_1 : w4.cell? ⟨gb173, 1, none⟩ = some (.int .u64 a0_1) := (blk_cell BK173.out 1).trans rfl
   have hcz9_2 : w4.cell? ⟨gb173, 2, none⟩ = some (.int .u64 a0_2) := (blk_cell BK173.out 2).trans rfl
   have hcz9_3 : w4.cell? ⟨gb173, 3, none⟩ = some (.string a0_3) := (blk_cell BK173.out 3).trans rfl
   have hcz9_4 : w4.cell? ⟨gb173, 4, none⟩ = some (.string a0_4) := (blk_cell BK173.out 4).trans rfl
   have hfz9_0 := blk_frozen BK173.out 0
   have hfz9_1 := blk_frozen BK173.out 1
   have hfz9_2 := blk_frozen BK173.out 2
   have hfz9_3 := blk_frozen BK173.out 3
   have hfz9_4 := blk_frozen BK173.out 4
   go_wp2_with (first | ((with_reducible refine only_callee (f := 17) rfl ?_); refine goesL_ (some 11) rfl rfl Tryd.func17 (by kernel_rfl) rfl #[.agg #[.int .u64 a0_0, .int .u64 a0_1, .int .u64 a0_2, .string a0_3, .string a0_4]] rfl (by (try simp only [List.map_toArray, List.map_cons, List.map_nil]); first | done | rfl | (simp only [List.length_drop, List.length_take]; rfl)) ?_; (with_reducible refine (laws_zzFits14.calls a0_0 a0_1 a0_2 a0_3 a0_4 false _ A5.out).mono ?_); rintro e w10 ⟨rfl, hb⟩; refine ⟨_, rfl, ?_⟩; have n0_ := Aside0.mk (blk_below (g := gb173) (o := .cells #[.int .u64 a0_0, .int .u64 a0_1, .int .u64 a0_2, .string a0_3, .string a0_4] 24 (0, 0)) (by (with_reducible repeat (first | refine blk_drewN ?_ _ | refine blk_drew ?_ | refine blk_alloc ?_ _)); exact BK173.out) hb); have n1_ := Aside0.mk (below_step (by repeat (first | (with_reducible first | exact HB.out | apply below_alloc | apply pw_below_drewN | apply below_drew1 | refine below_set ?_ GE173.out) | exact HB.out)) hb); clear BK173; clear HB; have BK173 := n0_; have HB := n1_; clear n0_ n1_; (try clear hb); (try clear hb2); (try clear hk); (try clear hi)))
   go_meet
   case rel => exact ⟨_, (true), (by first | rfl | (simp; done) | (simp [*]; done) | (simp [nil_bne]; done)), H', ⟨by first | omega | exact Nat.le_refl _⟩, ⟨by (with_reducible repeat (first | refine blk_drewN ?_ _ | refine blk_drew ?_ | refine blk_alloc ?_ _)); exact BK173.out⟩, ⟨by repeat (first | (with_reducible first | exact HB.out | apply below_alloc | apply pw_below_drewN | apply below_drew1 | refine below_set ?_ GE173.out) | exact HB.out)⟩⟩
 case rest =>
  clear HC3
  try clear c1
  try clear p2
  try clear c6
  try clear c9
  try clear hcz7_0
  try clear hcz7_1
  try clear hcz7_2
  try clear hcz7_3
  try clear hcz7_4
  try clear hcz9_0
  try clear hcz9_1
  try clear hcz9_2
  try clear hcz9_3
  try clear hcz9_4
  try clear hfz7_0
  try clear hfz7_1
  try clear hfz7_2
  try clear hfz7_3
  try clear hfz7_4
  try clear hfz9_0
  try clear hfz9_1
  try clear hfz9_2
  try clear hfz9_3
  try clear hfz9_4
  obtain ⟨kq, x17_2, rfl, HA, HJ2, BK173, HB⟩ := hcut
  cases kq with
  | zero => exact absurd HA.out (by simp [laws_FnSemverIncRun.j0])
  | succ kj2 =>
   have H := HA.out
   clear HA
   simp only [laws_FnSemverIncRun.j0] at H
   by_cases c11 : x17_2 = true
   ·subst c11
    have H1 : (some true) = some r := by rw [if_pos rfl] at H; exact H
    clear H
    have H := H1
    clear H1
    obtain rfl := Option.some.inj H
    go_wp2
    go_ret
    exact ⟨by first | rfl | (simp [errW_none, errW_some] <;> rfl) | (simp [*, errW_none, errW_some] <;> rfl), by repeat (first | (with_reducible first | exact HB.out | apply below_alloc | apply pw_below_drewN | apply below_drew1 | refine below_set ?_ GE173.out) | exact HB.out)⟩
   ·replace c11 := Bool.eq_false_iff.mpr c11
    subst c11
    have H1 : ((laws_svGood.f kj2 (([(⟨a0_0, a0_1, a0_2, a0_3, a0_4⟩ : S24)] : List (S24)))).bind fun t178 => (if t178 = true then ((spec_Plain.f kj2 a0_0 a0_1 a0_2 a0_3 a0_4).bind fun t179 => (if t179 = true then (if (l1.length : Int) > 64 then (laws_FnSemverIncRun.j1 kj2 l1 true a0_0 a0_1 a0_2 a0_3 a0_4) else (laws_FnSemverIncRun.j1 kj2 l1 ((IntKind.u64.wrap ((IntKind.u64.wrap ((a0_0 / 9223372036854775808) + (a0_1 / 9223372036854775808))) + (a0_2 / 9223372036854775808))) != 0) a0_0 a0_1 a0_2 a0_3 a0_4)) else (laws_FnSemverIncRun.j1 kj2 l1 true a0_0 a0_1 a0_2 a0_3 a0_4))) else (laws_FnSemverIncRun.j1 kj2 l1 true a0_0 a0_1 a0_2 a0_3 a0_4))) = some r := by rw [if_neg (show ¬ (false = true) by decide)] at H; exact H
    clear H
    have H := H1
    clear H1
    have HC12 := Aside0.mk H
    clear H
    go_upto_region 3 with (fail)
    go_cut [45] (fun v45 wc => ∃ (kq : Nat) (x45_11 : Bool), v45 = .bool x45_11 ∧ Aside0 (laws_FnSemverIncRun.j1 kq l1 x45_11 a0_0 a0_1 a0_2 a0_3 a0_4 = some r) ∧ Aside0 (kq ≤ kj2) ∧ Aside0 (wc.heap[gb173]? = some (.cells #[.int .u64 a0_0, .int .u64 a0_1, .int .u64 a0_2, .string a0_3, .string a0_4] 24 (0, 0))) ∧ Aside0 (Below w.heap.size w wc))
    case first =>
     have H := HC12.out
     clear HC12
     obtain ⟨y175, hy175⟩ : ∃ y_ : List (S24), y_ = (([(⟨a0_0, a0_1, a0_2, a0_3, a0_4⟩ : S24)] : List (S24))) := ⟨_, rfl⟩
     replace H : ((laws_svGood.f kj2 y175).bind fun t178 => (if t178 = true then ((spec_Plain.f kj2 a0_0 a0_1 a0_2 a0_3 a0_4).bind fun t179 => (if t179 = true then (if (l1.length : Int) > 64 then (laws_FnSemverIncRun.j1 kj2 l1 true a0_0 a0_1 a0_2 a0_3 a0_4) else (laws_FnSemverIncRun.j1 kj2 l1 ((IntKind.u64.wrap ((IntKind.u64.wrap ((a0_0 / 9223372036854775808) + (a0_1 / 9223372036854775808))) + (a0_2 / 9223372036854775808))) != 0) a0_0 a0_1 a0_2 a0_3 a0_4)) else (laws_FnSemverIncRun.j1 kj2 l1 true a0_0 a0_1 a0_2 a0_3 a0_4))) else (laws_FnSemverIncRun.j1 kj2 l1 true a0_0 a0_1 a0_2 a0_3 a0_4))) = some r := by first | (rw [hy175]; with_reducible exact H) | (have H2_ := (Option.bind_some _ _).symm.trans H; rw [hy175]; with_reducible exact H2_) | (have H2_ := (Option.bind_some _ _).symm.trans H; with_reducible exact H2_) | with_reducible exact H | (rw [hy175]; exact H) | exact H
     have Ny175 := Aside0.mk hy175
     clear hy175
     replace H := Option.bind_eq_some_iff.mp H
     obtain ⟨t178, A130, H⟩ := H
     replace H : (if t178 = true then ((spec_Plain.f kj2 a0_0 a0_1 a0_2 a0_3 a0_4).bind fun t179 => (if t179 = true then (if (l1.length : Int) > 64 then (laws_FnSemverIncRun.j1 kj2 l1 true a0_0 a0_1 a0_2 a0_3 a0_4) else (laws_FnSemverIncRun.j1 kj2 l1 ((IntKind.u64.wrap ((IntKind.u64.wrap ((a0_0 / 9223372036854775808) + (a0_1 / 9223372036854775808))) + (a0_2 / 9223372036854775808))) != 0) a0_0 a0_1 a0_2 a0_3 a0_4)) else (laws_FnSemverIncRun.j1 kj2 l1 true a0_0 a0_1 a0_2 a0_3 a0_4))) else (laws_FnSemverIncRun.j1 kj2 l1 true a0_0 a0_1 a0_2 a0_3 a0_4)) = some r := H
     have A13 := Aside0.mk A130
     clear A130
     by_cases c14 : t178 = true
     ·subst c14
      have H1 : ((spec_Plain.f kj2 a0_0 a0_1 a0_2 a0_3 a0_4).bind fun t179 => (if t179 = true then (if (l1.length : Int) > 64 then (laws_FnSemverIncRun.j1 kj2 l1 true a0_0 a0_1 a0_2 a0_3 a0_4) else (laws_FnSemverIncRun.j1 kj2 l1 ((IntKind.u64.wrap ((IntKind.u64.wrap ((a0_0 / 9223372036854775808) + (a0_1 / 9223372036854775808))) + (a0_2 / 9223372036854775808))) != 0) a0_0 a0_1 a0_2 a0_3 a0_4)) else (laws_FnSemverIncRun.j1 kj2 l1 true a0_0 a0_1 a0_2 a0_3 a0_4))) = some r := by rw [if_pos rfl] at H; exact H
      clear H
      have H := H1
      clear H1
      replace H := Option.bind_eq_some_iff.mp H
      obtain ⟨t179, A150, H⟩ := H
      replace H : (if t179 = true then (if (l1.length : Int) > 64 then (laws_FnSemverIncRun.j1 kj2 l1 true a0_0 a0_1 a0_2 a0_3 a0_4) else (laws_FnSemverIncRun.j1 kj2 l1 ((IntKind.u64.wrap ((IntKind.u64.wrap ((a0_0 / 9223372036854775808) + (a0_1 / 9223372036854775808))) + (a0_2 / 9223372036854775808))) != 0) a0_0 a0_1 a0_2 a0_3 a0_4)) else (laws_FnSemverIncRun.j1 kj2 l1 true a0_0 a0_1 a0_2 a0_3 a0_4)) = some r := H
      have A15 := Aside0.mk A150
      clear A150
      by_cases c16 : t179 = true
      ·subst c16
       have H1 : (if (l1.length : Int) > 64 then (laws_FnSemverIncRun.j1 kj2 l1 true a0_0 a0_1 a0_2 a0_3 a0_4) else (laws_FnSemverIncRun.j1 kj2 l1 ((IntKind.u64.wrap ((IntKind.u64.wrap ((a0_0 / 9223372036854775808) + (a0_1 / 9223372036854775808))) + (a0_2 / 9223372036854775808))) != 0) a0_0 a0_1 a0_2 a0_3 a0_4)) = some r := by rw [if_pos rfl] at H; exact H
       clear H
       have H := H1
       clear H1
       by_cases c17 : (l1.length : Int) > 64
       ·rw [if_pos c17] at H
        have c17b0 : decide (64 < (l1.length : Int)) = true := decide_eq_true c17
        have c17b1 : decide (64 < l1.length) = true := decide_eq_true (by omega)
        clear c17
        (first | rw [c17b0] | (simp only [i64_w, i32_w]; rw [c17b0]) | rw [c17b1] | skip)
        have H' := Aside0.mk H
        clear H
        have hcz18_0 : wc.cell? ⟨gb173, 0, none⟩ = some (.int .u64 a0_0) := (blk_cell BK173.out 0).trans rfl
        have hcz18_1 : wc.cell? ⟨gb173, 1, none⟩ = some (.int .u64 a0_1) := (blk_cell BK173.out 1).trans rfl
        have hcz18_2 : wc.cell? ⟨gb173, 2, none⟩ = some (.int .u64 a0_2) := (blk_cell BK173.out 2).trans rfl
        have hcz18_3 : wc.cell? ⟨gb173, 3, none⟩ = some (.string a0_3) := (blk_cell BK173.out 3).trans rfl
        have hcz18_4 : wc.cell? ⟨gb173, 4, none⟩ = some (.string a0_4) := (blk_cell BK173.out 4).trans rfl
        have hfz18_0 := blk_frozen BK173.out 0
        have hfz18_1 := blk_frozen BK173.out 1
        have hfz18_2 := blk_frozen BK173.out 2
        have hfz18_3 := blk_frozen BK173.out 3
        have hfz18_4 := blk_frozen BK173.out 4
        go_wp2_with (first | ((with_reducible refine gate_dst (N := 19) rfl ?_); (try (refine gate_guard (by rfl) ?_; dsimp only)); refine Kd.R_lit k24 _ 24 ?hg (N := 19) ?hd (xs := ([(⟨a0_0, a0_1, a0_2, a0_3, a0_4⟩ : S24)] : List (S24))) (inner := [.int .u64 a0_0, .int .u64 a0_1, .int .u64 a0_2, .string a0_3, .string a0_4]) (ok := fun _ => True) (okp := fun _ => True) ?hr ?hp (fun _ hk => hk) trivial (Below.refl _ _) (Nat.le_refl _) (by simp) ?_; (case hd => rfl); (case hg => rfl); (case hr => first | (go_simp; done) | (go_simp; rfl)); (case hp => exact (Reps.c5 (show Kd.M k24 _ _ _ (⟨a0_0, a0_1, a0_2, a0_3, a0_4⟩ : S24) [.int .u64 a0_0, .int .u64 a0_1, .int .u64 a0_2, .string a0_3, .string a0_4] from (k24_mkM _ _ _ (⟨a0_0, a0_1, a0_2, a0_3, a0_4⟩ : S24) )) (Reps.none _ _))); intro v176 w19 ho20 hb hg_ hnew_; clear hg_ hnew_; (first | rw [← Ny175.out] at ho20 | (simp only [Int.reduceToNat] at ho20; rw [← Ny175.out] at ho20)); have n0_ := Aside0.mk (Kd.R_lower (Kd.R_newB ho20 (g := gb173) (o := .cells #[.int .u64 a0_0, .int .u64 a0_1, .int .u64 a0_2, .string a0_3, .string a0_4] 24 (0, 0)) (by (with_reducible repeat (first | refine blk_drewN ?_ _ | refine blk_drew ?_ | refine blk_alloc ?_ _)); exact BK173.out)) (below_size (by repeat (first | (with_reducible first | exact HB.out | apply below_alloc | apply pw_below_drewN | apply below_drew1 | refine below_set ?_ GE173.out) | exact HB.out)))); have n1_ := Aside0.mk (blk_below (g := gb173) (o := .cells #[.int .u64 a0_0, .int .u64 a0_1, .int .u64 a0_2, .string a0_3, .string a0_4] 24 (0, 0)) (by (with_reducible repeat (first | refine blk_drewN ?_ _ | refine blk_drew ?_ | refine blk_alloc ?_ _)); exact BK173.out) hb); have n2_ := Aside0.mk (below_step (by repeat (first | (with_reducible first | exact HB.out | apply below_alloc | apply pw_below_drewN | apply below_drew1 | refine below_set ?_ GE173.out) | exact HB.out)) hb); clear BK173; clear HB; have HO177 := n0_; have BK173 := n1_; have HB := n2_; clear n0_ n1_ n2_; clear hb ho20; obtain ⟨Ao21, co21, eo21⟩ := Kd.R_slice HO177.out; subst eo21) | ((with_reducible refine only_callee (f := 18) rfl ?_); refine goesL_ (some 20) rfl rfl Tryd.func18 (by kernel_rfl) rfl #[.slice Ao21 y175.length co21] rfl (by (try simp only [List.map_toArray, List.map_cons, List.map_nil]); first | done | rfl | (simp only [List.length_drop, List.length_take]; rfl)) ?_; (with_reducible refine (laws_svGood.calls kj2 _ _ y175 true _ ?side1 ?side2 A13.out).mono ?_); (case side1 => repeat (first | exact (Kd.R_reads' HO177.out).2.2 | (with_reducible refine Kd.C_alloc ?_ _) | (with_reducible refine Kd.C_drewN ?_ _) | (with_reducible refine Kd.C_drew ?_))); (case side2 => exact (Kd.R_reads' HO177.out).2.1); rintro e w22 ⟨rfl, hb⟩; refine ⟨_, rfl, ?_⟩; have n0_ := Aside0.mk (Kd.R_below (by (with_reducible repeat (first | apply Kd.R_alloc | apply Kd.R_drewN | apply Kd.R_drew)); exact HO177.out) hb); have n1_ := Aside0.mk (blk_below (g := gb173) (o := .cells #[.int .u64 a0_0, .int .u64 a0_1, .int .u64 a0_2, .string a0_3, .string a0_4] 24 (0, 0)) (by (with_reducible repeat (first | refine blk_drewN ?_ _ | refine blk_drew ?_ | refine blk_alloc ?_ _)); exact BK173.out) hb); have n2_ := Aside0.mk (below_step (by repeat (first | (with_reducible first | exact HB.out | apply below_alloc | apply pw_below_drewN | apply below_drew1 | refine below_set ?_ GE173.out) | exact HB.out)) hb); clear HO177; clear BK173; clear HB; have HO177 := n0_; have BK173 := n1_; have HB := n2_; clear n0_ n1_ n2_; (try clear hb); (try clear hb2); (try clear hk); (try clear hi); have hcz23_0 : w22.cell? ⟨gb173, 0, none⟩ = some (.int .u64 a0_0) := (blk_cell BK173.out 0).trans rfl; have hcz23_1 : w22.cell? ⟨gb173, 1, none⟩ = some (.int .u64 a0_1) := (blk_cell BK173.out 1).trans rfl; have hcz23_2 : w22.cell? ⟨gb173, 2, none⟩ = some (.int .u64 a0_2) := (blk_cell BK173.out 2).trans rfl; have hcz23_3 : w22.cell? ⟨gb173, 3, none⟩ = some (.string a0_3) := (blk_cell BK173.out 3).trans rfl; have hcz23_4 : w22.cell? ⟨gb173, 4, none⟩ = some (.string a0_4) := (blk_cell BK173.out 4).trans rfl; have hfz23_0 := blk_frozen BK173.out 0; have hfz23_1 := blk_frozen BK173.out 1; have hfz23_2 := blk_frozen BK173.out 2; have hfz23_3 := blk_frozen BK173.out 3; have hfz23_4 := blk_frozen BK173.out 4) | (go_at_call 19; (with_reducible refine (spec_Plain.calls kj2 a0_0 a0_1 a0_2 a0_3 a0_4 true _ A15.out).mono ?_); rintro e w24 ⟨rfl, hb⟩; have n0_ := Aside0.mk (Kd.R_below (by (with_reducible repeat (first | apply Kd.R_alloc | apply Kd.R_drewN | apply Kd.R_drew)); exact HO177.out) hb); have n1_ := Aside0.mk (blk_below (g := gb173) (o := .cells #[.int .u64 a0_0, .int .u64 a0_1, .int .u64 a0_2, .string a0_3, .string a0_4] 24 (0, 0)) (by (with_reducible repeat (first | refine blk_drewN ?_ _ | refine blk_drew ?_ | refine blk_alloc ?_ _)); exact BK173.out) hb); have n2_ := Aside0.mk (below_step (by repeat (first | (with_reducible first | exact HB.out | apply below_alloc | apply pw_below_drewN | apply below_drew1 | refine below_set ?_ GE173.out) | exact HB.out)) hb); clear HO177; clear BK173; clear HB; have HO177 := n0_; have BK173 := n1_; have HB := n2_; clear n0_ n1_ n2_; (try clear hb); (try clear hb2); (try clear hk); (try clear hi)))
        go_meet
        case rel => exact ⟨_, (true), (by first | rfl | (simp; done) | (simp [*]; done) | (simp [nil_bne]; done)), H', ⟨by have := HJ2.out; first | omega | exact Nat.le_refl _⟩, ⟨by (with_reducible repeat (first | refine blk_drewN ?_ _ | refine blk_drew ?_ | refine blk_alloc ?_ _)); exact BK173.out⟩, ⟨by repeat (first | (with_reducible first | exact HB.out | apply below_alloc | apply pw_below_drewN | apply below_drew1 | refine below_set ?_ GE173.out) | exact HB.out)⟩⟩
       ·rw [if_neg c17] at H
        have c17b0 : decide (64 < (l1.length : Int)) = false := decide_eq_false c17
        have c17b1 : decide (64 < l1.length) = false := decide_eq_false (by omega)
        clear c17
        (first | rw [c17b0] | (simp only [i64_w, i32_w]; rw [c17b0]) | rw [c17b1] | skip)
        have H' := Aside0.mk H
        clear H
        have hcz25_0 : wc.cell? ⟨gb173, 0, none⟩ = some (.int .u64 a0_0) := (blk_cell BK173.out 0).trans rfl
        have hcz25_1 : wc.cell? ⟨gb173, 1, none⟩ = some (.int .u64 a0_1) := (blk_cell BK173.out 1).trans rfl
        have hcz25_2 : wc.cell? ⟨gb173, 2, none⟩ = some (.int .u64 a0_2) := (blk_cell BK173.out 2).trans rfl
        have hcz25_3 : wc.cell? ⟨gb173, 3, none⟩ = some (.string a0_3) := (blk_cell BK173.out 3).trans rfl
        have hcz25_4 : wc.cell? ⟨gb173, 4, none⟩ = some (.string a0_4) := (blk_cell BK173.out 4).trans rfl
        have hfz25_0 := blk_frozen BK173.out 0
        have hfz25_1 := blk_frozen BK173.out 1
        have hfz25_2 := blk_frozen BK173.out 2
        have hfz25_3 := blk_frozen BK173.out 3
        have hfz25_4 := blk_frozen BK173.out 4
        go_wp2_with (first | ((with_reducible refine gate_dst (N := 19) rfl ?_); (try (refine gate_guard (by rfl) ?_; dsimp only)); refine Kd.R_lit k24 _ 24 ?hg (N := 19) ?hd (xs := ([(⟨a0_0, a0_1, a0_2, a0_3, a0_4⟩ : S24)] : List (S24))) (inner := [.int .u64 a0_0, .int .u64 a0_1, .int .u64 a0_2, .string a0_3, .string a0_4]) (ok := fun _ => True) (okp := fun _ => True) ?hr ?hp (fun _ hk => hk) trivial (Below.refl _ _) (Nat.le_refl _) (by simp) ?_; (case hd => rfl); (case hg => rfl); (case hr => first | (go_simp; done) | (go_simp; rfl)); (case hp => exact (Reps.c5 (show Kd.M k24 _ _ _ (⟨a0_0, a0_1, a0_2, a0_3, a0_4⟩ : S24) [.int .u64 a0_0, .int .u64 a0_1, .int .u64 a0_2, .string a0_3, .string a0_4] from (k24_mkM _ _ _ (⟨a0_0, a0_1, a0_2, a0_3, a0_4⟩ : S24) )) (Reps.none _ _))); intro v176 w26 ho27 hb hg_ hnew_; clear hg_ hnew_; (first | rw [← Ny175.out] at ho27 | (simp only [Int.reduceToNat] at ho27; rw [← Ny175.out] at ho27)); have n0_ := Aside0.mk (Kd.R_lower (Kd.R_newB ho27 (g := gb173) (o := .cells #[.int .u64 a0_0, .int .u64 a0_1, .int .u64 a0_2, .string a0_3, .string a0_4] 24 (0, 0)) (by (with_reducible repeat (first | refine blk_drewN ?_ _ | refine blk_drew ?_ | refine blk_alloc ?_ _)); exact BK173.out)) (below_size (by repeat (first | (with_reducible first | exact HB.out | apply below_alloc | apply pw_below_drewN | apply below_drew1 | refine below_set ?_ GE173.out) | exact HB.out)))); have n1_ := Aside0.mk (blk_below (g := gb173) (o := .cells #[.int .u64 a0_0, .int .u64 a0_1, .int .u64 a0_2, .string a0_3, .string a0_4] 24 (0, 0)) (by (with_reducible repeat (first | refine blk_drewN ?_ _ | refine blk_drew ?_ | refine blk_alloc ?_ _)); exact BK173.out) hb); have n2_ := Aside0.mk (below_step (by repeat (first | (with_reducible first | exact HB.out | apply below_alloc | apply pw_below_drewN | apply below_drew1 | refine below_set ?_ GE173.out) | exact HB.out)) hb); clear BK173; clear HB; have HO177 := n0_; have BK173 := n1_; have HB := n2_; clear n0_ n1_ n2_; clear hb ho27; obtain ⟨Ao28, co28, eo28⟩ := Kd.R_slice HO177.out; subst eo28) | ((with_reducible refine only_callee (f := 18) rfl ?_); refine goesL_ (some 20) rfl rfl Tryd.func18 (by kernel_rfl) rfl #[.slice Ao28 y175.length co28] rfl (by (try simp only [List.map_toArray, List.map_cons, List.map_nil]); first | done | rfl | (simp only [List.length_drop, List.length_take]; rfl)) ?_; (with_reducible refine (laws_svGood.calls kj2 _ _ y175 true _ ?side1 ?side2 A13.out).mono ?_); (case side1 => repeat (first | exact (Kd.R_reads' HO177.out).2.2 | (with_reducible refine Kd.C_alloc ?_ _) | (with_reducible refine Kd.C_drewN ?_ _) | (with_reducible refine Kd.C_drew ?_))); (case side2 => exact (Kd.R_reads' HO177.out).2.1); rintro e w29 ⟨rfl, hb⟩; refine ⟨_, rfl, ?_⟩; have n0_ := Aside0.mk (Kd.R_below (by (with_reducible repeat (first | apply Kd.R_alloc | apply Kd.R_drewN | apply Kd.R_drew)); exact HO177.out) hb); have n1_ := Aside0.mk (blk_below (g := gb173) (o := .cells #[.int .u64 a0_0, .int .u64 a0_1, .int .u64 a0_2, .string a0_3, .string a0_4] 24 (0, 0)) (by (with_reducible repeat (first | refine blk_drewN ?_ _ | refine blk_drew ?_ | refine blk_alloc ?_ _)); exact BK173.out) hb); have n2_ := Aside0.mk (below_step (by repeat (first | (with_reducible first | exact HB.out | apply below_alloc | apply pw_below_drewN | apply below_drew1 | refine below_set ?_ GE173.out) | exact HB.out)) hb); clear HO177; clear BK173; clear HB; have HO177 := n0_; have BK173 := n1_; have HB := n2_; clear n0_ n1_ n2_; (try clear hb); (try clear hb2); (try clear hk); (try clear hi); have hcz30_0 : w29.cell? ⟨gb173, 0, none⟩ = some (.int .u64 a0_0) := (blk_cell BK173.out 0).trans rfl; have hcz30_1 : w29.cell? ⟨gb173, 1, none⟩ = some (.int .u64 a0_1) := (blk_cell BK173.out 1).trans rfl; have hcz30_2 : w29.cell? ⟨gb173, 2, none⟩ = some (.int .u64 a0_2) := (blk_cell BK173.out 2).trans rfl; have hcz30_3 : w29.cell? ⟨gb173, 3, none⟩ = some (.string a0_3) := (blk_cell BK173.out 3).trans rfl; have hcz30_4 : w29.cell? ⟨gb173, 4, none⟩ = some (.string a0_4) := (blk_cell BK173.out 4).trans rfl; have hfz30_0 := blk_frozen BK173.out 0; have hfz30_1 := blk_frozen BK173.out 1; have hfz30_2 := blk_frozen BK173.out 2; have hfz30_3 := blk_frozen BK173.out 3; have hfz30_4 := blk_frozen BK173.out 4) | (go_at_call 19; (with_reducible refine (spec_Plain.calls kj2 a0_0 a0_1 a0_2 a0_3 a0_4 true _ A15.out).mono ?_); rintro e w31 ⟨rfl, hb⟩; have n0_ := Aside0.mk (Kd.R_below (by (with_reducible repeat (first | apply Kd.R_alloc | apply Kd.R_drewN | apply Kd.R_drew)); exact HO177.out) hb); have n1_ := Aside0.mk (blk_below (g := gb173) (o := .cells #[.int .u64 a0_0, .int .u64 a0_1, .int .u64 a0_2, .string a0_3, .string a0_4] 24 (0, 0)) (by (with_reducible repeat (first | refine blk_drewN ?_ _ | refine blk_drew ?_ | refine blk_alloc ?_ _)); exact BK173.out) hb); have n2_ := Aside0.mk (below_step (by repeat (first | (with_reducible first | exact HB.out | apply below_alloc | apply pw_below_drewN | apply below_drew1 | refine below_set ?_ GE173.out) | exact HB.out)) hb); clear HO177; clear BK173; clear HB; have HO177 := n0_; have BK173 := n1_; have HB := n2_; clear n0_ n1_ n2_; (try clear hb); (try clear hb2); (try clear hk); (try clear hi); have hcz32_0 : w31.cell? ⟨gb173, 0, none⟩ = some (.int .u64 a0_0) := (blk_cell BK173.out 0).trans rfl; have hcz32_1 : w31.cell? ⟨gb173, 1, none⟩ = some (.int .u64 a0_1) := (blk_cell BK173.out 1).trans rfl; have hcz32_2 : w31.cell? ⟨gb173, 2, none⟩ = some (.int .u64 a0_2) := (blk_cell BK173.out 2).trans rfl; have hcz32_3 : w31.cell? ⟨gb173, 3, none⟩ = some (.string a0_3) := (blk_cell BK173.out 3).trans rfl; have hcz32_4 : w31.cell? ⟨gb173, 4, none⟩ = some (.string a0_4) := (blk_cell BK173.out 4).trans rfl; have hfz32_0 := blk_frozen BK173.out 0; have hfz32_1 := blk_frozen BK173.out 1; have hfz32_2 := blk_frozen BK173.out 2; have hfz32_3 := blk_frozen BK173.out 3; have hfz32_4 := blk_frozen BK173.out 4))
        go_meet
        case rel => exact ⟨_, (((IntKind.u64.wrap ((IntKind.u64.wrap ((a0_0 / 9223372036854775808) + (a0_1 / 9223372036854775808))) + (a0_2 / 9223372036854775808))) != 0)), (by first | rfl | (simp; done) | (simp [*]; done) | (simp [nil_bne]; done)), H', ⟨by have := HJ2.out; first | omega | exact Nat.le_refl _⟩, ⟨by (with_reducible repeat (first | refine blk_drewN ?_ _ | refine blk_drew ?_ | refine blk_alloc ?_ _)); exact BK173.out⟩, ⟨by repeat (first | (with_reducible first | exact HB.out | apply below_alloc | apply pw_below_drewN | apply below_drew1 | refine below_set ?_ GE173.out) | exact HB.out)⟩⟩
      ·replace c16 := Bool.eq_false_iff.mpr c16
       subst c16
       have H1 : (laws_FnSemverIncRun.j1 kj2 l1 true a0_0 a0_1 a0_2 a0_3 a0_4) = some r := by rw [if_neg (show ¬ (false = true) by decide)] at H; exact H
       clear H
       have H := H1
       clear H1
       have H' := Aside0.mk H
       clear H
       have hcz33_0 : wc.cell? ⟨gb173, 0, none⟩ = some (.int .u64 a0_0) := (blk_cell BK173.out 0).trans rfl
       have hcz33_1 : wc.cell? ⟨gb173, 1, none⟩ = some (.int .u64 a0_1) := (blk_cell BK173.out 1).trans rfl
       have hcz33_2 : wc.cell? ⟨gb173, 2, none⟩ = some (.int .u64 a0_2) := (blk_cell BK173.out 2).trans rfl
       have hcz33_3 : wc.cell? ⟨gb173, 3, none⟩ = some (.string a0_3) := (blk_cell BK173.out 3).trans rfl
       have hcz33_4 : wc.cell? ⟨gb173, 4, none⟩ = some (.string a0_4) := (blk_cell BK173.out 4).trans rfl
       have hfz33_0 := blk_frozen BK173.out 0
       have hfz33_1 := blk_frozen BK173.out 1
       have hfz33_2 := blk_frozen BK173.out 2
       have hfz33_3 := blk_frozen BK173.out 3
       have hfz33_4 := blk_frozen BK173.out 4
       go_wp2_with (first | ((with_reducible refine gate_dst (N := 19) rfl ?_); (try (refine gate_guard (by rfl) ?_; dsimp only)); refine Kd.R_lit k24 _ 24 ?hg (N := 19) ?hd (xs := ([(⟨a0_0, a0_1, a0_2, a0_3, a0_4⟩ : S24)] : List (S24))) (inner := [.int .u64 a0_0, .int .u64 a0_1, .int .u64 a0_2, .string a0_3, .string a0_4]) (ok := fun _ => True) (okp := fun _ => True) ?hr ?hp (fun _ hk => hk) trivial (Below.refl _ _) (Nat.le_refl _) (by simp) ?_; (case hd => rfl); (case hg => rfl); (case hr => first | (go_simp; done) | (go_simp; rfl)); (case hp => exact (Reps.c5 (show Kd.M k24 _ _ _ (⟨a0_0, a0_1, a0_2, a0_3, a0_4⟩ : S24) [.int .u64 a0_0, .int .u64 a0_1, .int .u64 a0_2, .string a0_3, .string a0_4] from (k24_mkM _ _ _ (⟨a0_0, a0_1, a0_2, a0_3, a0_4⟩ : S24) )) (Reps.none _ _))); intro v176 w34 ho35 hb hg_ hnew_; clear hg_ hnew_; (first | rw [← Ny175.out] at ho35 | (simp only [Int.reduceToNat] at ho35; rw [← Ny175.out] at ho35)); have n0_ := Aside0.mk (Kd.R_lower (Kd.R_newB ho35 (g := gb173) (o := .cells #[.int .u64 a0_0, .int .u64 a0_1, .int .u64 a0_2, .string a0_3, .string a0_4] 24 (0, 0)) (by (with_reducible repeat (first | refine blk_drewN ?_ _ | refine blk_drew ?_ | refine blk_alloc ?_ _)); exact BK173.out)) (below_size (by repeat (first | (with_reducible first | exact HB.out | apply below_alloc | apply pw_below_drewN | apply below_drew1 | refine below_set ?_ GE173.out) | exact HB.out)))); have n1_ := Aside0.mk (blk_below (g := gb173) (o := .cells #[.int .u64 a0_0, .int .u64 a0_1, .int .u64 a0_2, .string a0_3, .string a0_4] 24 (0, 0)) (by (with_reducible repeat (first | refine blk_drewN ?_ _ | refine blk_drew ?_ | refine blk_alloc ?_ _)); exact BK173.out) hb); have n2_ := Aside0.mk (below_step (by repeat (first | (with_reducible first | exact HB.out | apply below_alloc | apply pw_below_drewN | apply below_drew1 | refine below_set ?_ GE173.out) | exact HB.out)) hb); clear BK173; clear HB; have HO177 := n0_; have BK173 := n1_; have HB := n2_; clear n0_ n1_ n2_; clear hb ho35; obtain ⟨Ao36, co36, eo36⟩ := Kd.R_slice HO177.out; subst eo36) | ((with_reducible refine only_callee (f := 18) rfl ?_); refine goesL_ (some 20) rfl rfl Tryd.func18 (by kernel_rfl) rfl #[.slice Ao36 y175.length co36] rfl (by (try simp only [List.map_toArray, List.map_cons, List.map_nil]); first | done | rfl | (simp only [List.length_drop, List.length_take]; rfl)) ?_; (with_reducible refine (laws_svGood.calls kj2 _ _ y175 true _ ?side1 ?side2 A13.out).mono ?_); (case side1 => repeat (first | exact (Kd.R_reads' HO177.out).2.2 | (with_reducible refine Kd.C_alloc ?_ _) | (with_reducible refine Kd.C_drewN ?_ _) | (with_reducible refine Kd.C_drew ?_))); (case side2 => exact (Kd.R_reads' HO177.out).2.1); rintro e w37 ⟨rfl, hb⟩; refine ⟨_, rfl, ?_⟩; have n0_ := Aside0.mk (Kd.R_below (by (with_reducible repeat (first | apply Kd.R_alloc | apply Kd.R_drewN | apply Kd.R_drew)); exact HO177.out) hb); have n1_ := Aside0.mk (blk_below (g := gb173) (o := .cells #[.int .u64 a0_0, .int .u64 a0_1, .int .u64 a0_2, .string a0_3, .string a0_4] 24 (0, 0)) (by (with_reducible repeat (first | refine blk_drewN ?_ _ | refine blk_drew ?_ | refine blk_alloc ?_ _)); exact BK173.out) hb); have n2_ := Aside0.mk (below_step (by repeat (first | (with_reducible first | exact HB.out | apply below_alloc | apply pw_below_drewN | apply below_drew1 | refine below_set ?_ GE173.out) | exact HB.out)) hb); clear HO177; clear BK173; clear HB; have HO177 := n0_; have BK173 := n1_; have HB := n2_; clear n0_ n1_ n2_; (try clear hb); (try clear hb2); (try clear hk); (try clear hi); have hcz38_0 : w37.cell? ⟨gb173, 0, none⟩ = some (.int .u64 a0_0) := (blk_cell BK173.out 0).trans rfl; have hcz38_1 : w37.cell? ⟨gb173, 1, none⟩ = some (.int .u64 a0_1) := (blk_cell BK173.out 1).trans rfl; have hcz38_2 : w37.cell? ⟨gb173, 2, none⟩ = some (.int .u64 a0_2) := (blk_cell BK173.out 2).trans rfl; have hcz38_3 : w37.cell? ⟨gb173, 3, none⟩ = some (.string a0_3) := (blk_cell BK173.out 3).trans rfl; have hcz38_4 : w37.cell? ⟨gb173, 4, none⟩ = some (.string a0_4) := (blk_cell BK173.out 4).trans rfl; have hfz38_0 := blk_frozen BK173.out 0; have hfz38_1 := blk_frozen BK173.out 1; have hfz38_2 := blk_frozen BK173.out 2; have hfz38_3 := blk_frozen BK173.out 3; have hfz38_4 := blk_frozen BK173.out 4) | (go_at_call 19; (with_reducible refine (spec_Plain.calls kj2 a0_0 a0_1 a0_2 a0_3 a0_4 false _ A15.out).mono ?_); rintro e w39 ⟨rfl, hb⟩; have n0_ := Aside0.mk (Kd.R_below (by (with_reducible repeat (first | apply Kd.R_alloc | apply Kd.R_drewN | apply Kd.R_drew)); exact HO177.out) hb); have n1_ := Aside0.mk (blk_below (g := gb173) (o := .cells #[.int .u64 a0_0, .int .u64 a0_1, .int .u64 a0_2, .string a0_3, .string a0_4] 24 (0, 0)) (by (with_reducible repeat (first | refine blk_drewN ?_ _ | refine blk_drew ?_ | refine blk_alloc ?_ _)); exact BK173.out) hb); have n2_ := Aside0.mk (below_step (by repeat (first | (with_reducible first | exact HB.out | apply below_alloc | apply pw_below_drewN | apply below_drew1 | refine below_set ?_ GE173.out) | exact HB.out)) hb); clear HO177; clear BK173; clear HB; have HO177 := n0_; have BK173 := n1_; have HB := n2_; clear n0_ n1_ n2_; (try clear hb); (try clear hb2); (try clear hk); (try clear hi)))
       go_meet
       case rel => exact ⟨_, (true), (by first | rfl | (simp; done) | (simp [*]; done) | (simp [nil_bne]; done)), H', ⟨by have := HJ2.out; first | omega | exact Nat.le_refl _⟩, ⟨by (with_reducible repeat (first | refine blk_drewN ?_ _ | refine blk_drew ?_ | refine blk_alloc ?_ _)); exact BK173.out⟩, ⟨by repeat (first | (with_reducible first | exact HB.out | apply below_alloc | apply pw_below_drewN | apply below_drew1 | refine below_set ?_ GE173.out) | exact HB.out)⟩⟩
     ·replace c14 := Bool.eq_false_iff.mpr c14
      subst c14
      have H1 : (laws_FnSemverIncRun.j1 kj2 l1 true a0_0 a0_1 a0_2 a0_3 a0_4) = some r := by rw [if_neg (show ¬ (false = true) by decide)] at H; exact H
      clear H
      have H := H1
      clear H1
      have H' := Aside0.mk H
      clear H
      have hcz40_0 : wc.cell? ⟨gb173, 0, none⟩ = some (.int .u64 a0_0) := (blk_cell BK173.out 0).trans rfl
      have hcz40_1 : wc.cell? ⟨gb173, 1, none⟩ = some (.int .u64 a0_1) := (blk_cell BK173.out 1).trans rfl
      have hcz40_2 : wc.cell? ⟨gb173, 2, none⟩ = some (.int .u64 a0_2) := (blk_cell BK173.out 2).trans rfl
      have hcz40_3 : wc.cell? ⟨gb173, 3, none⟩ = some (.string a0_3) := (blk_cell BK173.out 3).trans rfl
      have hcz40_4 : wc.cell? ⟨gb173, 4, none⟩ = some (.string a0_4) := (blk_cell BK173.out 4).trans rfl
      have hfz40_0 := blk_frozen BK173.out 0
      have hfz40_1 := blk_frozen BK173.out 1
      have hfz40_2 := blk_frozen BK173.out 2
      have hfz40_3 := blk_frozen BK173.out 3
      have hfz40_4 := blk_frozen BK173.out 4
      go_wp2_with (first | ((with_reducible refine gate_dst (N := 19) rfl ?_); (try (refine gate_guard (by rfl) ?_; dsimp only)); refine Kd.R_lit k24 _ 24 ?hg (N := 19) ?hd (xs := ([(⟨a0_0, a0_1, a0_2, a0_3, a0_4⟩ : S24)] : List (S24))) (inner := [.int .u64 a0_0, .int .u64 a0_1, .int .u64 a0_2, .string a0_3, .string a0_4]) (ok := fun _ => True) (okp := fun _ => True) ?hr ?hp (fun _ hk => hk) trivial (Below.refl _ _) (Nat.le_refl _) (by simp) ?_; (case hd => rfl); (case hg => rfl); (case hr => first | (go_simp; done) | (go_simp; rfl)); (case hp => exact (Reps.c5 (show Kd.M k24 _ _ _ (⟨a0_0, a0_1, a0_2, a0_3, a0_4⟩ : S24) [.int .u64 a0_0, .int .u64 a0_1, .int .u64 a0_2, .string a0_3, .string a0_4] from (k24_mkM _ _ _ (⟨a0_0, a0_1, a0_2, a0_3, a0_4⟩ : S24) )) (Reps.none _ _))); intro v176 w41 ho42 hb hg_ hnew_; clear hg_ hnew_; (first | rw [← Ny175.out] at ho42 | (simp only [Int.reduceToNat] at ho42; rw [← Ny175.out] at ho42)); have n0_ := Aside0.mk (Kd.R_lower (Kd.R_newB ho42 (g := gb173) (o := .cells #[.int .u64 a0_0, .int .u64 a0_1, .int .u64 a0_2, .string a0_3, .string a0_4] 24 (0, 0)) (by (with_reducible repeat (first | refine blk_drewN ?_ _ | refine blk_drew ?_ | refine blk_alloc ?_ _)); exact BK173.out)) (below_size (by repeat (first | (with_reducible first | exact HB.out | apply below_alloc | apply pw_below_drewN | apply below_drew1 | refine below_set ?_ GE173.out) | exact HB.out)))); have n1_ := Aside0.mk (blk_below (g := gb173) (o := .cells #[.int .u64 a0_0, .int .u64 a0_1, .int .u64 a0_2, .string a0_3, .string a0_4] 24 (0, 0)) (by (with_reducible repeat (first | refine blk_drewN ?_ _ | refine blk_drew ?_ | refine blk_alloc ?_ _)); exact BK173.out) hb); have n2_ := Aside0.mk (below_step (by repeat (first | (with_reducible first | exact HB.out | apply below_alloc | apply pw_below_drewN | apply below_drew1 | refine below_set ?_ GE173.out) | exact HB.out)) hb); clear BK173; clear HB; have HO177 := n0_; have BK173 := n1_; have HB := n2_; clear n0_ n1_ n2_; clear hb ho42; obtain ⟨Ao43, co43, eo43⟩ := Kd.R_slice HO177.out; subst eo43) | ((with_reducible refine only_callee (f := 18) rfl ?_); refine goesL_ (some 20) rfl rfl Tryd.func18 (by kernel_rfl) rfl #[.slice Ao43 y175.length co43] rfl (by (try simp only [List.map_toArray, List.map_cons, List.map_nil]); first | done | rfl | (simp only [List.length_drop, List.length_take]; rfl)) ?_; (with_reducible refine (laws_svGood.calls kj2 _ _ y175 false _ ?side1 ?side2 A13.out).mono ?_); (case side1 => repeat (first | exact (Kd.R_reads' HO177.out).2.2 | (with_reducible refine Kd.C_alloc ?_ _) | (with_reducible refine Kd.C_drewN ?_ _) | (with_reducible refine Kd.C_drew ?_))); (case side2 => exact (Kd.R_reads' HO177.out).2.1); rintro e w44 ⟨rfl, hb⟩; refine ⟨_, rfl, ?_⟩; have n0_ := Aside0.mk (Kd.R_below (by (with_reducible repeat (first | apply Kd.R_alloc | apply Kd.R_drewN | apply Kd.R_drew)); exact HO177.out) hb); have n1_ := Aside0.mk (blk_below (g := gb173) (o := .cells #[.int .u64 a0_0, .int .u64 a0_1, .int .u64 a0_2, .string a0_3, .string a0_4] 24 (0, 0)) (by (with_reducible repeat (first | refine blk_drewN ?_ _ | refine blk_drew ?_ | refine blk_alloc ?_ _)); exact BK173.out) hb); have n2_ := Aside0.mk (below_step (by repeat (first | (with_reducible first | exact HB.out | apply below_alloc | apply pw_below_drewN | apply below_drew1 | refine below_set ?_ GE173.out) | exact HB.out)) hb); clear HO177; clear BK173; clear HB; have HO177 := n0_; have BK173 := n1_; have HB := n2_; clear n0_ n1_ n2_; (try clear hb); (try clear hb2); (try clear hk); (try clear hi)))
      go_meet
      case rel => exact ⟨_, (true), (by first | rfl | (simp; done) | (simp [*]; done) | (simp [nil_bne]; done)), H', ⟨by have := HJ2.out; first | omega | exact Nat.le_refl _⟩, ⟨by (with_reducible repeat (first | refine blk_drewN ?_ _ | refine blk_drew ?_ | refine blk_alloc ?_ _)); exact BK173.out⟩, ⟨by repeat (first | (with_reducible first | exact HB.out | apply below_alloc | apply pw_below_drewN | apply below_drew1 | refine below_set ?_ GE173.out) | exact HB.out)⟩⟩
    case rest =>
     clear HC12
     try clear c1
     try clear p2
     try clear c5
     try clear c6
     try clear c9
     try clear c11
     try clear c14
     try clear c16
     try clear c17
     try clear c17b0
     try clear c17b1
     try clear c18
     try clear hcz18_0
     try clear hcz18_1
     try clear hcz18_2
     try clear hcz18_3
     try clear hcz18_4
     try clear hcz23_0
     try clear hcz23_1
     try clear hcz23_2
     try clear hcz23_3
     try clear hcz23_4
     try clear hcz25_0
     try clear hcz25_1
     try clear hcz25_2
     try clear hcz25_3
     try clear hcz25_4
     try clear hcz30_0
     try clear hcz30_1
     try clear hcz30_2
     try clear hcz30_3
     try clear hcz30_4
     try clear hcz32_0
     try clear hcz32_1
     try clear hcz32_2
     try clear hcz32_3
     try clear hcz32_4
     try clear hcz33_0
     try clear hcz33_1
     try clear hcz33_2
     try clear hcz33_3
     try clear hcz33_4
     try clear hcz38_0
     try clear hcz38_1
     try clear hcz38_2
     try clear hcz38_3
     try clear hcz38_4
     try clear hcz40_0
     try clear hcz40_1
     try clear hcz40_2
     try clear hcz40_3
     try clear hcz40_4
     try clear hcz7_0
     try clear hcz7_1
     try clear hcz7_2
     try clear hcz7_3
     try clear hcz7_4
     try clear hcz9_0
     try clear hcz9_1
     try clear hcz9_2
     try clear hcz9_3
     try clear hcz9_4
     try clear hfz18_0
     try clear hfz18_1
     try clear hfz18_2
     try clear hfz18_3
     try clear hfz18_4
     try clear hfz23_0
     try clear hfz23_1
     try clear hfz23_2
     try clear hfz23_3
     try clear hfz23_4
     try clear hfz25_0
     try clear hfz25_1
     try clear hfz25_2
     try clear hfz25_3
     try clear hfz25_4
     try clear hfz30_0
     try clear hfz30_1
     try clear hfz30_2
     try clear hfz30_3
     try clear hfz30_4
     try clear hfz32_0
     try clear hfz32_1
     try clear hfz32_2
     try clear hfz32_3
     try clear hfz32_4
     try clear hfz33_0
     try clear hfz33_1
     try clear hfz33_2
     try clear hfz33_3
     try clear hfz33_4
     try clear hfz38_0
     try clear hfz38_1
     try clear hfz38_2
     try clear hfz38_3
     try clear hfz38_4
     try clear hfz40_0
     try clear hfz40_1
     try clear hfz40_2
     try clear hfz40_3
     try clear hfz40_4
     try clear hfz7_0
     try clear hfz7_1
     try clear hfz7_2
     try clear hfz7_3
     try clear hfz7_4
     try clear hfz9_0
     try clear hfz9_1
     try clear hfz9_2
     try clear hfz9_3
     try clear hfz9_4
     try clear p2
     obtain ⟨kq, x45_11, rfl, HA, HJ11, BK173, HB⟩ := hcut
     cases kq with
     | zero => exact absurd HA.out (by simp [laws_FnSemverIncRun.j1])
     | succ kj11 =>
      have H := HA.out
      clear HA
      simp only [laws_FnSemverIncRun.j1] at H
      by_cases c45 : x45_11 = true
      ·subst c45
       have H1 : (some true) = some r := by rw [if_pos rfl] at H; exact H
       clear H
       have H := H1
       clear H1
       obtain rfl := Option.some.inj H
       go_wp2
       go_ret
       exact ⟨by first | rfl | (simp [errW_none, errW_some] <;> rfl) | (simp [*, errW_none, errW_some] <;> rfl), by repeat (first | (with_reducible first | exact HB.out | apply below_alloc | apply pw_below_drewN | apply below_drew1 | refine below_set ?_ GE173.out) | exact HB.out)⟩
      ·replace c45 := Bool.eq_false_iff.mpr c45
       subst c45
       have H1 : ((laws_svRun.f kj11 a0_0 a0_1 a0_2 a0_3 a0_4 l1).bind fun t180 => ((spec_Bare.f a0_0 a0_1 a0_2 a0_3 a0_4).bind fun bt183 => (laws_FnSemverIncRun.l0 kj11 t180 (a0_3.toList != ([] : List UInt8)) l1 (l1.length : Int) 0 bt183.1 bt183.2.1 bt183.2.2.1 bt183.2.2.2.1 bt183.2.2.2.2))) = some r := by rw [if_neg (show ¬ (false = true) by decide)] at H; exact H
       clear H
       have H := H1
       clear H1
       replace H := Option.bind_eq_some_iff.mp H
       obtain ⟨t180, A460, H⟩ := H
       replace H : ((spec_Bare.f a0_0 a0_1 a0_2 a0_3 a0_4).bind fun bt183 => (laws_FnSemverIncRun.l0 kj11 t180 (a0_3.toList != ([] : List UInt8)) l1 (l1.length : Int) 0 bt183.1 bt183.2.1 bt183.2.2.1 bt183.2.2.2.1 bt183.2.2.2.2)) = some r := H
       have A46 := Aside0.mk A460
       clear A460
       replace H := Option.bind_eq_some_iff.mp H
       obtain ⟨⟨t183, t184, t185, t186, t187⟩, A470, H⟩ := H
       replace H : (laws_FnSemverIncRun.l0 kj11 t180 (a0_3.toList != ([] : List UInt8)) l1 (l1.length : Int) 0 t183 t184 t185 t186 t187) = some r := H
       have A47 := Aside0.mk A470
       clear A470
       have H' := Aside0.mk H
       clear H
       try go_wp2
       have n0_ := Aside0.mk (blk_drew BK173.out)
       have n1_ := Aside0.mk (below_drew1 HB.out)
       clear BK173
       clear HB
       have BK173 := n0_
       have HB := n1_
       clear n0_ n1_
       refine start_ (n := 12) (S := fun w' => w'.cell? ⟨gb173, 0, none⟩ = some (.int .u64 a0_0) ∧ w'.cell? ⟨gb173, 1, none⟩ = some (.int .u64 a0_1) ∧ w'.cell? ⟨gb173, 2, none⟩ = some (.int .u64 a0_2) ∧ w'.cell? ⟨gb173, 3, none⟩ = some (.string a0_3) ∧ w'.cell? ⟨gb173, 4, none⟩ = some (.string a0_4)) (ds := []) #[false, false, false, false, false, false, false, false, false, false, false, false] (by kernel_rfl) rfl rfl ⟨(blk_cell BK173.out 0).trans rfl, (blk_cell BK173.out 1).trans rfl, (blk_cell BK173.out 2).trans rfl, (blk_cell BK173.out 3).trans rfl, (blk_cell BK173.out 4).trans rfl⟩ (fun hHeld => ?_); refine with_tabW laws_FnSemverIncRun.tab5 laws_FnSemverIncRun.bits5 (fun HT_ HW_ => ?_)
       generalize wc.drew = w48 at BK173 HB hHeld ⊢
       refine pure_ (i := 1) (N := some 47) (v := ?_) (a' := ?_) #[false, true, false, false, false, false, false, false, false, false, false, false] rfl rfl (any_of HT_.out (by kernel_rfl)) (fun _ _ _ h => h) (Or.inl ⟨by rfl, ?_⟩) ?_ ?_
       rotate_left
       ·intro w'
        go_simp
        with_reducible rfl
       rotate_left
       ·simp only [Act.put, List.setIfInBounds_toArray, List.set_cons_zero, List.set_cons_succ, i64_w, i32_w]
        rfl
       refine pure_ (i := 5) (N := some 51) (v := ?_) (a' := ?_) #[false, true, false, false, false, true, false, false, false, false, false, false] rfl rfl (any_of HT_.out (by kernel_rfl)) (fun _ _ _ h => h) (Or.inl ⟨by rfl, ?_⟩) ?_ ?_
       rotate_left
       ·intro w'
        go_simp
        with_reducible rfl
       rotate_left
       ·simp only [Act.put, List.setIfInBounds_toArray, List.set_cons_zero, List.set_cons_succ, i64_w, i32_w]
        rfl
       refine take_ (i := 0) (N := some 46) (v := ?_) (a' := ?_) #[true, true, false, false, false, true, false, false, false, false, false, false] rfl rfl (take_ofW HT_.out HW_.out (by kernel_rfl)) (fun _ _ _ h => h) (Or.inl ⟨by rfl, ?_⟩) hHeld ?_ ?_
       rotate_left
       ·rintro w' ⟨s0, s1, s2, s3, s4⟩
        go_simp
        with_reducible rfl
       rotate_left
       ·simp only [Act.put, List.setIfInBounds_toArray, List.set_cons_zero, List.set_cons_succ, i64_w, i32_w]
        rfl
       refine take_ (i := 3) (N := some 49) (v := ?_) (a' := ?_) #[true, true, false, true, false, true, false, false, false, false, false, false] rfl rfl (take_ofW HT_.out HW_.out (by kernel_rfl)) (fun _ _ _ h => h) (Or.inl ⟨by rfl, ?_⟩) hHeld ?_ ?_
       rotate_left
       ·rintro w' ⟨s0, s1, s2, s3, s4⟩
        go_simp
        with_reducible rfl
       rotate_left
       ·simp only [Act.put, List.setIfInBounds_toArray, List.set_cons_zero, List.set_cons_succ, i64_w, i32_w]
        rfl
       refine take_ (i := 6) (N := some 52) (v := ?_) (a' := ?_) #[true, true, false, true, false, true, true, false, false, false, false, false] rfl rfl (take_ofW HT_.out HW_.out (by kernel_rfl)) (fun _ _ _ h => h) (Or.inl ⟨by rfl, ?_⟩) hHeld ?_ ?_
       rotate_left
       ·rintro w' ⟨s0, s1, s2, s3, s4⟩
        go_simp
        with_reducible rfl
       rotate_left
       ·simp only [Act.put, List.setIfInBounds_toArray, List.set_cons_zero, List.set_cons_succ, i64_w, i32_w]
        rfl
       refine pure_ (i := 7) (N := some 53) (v := ?_) (a' := ?_) #[true, true, false, true, false, true, true, true, false, false, false, false] rfl rfl (any_of HT_.out (by kernel_rfl)) (fun _ _ _ h => h) (Or.inl ⟨by rfl, ?_⟩) ?_ ?_
       rotate_left
       ·intro w'
        go_simp
        with_reducible rfl
       rotate_left
       ·simp only [Act.put, List.setIfInBounds_toArray, List.set_cons_zero, List.set_cons_succ, i64_w, i32_w]
        rfl
       refine join_ (σ := Value × Nat) 3 #[true, true, true, true, true, true, true, true, true, false, false, false] (fun s_ => [(48, s_.1), (50, .agg #[.int .u64 t183, .int .u64 t184, .int .u64 t185, .string t186, .string t187]), (6, .pointer (some ⟨s_.2, 0, none⟩))]) (fun s_ w' => (w'.cell? ⟨gb173, 0, none⟩ = some (.int .u64 a0_0) ∧ w'.cell? ⟨gb173, 1, none⟩ = some (.int .u64 a0_1) ∧ w'.cell? ⟨gb173, 2, none⟩ = some (.int .u64 a0_2) ∧ w'.cell? ⟨gb173, 3, none⟩ = some (.string a0_3) ∧ w'.cell? ⟨gb173, 4, none⟩ = some (.string a0_4)) ∧ (Kd.R k24 24 w' w.heap.size (fun k_ => k_ ≠ gb173 ∧ k_ ≠ s_.2) s_.1 t180) ∧ (w'.heap[gb173]? = some (.cells #[.int .u64 a0_0, .int .u64 a0_1, .int .u64 a0_2, .string a0_3, .string a0_4] 24 (0, 0))) ∧ (w'.heap[s_.2]? = some (.cells #[.int .u64 0, .int .u64 0, .int .u64 0, .string (⟨#[]⟩ : ByteArray), .string (⟨#[]⟩ : ByteArray)] 24 (0, 0))) ∧ (w.heap.size ≤ s_.2) ∧ (w.heap.size ≤ s_.2) ∧ (gb173 ≠ s_.2) ∧ (s_.2 ≠ gb173) ∧ (Below w.heap.size w w')) ?_ ?_
       rotate_left
       ·intro hCont
        refine two_ (i := 2) (j := 8) (Ni := some 48) (Nj := some 6) #[true, true, true, true, false, true, true, true, false, false, false, false] #[true, true, false, true, false, true, true, true, true, false, false, false] rfl rfl rfl rfl (two_of HT_.out (by kernel_rfl)) (by decide) (by decide) (fun K hK => ?_) (fun K hK => ?_)
        ·skip
         refine goes_ Tryd.func38 (by kernel_rfl) rfl #[.agg #[.int .u64 a0_0, .int .u64 a0_1, .int .u64 a0_2, .string a0_3, .string a0_4], .slice A1 l1.length c1] (by rfl) rfl rfl (by (try simp only [List.map_toArray, List.map_cons, List.map_nil]); first | done | rfl | (simp only [List.length_drop, List.length_take]; rfl)) ?_
         with_reducible refine (laws_svRun.calls kj11 a0_0 a0_1 a0_2 a0_3 a0_4 _ _ l1 t180 _ ?side1 ?side2 ?side3 A46.out).mono ?_
         (case side1 => repeat (first | exact (Kd.C_below HR1.out HB.out) | (with_reducible refine Kd.C_alloc ?_ _) | (with_reducible refine Kd.C_drewN ?_ _) | (with_reducible refine Kd.C_drew ?_)))
         (case side2 => exact HC1.out)
         (case side3 => exact globT_below HGT.out (by repeat (first | (with_reducible first | exact HB.out | apply below_alloc | apply pw_below_drewN | apply below_drew1 | refine below_set ?_ GE173.out) | exact HB.out)))
         rintro e w49 ⟨v181, rfl, ho0, hb⟩
         refine ⟨_, rfl, ?_⟩
         have n0_ := Aside0.mk (Kd.R_lower (Kd.R_newB ho0 (g := gb173) (o := .cells #[.int .u64 a0_0, .int .u64 a0_1, .int .u64 a0_2, .string a0_3, .string a0_4] 24 (0, 0)) (by (with_reducible repeat (first | refine blk_drewN ?_ _ | refine blk_drew ?_ | refine blk_alloc ?_ _)); exact BK173.out)) (below_size (by repeat (first | (with_reducible first | exact HB.out | apply below_alloc | apply pw_below_drewN | apply below_drew1 | refine below_set ?_ GE173.out) | exact HB.out))))
         have n1_ := Aside0.mk (blk_below (g := gb173) (o := .cells #[.int .u64 a0_0, .int .u64 a0_1, .int .u64 a0_2, .string a0_3, .string a0_4] 24 (0, 0)) (by (with_reducible repeat (first | refine blk_drewN ?_ _ | refine blk_drew ?_ | refine blk_alloc ?_ _)); exact BK173.out) hb)
         have n2_ := Aside0.mk (below_step (by repeat (first | (with_reducible first | exact HB.out | apply below_alloc | apply pw_below_drewN | apply below_drew1 | refine below_set ?_ GE173.out) | exact HB.out)) hb)
         clear BK173
         clear HB
         have HO182 := n0_
         have BK173 := n1_
         have HB := n2_
         clear n0_ n1_ n2_
         (try clear hb)
         (try clear hb2)
         (try clear hk)
         (try clear hi)
         (try clear ho0)
         refine hK.out _ _ ⟨(blk_cell BK173.out 0).trans rfl, (blk_cell BK173.out 1).trans rfl, (blk_cell BK173.out 2).trans rfl, (blk_cell BK173.out 3).trans rfl, (blk_cell BK173.out 4).trans rfl⟩ (fun hHeld => ?_)
         clear hK K
         refine norm_ (a' := ?_) ?_ ?_
         rotate_left
         ·show Act.put _ (some 48) _ = _
          simp only [Act.put, List.setIfInBounds_toArray, List.set_cons_zero, List.set_cons_succ, i64_w, i32_w]
          rfl
         refine two_ (i := 4) (j := 8) (Ni := some 50) (Nj := some 6) #[true, true, true, true, true, true, true, true, false, false, false, false] #[true, true, true, true, false, true, true, true, true, false, false, false] rfl rfl rfl rfl (two_of HT_.out (by kernel_rfl)) (by decide) (by decide) (fun K hK => ?_) (fun K hK => ?_)
         ·skip
          refine goes_ Tryd.func39 (by kernel_rfl) rfl #[.agg #[.int .u64 a0_0, .int .u64 a0_1, .int .u64 a0_2, .string a0_3, .string a0_4]] (by rfl) rfl rfl (by (try simp only [List.map_toArray, List.map_cons, List.map_nil]); first | done | rfl | (simp only [List.length_drop, List.length_take]; rfl)) ?_
          with_reducible refine (spec_Bare.calls a0_0 a0_1 a0_2 a0_3 a0_4 t183 t184 t185 t186 t187 _ A47.out).mono ?_
          rintro e w50 ⟨rfl, hb⟩
          refine ⟨_, rfl, ?_⟩
          have n0_ := Aside0.mk (Kd.R_below (by (with_reducible repeat (first | apply Kd.R_alloc | apply Kd.R_drewN | apply Kd.R_drew)); exact HO182.out) hb)
          have n1_ := Aside0.mk (blk_below (g := gb173) (o := .cells #[.int .u64 a0_0, .int .u64 a0_1, .int .u64 a0_2, .string a0_3, .string a0_4] 24 (0, 0)) (by (with_reducible repeat (first | refine blk_drewN ?_ _ | refine blk_drew ?_ | refine blk_alloc ?_ _)); exact BK173.out) hb)
          have n2_ := Aside0.mk (below_step (by repeat (first | (with_reducible first | exact HB.out | apply below_alloc | apply pw_below_drewN | apply below_drew1 | refine below_set ?_ GE173.out) | exact HB.out)) hb)
          clear HO182
          clear BK173
          clear HB
          have HO182 := n0_
          have BK173 := n1_
          have HB := n2_
          clear n0_ n1_ n2_
          (try clear hb)
          (try clear hb2)
          (try clear hk)
          (try clear hi)
          refine hK.out _ _ ⟨(blk_cell BK173.out 0).trans rfl, (blk_cell BK173.out 1).trans rfl, (blk_cell BK173.out 2).trans rfl, (blk_cell BK173.out 3).trans rfl, (blk_cell BK173.out 4).trans rfl⟩ (fun hHeld => ?_)
          clear hK K
          refine norm_ (a' := ?_) ?_ ?_
          rotate_left
          ·show Act.put _ (some 50) _ = _
           simp only [Act.put, List.setIfInBounds_toArray, List.set_cons_zero, List.set_cons_succ, i64_w, i32_w]
           rfl
          refine one_ (i := 8) (N := some 6) #[true, true, true, true, true, true, true, true, true, false, false, false] rfl rfl (one_of HT_.out (by kernel_rfl)) (by decide) (fun K hK => ?_)
          refine box_step ?hg (N := 6) ?hd (cs := #[.int .u64 0, .int .u64 0, .int .u64 0, .string (⟨#[]⟩ : ByteArray), .string (⟨#[]⟩ : ByteArray)]) (t := 24) ?hr ?_; (case hd => rfl); (case hg => rfl); (case hr => first | (go_simp; done) | (go_simp; rfl))
          intro gb188 hg w51 hbox hb
          have n0_ := Aside0.mk (Kd.R_below (Kd.R_elderB (by (with_reducible repeat (first | apply Kd.R_alloc | apply Kd.R_drewN | apply Kd.R_drew)); exact HO182.out) gb188 (Nat.le_of_eq hg.symm)) hb)
          have n1_ := Aside0.mk (blk_below (g := gb173) (o := .cells #[.int .u64 a0_0, .int .u64 a0_1, .int .u64 a0_2, .string a0_3, .string a0_4] 24 (0, 0)) (by (with_reducible repeat (first | refine blk_drewN ?_ _ | refine blk_drew ?_ | refine blk_alloc ?_ _)); exact BK173.out) hb)
          have n2_ := Aside0.mk (below_step (by repeat (first | (with_reducible first | exact HB.out | apply below_alloc | apply pw_below_drewN | apply below_drew1 | refine below_set ?_ GE173.out) | exact HB.out)) hb)
          have n3_ := Aside0.mk (hbox)
          have n4_ := Aside0.mk ((by rw [hg]; exact (below_size (by repeat (first | (with_reducible first | exact HB.out | apply below_alloc | apply pw_below_drewN | apply below_drew1 | refine below_set ?_ GE173.out) | exact HB.out))) : w.heap.size ≤ gb188))
          have n5_ := Aside0.mk ((by rw [hg]; exact (below_size (by repeat (first | (with_reducible first | exact HB.out | apply below_alloc | apply pw_below_drewN | apply below_drew1 | refine below_set ?_ GE173.out) | exact HB.out))) : w.heap.size ≤ gb188))
          have n6_ := Aside0.mk ((by rw [hg]; exact Nat.ne_of_lt (blk_lt (g := gb173) (o := .cells #[.int .u64 a0_0, .int .u64 a0_1, .int .u64 a0_2, .string a0_3, .string a0_4] 24 (0, 0)) (by (with_reducible repeat (first | refine blk_drewN ?_ _ | refine blk_drew ?_ | refine blk_alloc ?_ _)); exact BK173.out)) : gb173 ≠ gb188))
          have n7_ := Aside0.mk ((by rw [hg]; exact Nat.ne_of_gt (blk_lt (g := gb173) (o := .cells #[.int .u64 a0_0, .int .u64 a0_1, .int .u64 a0_2, .string a0_3, .string a0_4] 24 (0, 0)) (by (with_reducible repeat (first | refine blk_drewN ?_ _ | refine blk_drew ?_ | refine blk_alloc ?_ _)); exact BK173.out)) : gb188 ≠ gb173))
          clear HO182
          clear BK173
          clear HB
          have HO182 := n0_
          have BK173 := n1_
          have HB := n2_
          have BK188 := n3_
          have GW188 := n4_
          have GE188 := n5_
          have NB173_188 := n6_
          have NB188_173 := n7_
          clear n0_ n1_ n2_ n3_ n4_ n5_ n6_ n7_
          clear hb hbox hg
          refine hK.out _ _ ⟨(blk_cell BK173.out 0).trans rfl, (blk_cell BK173.out 1).trans rfl, (blk_cell BK173.out 2).trans rfl, (blk_cell BK173.out 3).trans rfl, (blk_cell BK173.out 4).trans rfl⟩ (fun hHeld => ?_)
          clear hK K
          refine norm_ (a' := ?_) ?_ ?_
          rotate_left
          ·show Act.put _ (some 6) _ = _
           simp only [Act.put, List.setIfInBounds_toArray, List.set_cons_zero, List.set_cons_succ, i64_w, i32_w]
           rfl
          exact norm_ (by simp only [putAll, Act.put, List.setIfInBounds_toArray, List.set_cons_zero, List.set_cons_succ]) (hCont (v181, gb188) _ ⟨hHeld, (by (with_reducible repeat (first | apply Kd.R_alloc | apply Kd.R_drewN | apply Kd.R_drew)); exact Kd.R_mono HO182.out (fun _ hk => ⟨hk.1.2, hk.2⟩)), (by (with_reducible repeat (first | refine blk_drewN ?_ _ | refine blk_drew ?_ | refine blk_alloc ?_ _)); exact BK173.out), (by (with_reducible repeat (first | refine blk_drewN ?_ _ | refine blk_drew ?_ | refine blk_alloc ?_ _)); exact BK188.out), GW188.out, GE188.out, NB173_188.out, NB188_173.out, (by repeat (first | (with_reducible first | exact HB.out | apply below_alloc | apply pw_below_drewN | apply below_drew1 | refine below_set ?_ GE173.out | refine below_set ?_ GE188.out) | exact HB.out))⟩)
         ·skip
          refine box_step ?hg (N := 6) ?hd (cs := #[.int .u64 0, .int .u64 0, .int .u64 0, .string (⟨#[]⟩ : ByteArray), .string (⟨#[]⟩ : ByteArray)]) (t := 24) ?hr ?_; (case hd => rfl); (case hg => rfl); (case hr => first | (go_simp; done) | (go_simp; rfl))
          intro gb188 hg w50 hbox hb
          have n0_ := Aside0.mk (Kd.R_below (Kd.R_elderB (by (with_reducible repeat (first | apply Kd.R_alloc | apply Kd.R_drewN | apply Kd.R_drew)); exact HO182.out) gb188 (Nat.le_of_eq hg.symm)) hb)
          have n1_ := Aside0.mk (blk_below (g := gb173) (o := .cells #[.int .u64 a0_0, .int .u64 a0_1, .int .u64 a0_2, .string a0_3, .string a0_4] 24 (0, 0)) (by (with_reducible repeat (first | refine blk_drewN ?_ _ | refine blk_drew ?_ | refine blk_alloc ?_ _)); exact BK173.out) hb)
          have n2_ := Aside0.mk (below_step (by repeat (first | (with_reducible first | exact HB.out | apply below_alloc | apply pw_below_drewN | apply below_drew1 | refine below_set ?_ GE173.out) | exact HB.out)) hb)
          have n3_ := Aside0.mk (hbox)
          have n4_ := Aside0.mk ((by rw [hg]; exact (below_size (by repeat (first | (with_reducible first | exact HB.out | apply below_alloc | apply pw_below_drewN | apply below_drew1 | refine below_set ?_ GE173.out) | exact HB.out))) : w.heap.size ≤ gb188))
          have n5_ := Aside0.mk ((by rw [hg]; exact (below_size (by repeat (first | (with_reducible first | exact HB.out | apply below_alloc | apply pw_below_drewN | apply below_drew1 | refine below_set ?_ GE173.out) | exact HB.out))) : w.heap.size ≤ gb188))
          have n6_ := Aside0.mk ((by rw [hg]; exact Nat.ne_of_lt (blk_lt (g := gb173) (o := .cells #[.int .u64 a0_0, .int .u64 a0_1, .int .u64 a0_2, .string a0_3, .string a0_4] 24 (0, 0)) (by (with_reducible repeat (first | refine blk_drewN ?_ _ | refine blk_drew ?_ | refine blk_alloc ?_ _)); exact BK173.out)) : gb173 ≠ gb188))
          have n7_ := Aside0.mk ((by rw [hg]; exact Nat.ne_of_gt (blk_lt (g := gb173) (o := .cells #[.int .u64 a0_0, .int .u64 a0_1, .int .u64 a0_2, .string a0_3, .string a0_4] 24 (0, 0)) (by (with_reducible repeat (first | refine blk_drewN ?_ _ | refine blk_drew ?_ | refine blk_alloc ?_ _)); exact BK173.out)) : gb188 ≠ gb173))
          clear HO182
          clear BK173
          clear HB
          have HO182 := n0_
          have BK173 := n1_
          have HB := n2_
          have BK188 := n3_
          have GW188 := n4_
          have GE188 := n5_
          have NB173_188 := n6_
          have NB188_173 := n7_
          clear n0_ n1_ n2_ n3_ n4_ n5_ n6_ n7_
          clear hb hbox hg
          refine hK.out _ _ ⟨(blk_cell BK173.out 0).trans rfl, (blk_cell BK173.out 1).trans rfl, (blk_cell BK173.out 2).trans rfl, (blk_cell BK173.out 3).trans rfl, (blk_cell BK173.out 4).trans rfl⟩ (fun hHeld => ?_)
          clear hK K
          refine norm_ (a' := ?_) ?_ ?_
          rotate_left
          ·show Act.put _ (some 6) _ = _
           simp only [Act.put, List.setIfInBounds_toArray, List.set_cons_zero, List.set_cons_succ, i64_w, i32_w]
           rfl
          refine one_ (i := 4) (N := some 50) #[true, true, true, true, true, true, true, true, true, false, false, false] rfl rfl (one_of HT_.out (by kernel_rfl)) (by decide) (fun K hK => ?_)
          refine goes_ Tryd.func39 (by kernel_rfl) rfl #[.agg #[.int .u64 a0_0, .int .u64 a0_1, .int .u64 a0_2, .string a0_3, .string a0_4]] (by rfl) rfl rfl (by (try simp only [List.map_toArray, List.map_cons, List.map_nil]); first | done | rfl | (simp only [List.length_drop, List.length_take]; rfl)) ?_
          with_reducible refine (spec_Bare.calls a0_0 a0_1 a0_2 a0_3 a0_4 t183 t184 t185 t186 t187 _ A47.out).mono ?_
          rintro e w51 ⟨rfl, hb⟩
          refine ⟨_, rfl, ?_⟩
          have n0_ := Aside0.mk (Kd.R_below (by (with_reducible repeat (first | apply Kd.R_alloc | apply Kd.R_drewN | apply Kd.R_drew)); exact HO182.out) hb)
          have n1_ := Aside0.mk (blk_below (g := gb173) (o := .cells #[.int .u64 a0_0, .int .u64 a0_1, .int .u64 a0_2, .string a0_3, .string a0_4] 24 (0, 0)) (by (with_reducible repeat (first | refine blk_drewN ?_ _ | refine blk_drew ?_ | refine blk_alloc ?_ _)); exact BK173.out) hb)
          have n2_ := Aside0.mk (blk_below (g := gb188) (o := .cells #[.int .u64 0, .int .u64 0, .int .u64 0, .string (⟨#[]⟩ : ByteArray), .string (⟨#[]⟩ : ByteArray)] 24 (0, 0)) (by (with_reducible repeat (first | refine blk_drewN ?_ _ | refine blk_drew ?_ | refine blk_alloc ?_ _)); exact BK188.out) hb)
          have n3_ := Aside0.mk (below_step (by repeat (first | (with_reducible first | exact HB.out | apply below_alloc | apply pw_below_drewN | apply below_drew1 | refine below_set ?_ GE173.out | refine below_set ?_ GE188.out) | exact HB.out)) hb)
          clear HO182
          clear BK173
          clear BK188
          clear HB
          have HO182 := n0_
          have BK173 := n1_
          have BK188 := n2_
          have HB := n3_
          clear n0_ n1_ n2_ n3_
          (try clear hb)
          (try clear hb2)
          (try clear hk)
          (try clear hi)
          refine hK.out _ _ ⟨(blk_cell BK173.out 0).trans rfl, (blk_cell BK173.out 1).trans rfl, (blk_cell BK173.out 2).trans rfl, (blk_cell BK173.out 3).trans rfl, (blk_cell BK173.out 4).trans rfl⟩ (fun hHeld => ?_)
          clear hK K
          refine norm_ (a' := ?_) ?_ ?_
          rotate_left
          ·show Act.put _ (some 50) _ = _
           simp only [Act.put, List.setIfInBounds_toArray, List.set_cons_zero, List.set_cons_succ, i64_w, i32_w]
           rfl
          exact norm_ (by simp only [putAll, Act.put, List.setIfInBounds_toArray, List.set_cons_zero, List.set_cons_succ]) (hCont (v181, gb188) _ ⟨hHeld, (by (with_reducible repeat (first | apply Kd.R_alloc | apply Kd.R_drewN | apply Kd.R_drew)); exact Kd.R_mono HO182.out (fun _ hk => ⟨hk.1.2, hk.2⟩)), (by (with_reducible repeat (first | refine blk_drewN ?_ _ | refine blk_drew ?_ | refine blk_alloc ?_ _)); exact BK173.out), (by (with_reducible repeat (first | refine blk_drewN ?_ _ | refine blk_drew ?_ | refine blk_alloc ?_ _)); exact BK188.out), GW188.out, GE188.out, NB173_188.out, NB188_173.out, (by repeat (first | (with_reducible first | exact HB.out | apply below_alloc | apply pw_below_drewN | apply below_drew1 | refine below_set ?_ GE173.out | refine below_set ?_ GE188.out) | exact HB.out))⟩)
        ·skip
         refine box_step ?hg (N := 6) ?hd (cs := #[.int .u64 0, .int .u64 0, .int .u64 0, .string (⟨#[]⟩ : ByteArray), .string (⟨#[]⟩ : ByteArray)]) (t := 24) ?hr ?_; (case hd => rfl); (case hg => rfl); (case hr => first | (go_simp; done) | (go_simp; rfl))
         intro gb188 hg w49 hbox hb
         have n0_ := Aside0.mk (blk_below (g := gb173) (o := .cells #[.int .u64 a0_0, .int .u64 a0_1, .int .u64 a0_2, .string a0_3, .string a0_4] 24 (0, 0)) (by (with_reducible repeat (first | refine blk_drewN ?_ _ | refine blk_drew ?_ | refine blk_alloc ?_ _)); exact BK173.out) hb)
         have n1_ := Aside0.mk (below_step (by repeat (first | (with_reducible first | exact HB.out | apply below_alloc | apply pw_below_drewN | apply below_drew1 | refine below_set ?_ GE173.out) | exact HB.out)) hb)
         have n2_ := Aside0.mk (hbox)
         have n3_ := Aside0.mk ((by rw [hg]; exact (below_size (by repeat (first | (with_reducible first | exact HB.out | apply below_alloc | apply pw_below_drewN | apply below_drew1 | refine below_set ?_ GE173.out) | exact HB.out))) : w.heap.size ≤ gb188))
         have n4_ := Aside0.mk ((by rw [hg]; exact (below_size (by repeat (first | (with_reducible first | exact HB.out | apply below_alloc | apply pw_below_drewN | apply below_drew1 | refine below_set ?_ GE173.out) | exact HB.out))) : w.heap.size ≤ gb188))
         have n5_ := Aside0.mk ((by rw [hg]; exact Nat.ne_of_lt (blk_lt (g := gb173) (o := .cells #[.int .u64 a0_0, .int .u64 a0_1, .int .u64 a0_2, .string a0_3, .string a0_4] 24 (0, 0)) (by (with_reducible repeat (first | refine blk_drewN ?_ _ | refine blk_drew ?_ | refine blk_alloc ?_ _)); exact BK173.out)) : gb173 ≠ gb188))
         have n6_ := Aside0.mk ((by rw [hg]; exact Nat.ne_of_gt (blk_lt (g := gb173) (o := .cells #[.int .u64 a0_0, .int .u64 a0_1, .int .u64 a0_2, .string a0_3, .string a0_4] 24 (0, 0)) (by (with_reducible repeat (first | refine blk_drewN ?_ _ | refine blk_drew ?_ | refine blk_alloc ?_ _)); exact BK173.out)) : gb188 ≠ gb173))
         clear BK173
         clear HB
         have BK173 := n0_
         have HB := n1_
         have BK188 := n2_
         have GW188 := n3_
         have GE188 := n4_
         have NB173_188 := n5_
         have NB188_173 := n6_
         clear n0_ n1_ n2_ n3_ n4_ n5_ n6_
         clear hb hbox hg
         refine hK.out _ _ ⟨(blk_cell BK173.out 0).trans rfl, (blk_cell BK173.out 1).trans rfl, (blk_cell BK173.out 2).trans rfl, (blk_cell BK173.out 3).trans rfl, (blk_cell BK173.out 4).trans rfl⟩ (fun hHeld => ?_)
         clear hK K
         refine norm_ (a' := ?_) ?_ ?_
         rotate_left
         ·show Act.put _ (some 6) _ = _
          simp only [Act.put, List.setIfInBounds_toArray, List.set_cons_zero, List.set_cons_succ, i64_w, i32_w]
          rfl
         refine one_ (i := 2) (N := some 48) #[true, true, true, true, false, true, true, true, true, false, false, false] rfl rfl (one_of HT_.out (by kernel_rfl)) (by decide) (fun K hK => ?_)
         refine goes_ Tryd.func38 (by kernel_rfl) rfl #[.agg #[.int .u64 a0_0, .int .u64 a0_1, .int .u64 a0_2, .string a0_3, .string a0_4], .slice A1 l1.length c1] (by rfl) rfl rfl (by (try simp only [List.map_toArray, List.map_cons, List.map_nil]); first | done | rfl | (simp only [List.length_drop, List.length_take]; rfl)) ?_
         with_reducible refine (laws_svRun.calls kj11 a0_0 a0_1 a0_2 a0_3 a0_4 _ _ l1 t180 _ ?side1 ?side2 ?side3 A46.out).mono ?_
         (case side1 => repeat (first | exact (Kd.C_below HR1.out HB.out) | (with_reducible refine Kd.C_alloc ?_ _) | (with_reducible refine Kd.C_drewN ?_ _) | (with_reducible refine Kd.C_drew ?_)))
         (case side2 => exact HC1.out)
         (case side3 => exact globT_below HGT.out (by repeat (first | (with_reducible first | exact HB.out | apply below_alloc | apply pw_below_drewN | apply below_drew1 | refine below_set ?_ GE173.out | refine below_set ?_ GE188.out) | exact HB.out)))
         rintro e w50 ⟨v181, rfl, ho0, hb⟩
         refine ⟨_, rfl, ?_⟩
         have n0_ := Aside0.mk (Kd.R_lower (Kd.R_newB (Kd.R_newB ho0 (g := gb173) (o := .cells #[.int .u64 a0_0, .int .u64 a0_1, .int .u64 a0_2, .string a0_3, .string a0_4] 24 (0, 0)) (by (with_reducible repeat (first | refine blk_drewN ?_ _ | refine blk_drew ?_ | refine blk_alloc ?_ _)); exact BK173.out)) (g := gb188) (o := .cells #[.int .u64 0, .int .u64 0, .int .u64 0, .string (⟨#[]⟩ : ByteArray), .string (⟨#[]⟩ : ByteArray)] 24 (0, 0)) (by (with_reducible repeat (first | refine blk_drewN ?_ _ | refine blk_drew ?_ | refine blk_alloc ?_ _)); exact BK188.out)) (below_size (by repeat (first | (with_reducible first | exact HB.out | apply below_alloc | apply pw_below_drewN | apply below_drew1 | refine below_set ?_ GE173.out | refine below_set ?_ GE188.out) | exact HB.out))))
         have n1_ := Aside0.mk (blk_below (g := gb173) (o := .cells #[.int .u64 a0_0, .int .u64 a0_1, .int .u64 a0_2, .string a0_3, .string a0_4] 24 (0, 0)) (by (with_reducible repeat (first | refine blk_drewN ?_ _ | refine blk_drew ?_ | refine blk_alloc ?_ _)); exact BK173.out) hb)
         have n2_ := Aside0.mk (blk_below (g := gb188) (o := .cells #[.int .u64 0, .int .u64 0, .int .u64 0, .string (⟨#[]⟩ : ByteArray), .string (⟨#[]⟩ : ByteArray)] 24 (0, 0)) (by (with_reducible repeat (first | refine blk_drewN ?_ _ | refine blk_drew ?_ | refine blk_alloc ?_ _)); exact BK188.out) hb)
         have n3_ := Aside0.mk (below_step (by repeat (first | (with_reducible first | exact HB.out | apply below_alloc | apply pw_below_drewN | apply below_drew1 | refine below_set ?_ GE173.out | refine below_set ?_ GE188.out) | exact HB.out)) hb)
         clear BK173
         clear BK188
         clear HB
         have HO182 := n0_
         have BK173 := n1_
         have BK188 := n2_
         have HB := n3_
         clear n0_ n1_ n2_ n3_
         (try clear hb)
         (try clear hb2)
         (try clear hk)
         (try clear hi)
         (try clear ho0)
         refine hK.out _ _ ⟨(blk_cell BK173.out 0).trans rfl, (blk_cell BK173.out 1).trans rfl, (blk_cell BK173.out 2).trans rfl, (blk_cell BK173.out 3).trans rfl, (blk_cell BK173.out 4).trans rfl⟩ (fun hHeld => ?_)
         clear hK K
         refine norm_ (a' := ?_) ?_ ?_
         rotate_left
         ·show Act.put _ (some 48) _ = _
          simp only [Act.put, List.setIfInBounds_toArray, List.set_cons_zero, List.set_cons_succ, i64_w, i32_w]
          rfl
         refine one_ (i := 4) (N := some 50) #[true, true, true, true, true, true, true, true, true, false, false, false] rfl rfl (one_of HT_.out (by kernel_rfl)) (by decide) (fun K hK => ?_)
         refine goes_ Tryd.func39 (by kernel_rfl) rfl #[.agg #[.int .u64 a0_0, .int .u64 a0_1, .int .u64 a0_2, .string a0_3, .string a0_4]] (by rfl) rfl rfl (by (try simp only [List.map_toArray, List.map_cons, List.map_nil]); first | done | rfl | (simp only [List.length_drop, List.length_take]; rfl)) ?_
         with_reducible refine (spec_Bare.calls a0_0 a0_1 a0_2 a0_3 a0_4 t183 t184 t185 t186 t187 _ A47.out).mono ?_
         rintro e w51 ⟨rfl, hb⟩
         refine ⟨_, rfl, ?_⟩
         have n0_ := Aside0.mk (Kd.R_below (by (with_reducible repeat (first | apply Kd.R_alloc | apply Kd.R_drewN | apply Kd.R_drew)); exact HO182.out) hb)
         have n1_ := Aside0.mk (blk_below (g := gb173) (o := .cells #[.int .u64 a0_0, .int .u64 a0_1, .int .u64 a0_2, .string a0_3, .string a0_4] 24 (0, 0)) (by (with_reducible repeat (first | refine blk_drewN ?_ _ | refine blk_drew ?_ | refine blk_alloc ?_ _)); exact BK173.out) hb)
         have n2_ := Aside0.mk (blk_below (g := gb188) (o := .cells #[.int .u64 0, .int .u64 0, .int .u64 0, .string (⟨#[]⟩ : ByteArray), .string (⟨#[]⟩ : ByteArray)] 24 (0, 0)) (by (with_reducible repeat (first | refine blk_drewN ?_ _ | refine blk_drew ?_ | refine blk_alloc ?_ _)); exact BK188.out) hb)
         have n3_ := Aside0.mk (below_step (by repeat (first | (with_reducible first | exact HB.out | apply below_alloc | apply pw_below_drewN | apply below_drew1 | refine below_set ?_ GE173.out | refine below_set ?_ GE188.out) | exact HB.out)) hb)
         clear HO182
         clear BK173
         clear BK188
         clear HB
         have HO182 := n0_
         have BK173 := n1_
         have BK188 := n2_
         have HB := n3_
         clear n0_ n1_ n2_ n3_
         (try clear hb)
         (try clear hb2)
         (try clear hk)
         (try clear hi)
         refine hK.out _ _ ⟨(blk_cell BK173.out 0).trans rfl, (blk_cell BK173.out 1).trans rfl, (blk_cell BK173.out 2).trans rfl, (blk_cell BK173.out 3).trans rfl, (blk_cell BK173.out 4).trans rfl⟩ (fun hHeld => ?_)
         clear hK K
         refine norm_ (a' := ?_) ?_ ?_
         rotate_left
         ·show Act.put _ (some 50) _ = _
          simp only [Act.put, List.setIfInBounds_toArray, List.set_cons_zero, List.set_cons_succ, i64_w, i32_w]
          rfl
         exact norm_ (by simp only [putAll, Act.put, List.setIfInBounds_toArray, List.set_cons_zero, List.set_cons_succ]) (hCont (v181, gb188) _ ⟨hHeld, (by (with_reducible repeat (first | apply Kd.R_alloc | apply Kd.R_drewN | apply Kd.R_drew)); exact Kd.R_mono HO182.out (fun _ hk => ⟨hk.1.2, hk.2⟩)), (by (with_reducible repeat (first | refine blk_drewN ?_ _ | refine blk_drew ?_ | refine blk_alloc ?_ _)); exact BK173.out), (by (with_reducible repeat (first | refine blk_drewN ?_ _ | refine blk_drew ?_ | refine blk_alloc ?_ _)); exact BK188.out), GW188.out, GE188.out, NB173_188.out, NB188_173.out, (by repeat (first | (with_reducible first | exact HB.out | apply below_alloc | apply pw_below_drewN | apply below_drew1 | refine below_set ?_ GE173.out | refine below_set ?_ GE188.out) | exact HB.out))⟩)
       rintro ⟨v181, gb188⟩ w52 ⟨hS_, h0_, h1_, h2_, h3_, h4_, h5_, h6_, h7_⟩
       have n0_ : Aside0 (Kd.R k24 24 w52 w.heap.size (fun k_ => k_ ≠ gb173 ∧ k_ ≠ gb188) v181 t180) := ⟨h0_⟩
       have n1_ : Aside0 (w52.heap[gb173]? = some (.cells #[.int .u64 a0_0, .int .u64 a0_1, .int .u64 a0_2, .string a0_3, .string a0_4] 24 (0, 0))) := ⟨h1_⟩
       have n2_ : Aside0 (w52.heap[gb188]? = some (.cells #[.int .u64 0, .int .u64 0, .int .u64 0, .string (⟨#[]⟩ : ByteArray), .string (⟨#[]⟩ : ByteArray)] 24 (0, 0))) := ⟨h2_⟩
       have n3_ : Aside0 (w.heap.size ≤ gb188) := ⟨h3_⟩
       have n4_ : Aside0 (w.heap.size ≤ gb188) := ⟨h4_⟩
       have n5_ : Aside0 (gb173 ≠ gb188) := ⟨h5_⟩
       have n6_ : Aside0 (gb188 ≠ gb173) := ⟨h6_⟩
       have n7_ : Aside0 (Below w.heap.size w w52) := ⟨h7_⟩
       clear BK173
       clear HB
       clear h0_ h1_ h2_ h3_ h4_ h5_ h6_ h7_
       have HO182 := n0_
       have BK173 := n1_
       have BK188 := n2_
       have GW188 := n3_
       have GE188 := n4_
       have NB173_188 := n5_
       have NB188_173 := n6_
       have HB := n7_
       clear n0_ n1_ n2_ n3_ n4_ n5_ n6_ n7_
       have hHeld : w52.cell? ⟨gb173, 0, none⟩ = some (.int .u64 a0_0) ∧ w52.cell? ⟨gb173, 1, none⟩ = some (.int .u64 a0_1) ∧ w52.cell? ⟨gb173, 2, none⟩ = some (.int .u64 a0_2) ∧ w52.cell? ⟨gb173, 3, none⟩ = some (.string a0_3) ∧ w52.cell? ⟨gb173, 4, none⟩ = some (.string a0_4) := hS_
       refine norm_ (a' := ?_) ?_ ?_
       rotate_left
       ·simp only [putAll, Act.put, List.setIfInBounds_toArray, List.set_cons_zero, List.set_cons_succ]
        rfl
       refine pure_ (i := 9) (N := some 5) (v := ?_) (a' := ?_) #[true, true, true, true, true, true, true, true, true, true, false, false] rfl rfl (any_of HT_.out (by kernel_rfl)) (fun _ _ _ h => h) (Or.inl ⟨by rfl, ?_⟩) ?_ ?_
       rotate_left
       ·intro w'
        go_simp
        with_reducible rfl
       rotate_left
       ·simp only [Act.put, List.setIfInBounds_toArray, List.set_cons_zero, List.set_cons_succ, i64_w, i32_w]
        rfl
       refine one_ (i := 10) (N := none) #[true, true, true, true, true, true, true, true, true, true, true, false] rfl rfl (one_of HT_.out (by kernel_rfl)) (by decide) (fun K hK => ?_)
       have hs53 : w52.cell? ⟨gb188, 0, none⟩ = some (.int .u64 0) := (blk_cell BK188.out 0).trans rfl
       have hfs53 := blk_frozen BK188.out 0
       have hns53_0 := NB173_188.out
       have hms53_0 := NB188_173.out
       have hs54 : w52.cell? ⟨gb188, 1, none⟩ = some (.int .u64 0) := (blk_cell BK188.out 1).trans rfl
       have hfs54 := blk_frozen BK188.out 1
       have hns54_0 := NB173_188.out
       have hms54_0 := NB188_173.out
       have hs55 : w52.cell? ⟨gb188, 2, none⟩ = some (.int .u64 0) := (blk_cell BK188.out 2).trans rfl
       have hfs55 := blk_frozen BK188.out 2
       have hns55_0 := NB173_188.out
       have hms55_0 := NB188_173.out
       have hs56 : w52.cell? ⟨gb188, 3, none⟩ = some (.string (⟨#[]⟩ : ByteArray)) := (blk_cell BK188.out 3).trans rfl
       have hfs56 := blk_frozen BK188.out 3
       have hns56_0 := NB173_188.out
       have hms56_0 := NB188_173.out
       have hs57 : w52.cell? ⟨gb188, 4, none⟩ = some (.string (⟨#[]⟩ : ByteArray)) := (blk_cell BK188.out 4).trans rfl
       have hfs57 := blk_frozen BK188.out 4
       have hns57_0 := NB173_188.out
       have hms57_0 := NB188_173.out
       refine skip_ (w1 := ?_) (by rfl) rfl ?_ ?_
       rotate_left
       ·go_simp
        rfl
       refine hK.out _ _ ⟨((cell_far (p := ⟨gb188, _, none⟩) NB173_188.out _).trans (((cell_far (p := ⟨gb188, _, none⟩) NB173_188.out _).trans (((cell_far (p := ⟨gb188, _, none⟩) NB173_188.out _).trans (((cell_far (p := ⟨gb188, _, none⟩) NB173_188.out _).trans (((cell_far (p := ⟨gb188, _, none⟩) NB173_188.out _).trans (hHeld.1)))))))))), ((cell_far (p := ⟨gb188, _, none⟩) NB173_188.out _).trans (((cell_far (p := ⟨gb188, _, none⟩) NB173_188.out _).trans (((cell_far (p := ⟨gb188, _, none⟩) NB173_188.out _).trans (((cell_far (p := ⟨gb188, _, none⟩) NB173_188.out _).trans (((cell_far (p := ⟨gb188, _, none⟩) NB173_188.out _).trans (hHeld.2.1)))))))))), ((cell_far (p := ⟨gb188, _, none⟩) NB173_188.out _).trans (((cell_far (p := ⟨gb188, _, none⟩) NB173_188.out _).trans (((cell_far (p := ⟨gb188, _, none⟩) NB173_188.out _).trans (((cell_far (p := ⟨gb188, _, none⟩) NB173_188.out _).trans (((cell_far (p := ⟨gb188, _, none⟩) NB173_188.out _).trans (hHeld.2.2.1)))))))))), ((cell_far (p := ⟨gb188, _, none⟩) NB173_188.out _).trans (((cell_far (p := ⟨gb188, _, none⟩) NB173_188.out _).trans (((cell_far (p := ⟨gb188, _, none⟩) NB173_188.out _).trans (((cell_far (p := ⟨gb188, _, none⟩) NB173_188.out _).trans (((cell_far (p := ⟨gb188, _, none⟩) NB173_188.out _).trans (hHeld.2.2.2.1)))))))))), ((cell_far (p := ⟨gb188, _, none⟩) NB173_188.out _).trans (((cell_far (p := ⟨gb188, _, none⟩) NB173_188.out _).trans (((cell_far (p := ⟨gb188, _, none⟩) NB173_188.out _).trans (((cell_far (p := ⟨gb188, _, none⟩) NB173_188.out _).trans (((cell_far (p := ⟨gb188, _, none⟩) NB173_188.out _).trans (hHeld.2.2.2.2))))))))))⟩ (fun hHeld => ?_)
       clear hK K
       refine pure_ (i := 11) (N := some 7) (v := ?_) (a' := ?_) #[true, true, true, true, true, true, true, true, true, true, true, true] rfl rfl (any_of HT_.out (by kernel_rfl)) (fun _ _ _ h => h) (Or.inl ⟨by rfl, ?_⟩) ?_ ?_
       rotate_left
       ·intro w'
        go_simp
        with_reducible rfl
       rotate_left
       ·simp only [Act.put, List.setIfInBounds_toArray, List.set_cons_zero, List.set_cons_succ, i64_w, i32_w]
        rfl
       refine done_ (done_of HT_.out (by kernel_rfl)) ?_
       try go_wp2
       go_loopg [7, 56] kj11 (fun kq v7 v56 w' => ∃ (x7_3 : Bool) (x56_3 : Int) (x189000_3 : Int) (x189001_3 : Int) (x189002_3 : Int) (x189003_3 : ByteArray) (x189004_3 : ByteArray), v7 = .bool x7_3 ∧ v56 = .int .i64 x56_3 ∧ Aside0 (laws_FnSemverIncRun.l0 kq t180 x7_3 l1 (l1.length : Int) x56_3 x189000_3 x189001_3 x189002_3 x189003_3 x189004_3 = some r) ∧ Aside0 (kq ≤ kj11) ∧ Aside0 (Kd.R k24 24 w' w.heap.size (fun k_ => k_ ≠ gb173 ∧ k_ ≠ gb188) v181 t180) ∧ Aside0 (w'.heap[gb173]? = some (.cells #[.int .u64 a0_0, .int .u64 a0_1, .int .u64 a0_2, .string a0_3, .string a0_4] 24 (0, 0))) ∧ Aside0 (w'.heap[gb188]? = some (.cells #[.int .u64 x189000_3, .int .u64 x189001_3, .int .u64 x189002_3, .string x189003_3, .string x189004_3] 24 (0, 0))) ∧ Aside0 (Below w.heap.size w w'))
       case atStart => exact ⟨((a0_3.toList != ([] : List UInt8))), (0), (t183), (t184), (t185), (t186), (t187), (by first | rfl | (simp; done) | (simp [*]; done) | (simp [nil_bne]; done)), (by first | rfl | (simp; done) | (simp [*]; done) | (simp [nil_bne]; done)), H', ⟨Nat.le_refl _⟩, ⟨by (with_reducible repeat (first | apply Kd.R_alloc | apply Kd.R_drewN | apply Kd.R_drew)); exact Kd.R_mono (Kd.R_far (p := ⟨gb188, 4, none⟩) (Kd.R_far (p := ⟨gb188, 3, none⟩) (Kd.R_far (p := ⟨gb188, 2, none⟩) (Kd.R_far (p := ⟨gb188, 1, none⟩) (Kd.R_far (p := ⟨gb188, 0, none⟩) (Kd.R_mono HO182.out (fun k_ hk => (⟨hk, hk.2⟩ : _ ∧ k_ ≠ gb188))) (fun _ hk => hk.2) (.int .u64 t183)) (fun _ hk => hk.2) (.int .u64 t184)) (fun _ hk => hk.2) (.int .u64 t185)) (fun _ hk => hk.2) (.string t186)) (fun _ hk => hk.2) (.string t187)) (fun _ hk => ⟨hk.1.1, hk.1.2⟩)⟩, ⟨by (with_reducible repeat (first | refine blk_drewN ?_ _ | refine blk_drew ?_ | refine blk_alloc ?_ _)); refine blk_far ?_ NB173_188.out _; (with_reducible repeat (first | refine blk_drewN ?_ _ | refine blk_drew ?_ | refine blk_alloc ?_ _)); refine blk_far ?_ NB173_188.out _; (with_reducible repeat (first | refine blk_drewN ?_ _ | refine blk_drew ?_ | refine blk_alloc ?_ _)); refine blk_far ?_ NB173_188.out _; (with_reducible repeat (first | refine blk_drewN ?_ _ | refine blk_drew ?_ | refine blk_alloc ?_ _)); refine blk_far ?_ NB173_188.out _; (with_reducible repeat (first | refine blk_drewN ?_ _ | refine blk_drew ?_ | refine blk_alloc ?_ _)); refine blk_far ?_ NB173_188.out _; (with_reducible repeat (first | refine blk_drewN ?_ _ | refine blk_drew ?_ | refine blk_alloc ?_ _)); exact BK173.out⟩, ⟨by (with_reducible repeat (first | refine blk_drewN ?_ _ | refine blk_drew ?_ | refine blk_alloc ?_ _)); refine blk_put (cs := #[.int .u64 t183, .int .u64 t184, .int .u64 t185, .string t186, .string (⟨#[]⟩ : ByteArray)]) ?_ 4 _ rfl; (with_reducible repeat (first | refine blk_drewN ?_ _ | refine blk_drew ?_ | refine blk_alloc ?_ _)); refine blk_put (cs := #[.int .u64 t183, .int .u64 t184, .int .u64 t185, .string (⟨#[]⟩ : ByteArray), .string (⟨#[]⟩ : ByteArray)]) ?_ 3 _ rfl; (with_reducible repeat (first | refine blk_drewN ?_ _ | refine blk_drew ?_ | refine blk_alloc ?_ _)); refine blk_put (cs := #[.int .u64 t183, .int .u64 t184, .int .u64 0, .string (⟨#[]⟩ : ByteArray), .string (⟨#[]⟩ : ByteArray)]) ?_ 2 _ rfl; (with_reducible repeat (first | refine blk_drewN ?_ _ | refine blk_drew ?_ | refine blk_alloc ?_ _)); refine blk_put (cs := #[.int .u64 t183, .int .u64 0, .int .u64 0, .string (⟨#[]⟩ : ByteArray), .string (⟨#[]⟩ : ByteArray)]) ?_ 1 _ rfl; (with_reducible repeat (first | refine blk_drewN ?_ _ | refine blk_drew ?_ | refine blk_alloc ?_ _)); refine blk_put (cs := #[.int .u64 0, .int .u64 0, .int .u64 0, .string (⟨#[]⟩ : ByteArray), .string (⟨#[]⟩ : ByteArray)]) ?_ 0 _ rfl; (with_reducible repeat (first | refine blk_drewN ?_ _ | refine blk_drew ?_ | refine blk_alloc ?_ _)); exact BK188.out⟩, ⟨by repeat (first | (with_reducible first | exact HB.out | apply below_alloc | apply pw_below_drewN | apply below_drew1 | refine below_set ?_ GE173.out | refine below_set ?_ GE188.out) | exact HB.out)⟩⟩
       case round =>
        clear H'
        try clear c1
        try clear p2
        try clear c3
        try clear c4
        try clear c5
        try clear c6
        try clear c9
        try clear c11
        try clear c14
        try clear c16
        try clear c17
        try clear c17b0
        try clear c17b1
        try clear c18
        try clear c38
        try clear c39
        try clear c45
        try clear hcz18_0
        try clear hcz18_1
        try clear hcz18_2
        try clear hcz18_3
        try clear hcz18_4
        try clear hcz23_0
        try clear hcz23_1
        try clear hcz23_2
        try clear hcz23_3
        try clear hcz23_4
        try clear hcz25_0
        try clear hcz25_1
        try clear hcz25_2
        try clear hcz25_3
        try clear hcz25_4
        try clear hcz30_0
        try clear hcz30_1
        try clear hcz30_2
        try clear hcz30_3
        try clear hcz30_4
        try clear hcz32_0
        try clear hcz32_1
        try clear hcz32_2
        try clear hcz32_3
        try clear hcz32_4
        try clear hcz33_0
        try clear hcz33_1
        try clear hcz33_2
        try clear hcz33_3
        try clear hcz33_4
        try clear hcz38_0
        try clear hcz38_1
        try clear hcz38_2
        try clear hcz38_3
        try clear hcz38_4
        try clear hcz40_0
        try clear hcz40_1
        try clear hcz40_2
        try clear hcz40_3
        try clear hcz40_4
        try clear hcz7_0
        try clear hcz7_1
        try clear hcz7_2
        try clear hcz7_3
        try clear hcz7_4
        try clear hcz9_0
        try clear hcz9_1
        try clear hcz9_2
        try clear hcz9_3
        try clear hcz9_4
        try clear hfz18_0
        try clear hfz18_1
        try clear hfz18_2
        try clear hfz18_3
        try clear hfz18_4
        try clear hfz23_0
        try clear hfz23_1
        try clear hfz23_2
        try clear hfz23_3
        try clear hfz23_4
        try clear hfz25_0
        try clear hfz25_1
        try clear hfz25_2
        try clear hfz25_3
        try clear hfz25_4
        try clear hfz30_0
        try clear hfz30_1
        try clear hfz30_2
        try clear hfz30_3
        try clear hfz30_4
        try clear hfz32_0
        try clear hfz32_1
        try clear hfz32_2
        try clear hfz32_3
        try clear hfz32_4
        try clear hfz33_0
        try clear hfz33_1
        try clear hfz33_2
        try clear hfz33_3
        try clear hfz33_4
        try clear hfz38_0
        try clear hfz38_1
        try clear hfz38_2
        try clear hfz38_3
        try clear hfz38_4
        try clear hfz40_0
        try clear hfz40_1
        try clear hfz40_2
        try clear hfz40_3
        try clear hfz40_4
        try clear hfz7_0
        try clear hfz7_1
        try clear hfz7_2
        try clear hfz7_3
        try clear hfz7_4
        try clear hfz9_0
        try clear hfz9_1
        try clear hfz9_2
        try clear hfz9_3
        try clear hfz9_4
        try clear p2
        obtain ⟨x7_3, x56_3, x189000_3, x189001_3, x189002_3, x189003_3, x189004_3, rfl, rfl, HA, HK3, HO_5, BK173, BK188, HB⟩ := hrel
        cases gk with
        | zero => exact absurd HA.out (by simp [laws_FnSemverIncRun.l0])
        | succ k3 =>
         have H := HA.out
         clear HA
         simp only [laws_FnSemverIncRun.l0] at H
         by_cases c58 : x56_3 < (l1.length : Int)
         ·rw [if_pos c58] at H
          have c58b0 : decide (x56_3 < (l1.length : Int)) = true := decide_eq_true c58
          clear c58
          by_cases c59 : 0 ≤ x56_3
          ·rw [if_pos c59] at H
           have c59b0 : decide (0 ≤ x56_3) = true := decide_eq_true c59
           clear c59
           by_cases c60 : x56_3 < (l1.length : Int)
           ·rw [if_pos c60] at H
            have c60b0 : decide (x56_3 < (l1.length : Int)) = true := decide_eq_true c60
            clear c60
            have HC61 := Aside0.mk H
            clear H
            have p189 : 0 ≤ (x56_3 : Int) := of_decide_eq_true (by first | (with_reducible assumption) | assumption)
            have q189 : x56_3 < (l1.length : Int) := of_decide_eq_true (by first | (with_reducible assumption) | assumption)
            obtain ⟨ad189, e189, hx189_0⟩ := Kd.at_int HR1.out x56_3 p189 q189
            cases e189
            replace hx189_0 := (HB.out.cell (World.block_lt_of_cell? w _ hx189_0)).trans hx189_0
            replace p189 := eq_true p189
            replace q189 := eq_true q189
            go_upto_block 2 with (fail)
            go_cut [] (fun wc => ∃ (kq : Nat) (x189000_60 : Int) (x189001_60 : Int) (x189002_60 : Int) (x189003_60 : ByteArray) (x189004_60 : ByteArray), Aside0 (laws_FnSemverIncRun.j3 kq t180 x56_3 l1 (l1.length : Int) x56_3 x189000_60 x189001_60 x189002_60 x189003_60 x189004_60 = some r) ∧ Aside0 (kq ≤ k3) ∧ Aside0 (Kd.R k24 24 wc w.heap.size (fun k_ => k_ ≠ gb173 ∧ k_ ≠ gb188) v181 t180) ∧ Aside0 (wc.heap[gb173]? = some (.cells #[.int .u64 a0_0, .int .u64 a0_1, .int .u64 a0_2, .string a0_3, .string a0_4] 24 (0, 0))) ∧ Aside0 (wc.heap[gb188]? = some (.cells #[.int .u64 x189000_60, .int .u64 x189001_60, .int .u64 x189002_60, .string x189003_60, .string x189004_60] 24 (0, 0))) ∧ Aside0 (Below w.heap.size w wc))
            case first =>
             have H := HC61.out
             clear HC61
             by_cases c62 : (rd l1 x56_3) > 1
             ·rw [if_pos c62] at H
              have c62b0 : decide (1 < (rd l1 x56_3)) = true := decide_eq_true c62
              clear c62
              (first | rw [c62b0] | (simp only [i64_w, i32_w]; rw [c62b0]) | rw [c62b1] | skip)
              have H' := Aside0.mk H
              clear H
              have hnb63 := NB188_173.out
              have hnc63 := NB173_188.out
              have hcz64_0 : wr.cell? ⟨gb188, 0, none⟩ = some (.int .u64 x189000_3) := (blk_cell BK188.out 0).trans rfl
              have hcz64_1 : wr.cell? ⟨gb188, 1, none⟩ = some (.int .u64 x189001_3) := (blk_cell BK188.out 1).trans rfl
              have hcz64_2 : wr.cell? ⟨gb188, 2, none⟩ = some (.int .u64 x189002_3) := (blk_cell BK188.out 2).trans rfl
              have hcz64_3 : wr.cell? ⟨gb188, 3, none⟩ = some (.string x189003_3) := (blk_cell BK188.out 3).trans rfl
              have hcz64_4 : wr.cell? ⟨gb188, 4, none⟩ = some (.string x189004_3) := (blk_cell BK188.out 4).trans rfl
              have hfz64_0 := blk_frozen BK188.out 0
              have hfz64_1 := blk_frozen BK188.out 1
              have hfz64_2 := blk_frozen BK188.out 2
              have hfz64_3 := blk_frozen BK188.out 3
              have hfz64_4 := blk_frozen BK188.out 4
              go_wp2
              go_meet
              case rel => exact ⟨_, (IntKind.u64.wrap (x189000_3 + 1)), (0), (0), ((⟨#[]⟩ : ByteArray)), ((⟨#[]⟩ : ByteArray)), H', ⟨by have := HJ2.out; have := HJ11.out; have := HK3.out; first | omega | exact Nat.le_refl _⟩, ⟨by (with_reducible repeat (first | apply Kd.R_alloc | apply Kd.R_drewN | apply Kd.R_drew)); exact Kd.R_mono (Kd.R_far (p := ⟨gb188, 4, none⟩) (Kd.R_far (p := ⟨gb188, 3, none⟩) (Kd.R_far (p := ⟨gb188, 2, none⟩) (Kd.R_far (p := ⟨gb188, 1, none⟩) (Kd.R_far (p := ⟨gb188, 0, none⟩) (Kd.R_mono HO_5.out (fun k_ hk => (⟨hk, hk.2⟩ : _ ∧ k_ ≠ gb188))) (fun _ hk => hk.2) (.int .u64 (IntKind.u64.wrap (x189000_3 + 1)))) (fun _ hk => hk.2) (.int .u64 0)) (fun _ hk => hk.2) (.int .u64 0)) (fun _ hk => hk.2) (.string (⟨#[]⟩ : ByteArray))) (fun _ hk => hk.2) (.string (⟨#[]⟩ : ByteArray))) (fun _ hk => ⟨hk.1.1, hk.1.2⟩)⟩, ⟨by (with_reducible repeat (first | refine blk_drewN ?_ _ | refine blk_drew ?_ | refine blk_alloc ?_ _)); refine blk_far ?_ NB173_188.out _; (with_reducible repeat (first | refine blk_drewN ?_ _ | refine blk_drew ?_ | refine blk_alloc ?_ _)); refine blk_far ?_ NB173_188.out _; (with_reducible repeat (first | refine blk_drewN ?_ _ | refine blk_drew ?_ | refine blk_alloc ?_ _)); refine blk_far ?_ NB173_188.out _; (with_reducible repeat (first | refine blk_drewN ?_ _ | refine blk_drew ?_ | refine blk_alloc ?_ _)); refine blk_far ?_ NB173_188.out _; (with_reducible repeat (first | refine blk_drewN ?_ _ | refine blk_drew ?_ | refine blk_alloc ?_ _)); refine blk_far ?_ NB173_188.out _; (with_reducible repeat (first | refine blk_drewN ?_ _ | refine blk_drew ?_ | refine blk_alloc ?_ _)); exact BK173.out⟩, ⟨by (with_reducible repeat (first | refine blk_drewN ?_ _ | refine blk_drew ?_ | refine blk_alloc ?_ _)); refine blk_put (cs := #[.int .u64 (IntKind.u64.wrap (x189000_3 + 1)), .int .u64 0, .int .u64 0, .string (⟨#[]⟩ : ByteArray), .string x189004_3]) ?_ 4 _ rfl; (with_reducible repeat (first | refine blk_drewN ?_ _ | refine blk_drew ?_ | refine blk_alloc ?_ _)); refine blk_put (cs := #[.int .u64 (IntKind.u64.wrap (x189000_3 + 1)), .int .u64 0, .int .u64 0, .string x189003_3, .string x189004_3]) ?_ 3 _ rfl; (with_reducible repeat (first | refine blk_drewN ?_ _ | refine blk_drew ?_ | refine blk_alloc ?_ _)); refine blk_put (cs := #[.int .u64 (IntKind.u64.wrap (x189000_3 + 1)), .int .u64 0, .int .u64 x189002_3, .string x189003_3, .string x189004_3]) ?_ 2 _ rfl; (with_reducible repeat (first | refine blk_drewN ?_ _ | refine blk_drew ?_ | refine blk_alloc ?_ _)); refine blk_put (cs := #[.int .u64 (IntKind.u64.wrap (x189000_3 + 1)), .int .u64 x189001_3, .int .u64 x189002_3, .string x189003_3, .string x189004_3]) ?_ 1 _ rfl; (with_reducible repeat (first | refine blk_drewN ?_ _ | refine blk_drew ?_ | refine blk_alloc ?_ _)); refine blk_put (cs := #[.int .u64 x189000_3, .int .u64 x189001_3, .int .u64 x189002_3, .string x189003_3, .string x189004_3]) ?_ 0 _ rfl; (with_reducible repeat (first | refine blk_drewN ?_ _ | refine blk_drew ?_ | refine blk_alloc ?_ _)); exact BK188.out⟩, ⟨by repeat (first | (with_reducible first | exact HB.out | apply below_alloc | apply pw_below_drewN | apply below_drew1 | refine below_set ?_ GE173.out | refine below_set ?_ GE188.out) | exact HB.out)⟩⟩
             ·rw [if_neg c62] at H
              have c62b0 : decide (1 < (rd l1 x56_3)) = false := decide_eq_false c62
              clear c62
              (first | rw [c62b0] | (simp only [i64_w, i32_w]; rw [c62b0]) | rw [c62b1] | skip)
              by_cases c65 : (rd l1 x56_3) = 1
              ·rw [if_pos c65] at H
               have c65b0 : ((rd l1 x56_3) == 1) = true := beq_iff_eq.mpr c65
               have c65b1 : ((rd l1 x56_3) != 1) = false := bne_eq_false_iff_eq.mpr c65
               clear c65
               have H' := Aside0.mk H
               clear H
               have hnb66 := NB188_173.out
               have hnc66 := NB173_188.out
               have hcz67_0 : wr.cell? ⟨gb188, 0, none⟩ = some (.int .u64 x189000_3) := (blk_cell BK188.out 0).trans rfl
               have hcz67_1 : wr.cell? ⟨gb188, 1, none⟩ = some (.int .u64 x189001_3) := (blk_cell BK188.out 1).trans rfl
               have hcz67_2 : wr.cell? ⟨gb188, 2, none⟩ = some (.int .u64 x189002_3) := (blk_cell BK188.out 2).trans rfl
               have hcz67_3 : wr.cell? ⟨gb188, 3, none⟩ = some (.string x189003_3) := (blk_cell BK188.out 3).trans rfl
               have hcz67_4 : wr.cell? ⟨gb188, 4, none⟩ = some (.string x189004_3) := (blk_cell BK188.out 4).trans rfl
               have hfz67_0 := blk_frozen BK188.out 0
               have hfz67_1 := blk_frozen BK188.out 1
               have hfz67_2 := blk_frozen BK188.out 2
               have hfz67_3 := blk_frozen BK188.out 3
               have hfz67_4 := blk_frozen BK188.out 4
               go_wp2
               go_meet
               case rel => exact ⟨_, (x189000_3), (IntKind.u64.wrap (x189001_3 + 1)), (0), (x189003_3), (x189004_3), H', ⟨by have := HJ2.out; have := HJ11.out; have := HK3.out; first | omega | exact Nat.le_refl _⟩, ⟨by (with_reducible repeat (first | apply Kd.R_alloc | apply Kd.R_drewN | apply Kd.R_drew)); exact Kd.R_mono (Kd.R_far (p := ⟨gb188, 2, none⟩) (Kd.R_far (p := ⟨gb188, 1, none⟩) (Kd.R_mono HO_5.out (fun k_ hk => (⟨hk, hk.2⟩ : _ ∧ k_ ≠ gb188))) (fun _ hk => hk.2) (.int .u64 (IntKind.u64.wrap (x189001_3 + 1)))) (fun _ hk => hk.2) (.int .u64 0)) (fun _ hk => ⟨hk.1.1, hk.1.2⟩)⟩, ⟨by (with_reducible repeat (first | refine blk_drewN ?_ _ | refine blk_drew ?_ | refine blk_alloc ?_ _)); refine blk_far ?_ NB173_188.out _; (with_reducible repeat (first | refine blk_drewN ?_ _ | refine blk_drew ?_ | refine blk_alloc ?_ _)); refine blk_far ?_ NB173_188.out _; (with_reducible repeat (first | refine blk_drewN ?_ _ | refine blk_drew ?_ | refine blk_alloc ?_ _)); exact BK173.out⟩, ⟨by (with_reducible repeat (first | refine blk_drewN ?_ _ | refine blk_drew ?_ | refine blk_alloc ?_ _)); refine blk_put (cs := #[.int .u64 x189000_3, .int .u64 (IntKind.u64.wrap (x189001_3 + 1)), .int .u64 x189002_3, .string x189003_3, .string x189004_3]) ?_ 2 _ rfl; (with_reducible repeat (first | refine blk_drewN ?_ _ | refine blk_drew ?_ | refine blk_alloc ?_ _)); refine blk_put (cs := #[.int .u64 x189000_3, .int .u64 x189001_3, .int .u64 x189002_3, .string x189003_3, .string x189004_3]) ?_ 1 _ rfl; (with_reducible repeat (first | refine blk_drewN ?_ _ | refine blk_drew ?_ | refine blk_alloc ?_ _)); exact BK188.out⟩, ⟨by repeat (first | (with_reducible first | exact HB.out | apply below_alloc | apply pw_below_drewN | apply below_drew1 | refine below_set ?_ GE173.out | refine below_set ?_ GE188.out) | exact HB.out)⟩⟩
              ·rw [if_neg c65] at H
               have c65b0 : ((rd l1 x56_3) == 1) = false := beq_eq_false_iff_ne.mpr c65
               have c65b1 : ((rd l1 x56_3) != 1) = true := bne_iff_ne.mpr c65
               by_cases c68 : x7_3 = true
               ·subst c68
                have H1 : (laws_FnSemverIncRun.j3 k3 t180 x56_3 l1 (l1.length : Int) x56_3 x189000_3 x189001_3 x189002_3 x189003_3 x189004_3) = some r := by rw [if_pos rfl] at H; exact H
                clear H
                have H := H1
                clear H1
                have H' := Aside0.mk H
                clear H
                go_wp2
                go_meet
                case rel => exact ⟨_, (x189000_3), (x189001_3), (x189002_3), (x189003_3), (x189004_3), H', ⟨by have := HJ2.out; have := HJ11.out; have := HK3.out; first | omega | exact Nat.le_refl _⟩, ⟨by (with_reducible repeat (first | apply Kd.R_alloc | apply Kd.R_drewN | apply Kd.R_drew)); exact HO_5.out⟩, ⟨by (with_reducible repeat (first | refine blk_drewN ?_ _ | refine blk_drew ?_ | refine blk_alloc ?_ _)); exact BK173.out⟩, ⟨by (with_reducible repeat (first | refine blk_drewN ?_ _ | refine blk_drew ?_ | refine blk_alloc ?_ _)); exact BK188.out⟩, ⟨by repeat (first | (with_reducible first | exact HB.out | apply below_alloc | apply pw_below_drewN | apply below_drew1 | refine below_set ?_ GE173.out | refine below_set ?_ GE188.out) | exact HB.out)⟩⟩
               ·replace c68 := Bool.eq_false_iff.mpr c68
                subst c68
                have H1 : (laws_FnSemverIncRun.j3 k3 t180 x56_3 l1 (l1.length : Int) x56_3 x189000_3 x189001_3 (IntKind.u64.wrap (x189002_3 + 1)) x189003_3 x189004_3) = some r := by rw [if_neg (show ¬ (false = true) by decide)] at H; exact H
                clear H
                have H := H1
                clear H1
                have H' := Aside0.mk H
                clear H
                have hnb69 := NB188_173.out
                have hnc69 := NB173_188.out
                have hcz70_0 : wr.cell? ⟨gb188, 0, none⟩ = some (.int .u64 x189000_3) := (blk_cell BK188.out 0).trans rfl
                have hcz70_1 : wr.cell? ⟨gb188, 1, none⟩ = some (.int .u64 x189001_3) := (blk_cell BK188.out 1).trans rfl
                have hcz70_2 : wr.cell? ⟨gb188, 2, none⟩ = some (.int .u64 x189002_3) := (blk_cell BK188.out 2).trans rfl
                have hcz70_3 : wr.cell? ⟨gb188, 3, none⟩ = some (.string x189003_3) := (blk_cell BK188.out 3).trans rfl
                have hcz70_4 : wr.cell? ⟨gb188, 4, none⟩ = some (.string x189004_3) := (blk_cell BK188.out 4).trans rfl
                have hfz70_0 := blk_frozen BK188.out 0
                have hfz70_1 := blk_frozen BK188.out 1
                have hfz70_2 := blk_frozen BK188.out 2
                have hfz70_3 := blk_frozen BK188.out 3
                have hfz70_4 := blk_frozen BK188.out 4
                go_wp2
                go_meet
                case rel => exact ⟨_, (x189000_3), (x189001_3), (IntKind.u64.wrap (x189002_3 + 1)), (x189003_3), (x189004_3), H', ⟨by have := HJ2.out; have := HJ11.out; have := HK3.out; first | omega | exact Nat.le_refl _⟩, ⟨by (with_reducible repeat (first | apply Kd.R_alloc | apply Kd.R_drewN | apply Kd.R_drew)); exact Kd.R_mono (Kd.R_far (p := ⟨gb188, 2, none⟩) (Kd.R_mono HO_5.out (fun k_ hk => (⟨hk, hk.2⟩ : _ ∧ k_ ≠ gb188))) (fun _ hk => hk.2) (.int .u64 (IntKind.u64.wrap (x189002_3 + 1)))) (fun _ hk => ⟨hk.1.1, hk.1.2⟩)⟩, ⟨by (with_reducible repeat (first | refine blk_drewN ?_ _ | refine blk_drew ?_ | refine blk_alloc ?_ _)); refine blk_far ?_ NB173_188.out _; (with_reducible repeat (first | refine blk_drewN ?_ _ | refine blk_drew ?_ | refine blk_alloc ?_ _)); exact BK173.out⟩, ⟨by (with_reducible repeat (first | refine blk_drewN ?_ _ | refine blk_drew ?_ | refine blk_alloc ?_ _)); refine blk_put (cs := #[.int .u64 x189000_3, .int .u64 x189001_3, .int .u64 x189002_3, .string x189003_3, .string x189004_3]) ?_ 2 _ rfl; (with_reducible repeat (first | refine blk_drewN ?_ _ | refine blk_drew ?_ | refine blk_alloc ?_ _)); exact BK188.out⟩, ⟨by repeat (first | (with_reducible first | exact HB.out | apply below_alloc | apply pw_below_drewN | apply below_drew1 | refine below_set ?_ GE173.out | refine below_set ?_ GE188.out) | exact HB.out)⟩⟩
            case rest =>
             clear HC61
             try clear c1
             try clear p1
             try clear q1
             try clear hx1
             try clear p2
             try clear c3
             try clear c4
             try clear c5
             try clear c6
             try clear c9
             try clear c11
             try clear c14
             try clear c16
             try clear c17
             try clear c17b0
             try clear c17b1
             try clear c18
             try clear p18
             try clear q18
             try clear hx18
             try clear c38
             try clear c39
             try clear c45
             try clear c58
             try clear c58b0
             try clear c59
             try clear c59b0
             try clear c60
             try clear c60b0
             try clear c62
             try clear c62b0
             try clear c62b1
             try clear c63
             try clear c65
             try clear c65b0
             try clear c65b1
             try clear c66
             try clear c68
             try clear c69
             try clear hcz18_0
             try clear hcz18_1
             try clear hcz18_2
             try clear hcz18_3
             try clear hcz18_4
             try clear hcz23_0
             try clear hcz23_1
             try clear hcz23_2
             try clear hcz23_3
             try clear hcz23_4
             try clear hcz25_0
             try clear hcz25_1
             try clear hcz25_2
             try clear hcz25_3
             try clear hcz25_4
             try clear hcz30_0
             try clear hcz30_1
             try clear hcz30_2
             try clear hcz30_3
             try clear hcz30_4
             try clear hcz32_0
             try clear hcz32_1
             try clear hcz32_2
             try clear hcz32_3
             try clear hcz32_4
             try clear hcz33_0
             try clear hcz33_1
             try clear hcz33_2
             try clear hcz33_3
             try clear hcz33_4
             try clear hcz38_0
             try clear hcz38_1
             try clear hcz38_2
             try clear hcz38_3
             try clear hcz38_4
             try clear hcz40_0
             try clear hcz40_1
             try clear hcz40_2
             try clear hcz40_3
             try clear hcz40_4
             try clear hcz64_0
             try clear hcz64_1
             try clear hcz64_2
             try clear hcz64_3
             try clear hcz64_4
             try clear hcz67_0
             try clear hcz67_1
             try clear hcz67_2
             try clear hcz67_3
             try clear hcz67_4
             try clear hcz70_0
             try clear hcz70_1
             try clear hcz70_2
             try clear hcz70_3
             try clear hcz70_4
             try clear hcz7_0
             try clear hcz7_1
             try clear hcz7_2
             try clear hcz7_3
             try clear hcz7_4
             try clear hcz9_0
             try clear hcz9_1
             try clear hcz9_2
             try clear hcz9_3
             try clear hcz9_4
             try clear hfz18_0
             try clear hfz18_1
             try clear hfz18_2
             try clear hfz18_3
             try clear hfz18_4
             try clear hfz23_0
             try clear hfz23_1
             try clear hfz23_2
             try clear hfz23_3
             try clear hfz23_4
             try clear hfz25_0
             try clear hfz25_1
             try clear hfz25_2
             try clear hfz25_3
             try clear hfz25_4
             try clear hfz30_0
             try clear hfz30_1
             try clear hfz30_2
             try clear hfz30_3
             try clear hfz30_4
             try clear hfz32_0
             try clear hfz32_1
             try clear hfz32_2
             try clear hfz32_3
             try clear hfz32_4
             try clear hfz33_0
             try clear hfz33_1
             try clear hfz33_2
             try clear hfz33_3
             try clear hfz33_4
             try clear hfz38_0
             try clear hfz38_1
             try clear hfz38_2
             try clear hfz38_3
             try clear hfz38_4
             try clear hfz40_0
             try clear hfz40_1
             try clear hfz40_2
             try clear hfz40_3
             try clear hfz40_4
             try clear hfz64_0
             try clear hfz64_1
             try clear hfz64_2
             try clear hfz64_3
             try clear hfz64_4
             try clear hfz67_0
             try clear hfz67_1
             try clear hfz67_2
             try clear hfz67_3
             try clear hfz67_4
             try clear hfz70_0
             try clear hfz70_1
             try clear hfz70_2
             try clear hfz70_3
             try clear hfz70_4
             try clear hfz7_0
             try clear hfz7_1
             try clear hfz7_2
             try clear hfz7_3
             try clear hfz7_4
             try clear hfz9_0
             try clear hfz9_1
             try clear hfz9_2
             try clear hfz9_3
             try clear hfz9_4
             try clear hx189_0
             try clear p189
             try clear p2
             try clear q189
             obtain ⟨kq, x189000_60, x189001_60, x189002_60, x189003_60, x189004_60, HA, HJ60, HO_5, BK173, BK188, HB⟩ := hcut
             cases kq with
             | zero => exact absurd HA.out (by simp [laws_FnSemverIncRun.j3])
             | succ kj60 =>
              have H := HA.out
              clear HA
              simp only [laws_FnSemverIncRun.j3] at H
              by_cases c71 : 0 ≤ x56_3
              ·rw [if_pos c71] at H
               have c71b0 : decide (0 ≤ x56_3) = true := decide_eq_true c71
               clear c71
               by_cases c72 : x56_3 < (t180.length : Int)
               ·rw [if_pos c72] at H
                have c72b0 : decide (x56_3 < (t180.length : Int)) = true := decide_eq_true c72
                clear c72
                obtain ⟨ji73, hji73⟩ : ∃ j_ : Int, (wrap64 (x56_3 + 1)) = j_ := ⟨_, rfl⟩
                replace H : (if 0 ≤ (ji73) then (if (ji73) < (t180.length : Int) then ((impl_VersionLess.f kj60 ((rd_T24 t180 x56_3).f0) ((rd_T24 t180 x56_3).f1) ((rd_T24 t180 x56_3).f2) ((rd_T24 t180 x56_3).f3) ((rd_T24 t180 x56_3).f4) ((rd_T24 t180 (ji73)).f0) ((rd_T24 t180 (ji73)).f1) ((rd_T24 t180 (ji73)).f2) ((rd_T24 t180 (ji73)).f3) ((rd_T24 t180 (ji73)).f4)).bind fun t192 => (if t192 = true then (if 0 < (t180.length : Int) then ((impl_VersionLess.f kj60 ((rd_T24 t180 0).f0) ((rd_T24 t180 0).f1) ((rd_T24 t180 0).f2) ((rd_T24 t180 0).f3) ((rd_T24 t180 0).f4) ((rd_T24 t180 (ji73)).f0) ((rd_T24 t180 (ji73)).f1) ((rd_T24 t180 (ji73)).f2) ((rd_T24 t180 (ji73)).f3) ((rd_T24 t180 (ji73)).f4)).bind fun t195 => (if t195 = true then (if (!(((rd_T24 t180 (ji73)).f0) == x189000_60) || (!(((rd_T24 t180 (ji73)).f1) == x189001_60) || (!(((rd_T24 t180 (ji73)).f2) == x189002_60) || (!((((rd_T24 t180 (ji73)).f3).toList) == x189003_60.toList) || (!((((rd_T24 t180 (ji73)).f4).toList) == x189004_60.toList)))))) = true then (some false) else (laws_FnSemverIncRun.l0 kj60 t180 false l1 (l1.length : Int) ji73 x189000_60 x189001_60 x189002_60 x189003_60 x189004_60)) else (some false))) else (none)) else (some false))) else (none)) else (none)) = some r := by first | (rw [hji73] at H; exact H) | (simp only [hji73] at H ⊢; exact H)
                have hji73w : (IntKind.i64.wrap (x56_3 + 1)) = ji73 := (i64_w _).trans hji73
                by_cases c74 : 0 ≤ (ji73)
                ·rw [if_pos c74] at H
                 have c74b0 : decide (0 ≤ (ji73)) = true := decide_eq_true c74
                 clear c74
                 by_cases c75 : (ji73) < (t180.length : Int)
                 ·rw [if_pos c75] at H
                  have c75b0 : decide ((ji73) < (t180.length : Int)) = true := decide_eq_true c75
                  clear c75
                  replace H := Option.bind_eq_some_iff.mp H
                  obtain ⟨t192, A760, H⟩ := H
                  replace H : (if t192 = true then (if 0 < (t180.length : Int) then ((impl_VersionLess.f kj60 ((rd_T24 t180 0).f0) ((rd_T24 t180 0).f1) ((rd_T24 t180 0).f2) ((rd_T24 t180 0).f3) ((rd_T24 t180 0).f4) ((rd_T24 t180 (ji73)).f0) ((rd_T24 t180 (ji73)).f1) ((rd_T24 t180 (ji73)).f2) ((rd_T24 t180 (ji73)).f3) ((rd_T24 t180 (ji73)).f4)).bind fun t195 => (if t195 = true then (if (!(((rd_T24 t180 (ji73)).f0) == x189000_60) || (!(((rd_T24 t180 (ji73)).f1) == x189001_60) || (!(((rd_T24 t180 (ji73)).f2) == x189002_60) || (!((((rd_T24 t180 (ji73)).f3).toList) == x189003_60.toList) || (!((((rd_T24 t180 (ji73)).f4).toList) == x189004_60.toList)))))) = true then (some false) else (laws_FnSemverIncRun.l0 kj60 t180 false l1 (l1.length : Int) ji73 x189000_60 x189001_60 x189002_60 x189003_60 x189004_60)) else (some false))) else (none)) else (some false)) = some r := H
                  have A76 := Aside0.mk A760
                  clear A760
                  by_cases c77 : t192 = true
                  ·subst c77
                   have H1 : (if 0 < (t180.length : Int) then ((impl_VersionLess.f kj60 ((rd_T24 t180 0).f0) ((rd_T24 t180 0).f1) ((rd_T24 t180 0).f2) ((rd_T24 t180 0).f3) ((rd_T24 t180 0).f4) ((rd_T24 t180 (ji73)).f0) ((rd_T24 t180 (ji73)).f1) ((rd_T24 t180 (ji73)).f2) ((rd_T24 t180 (ji73)).f3) ((rd_T24 t180 (ji73)).f4)).bind fun t195 => (if t195 = true then (if (!(((rd_T24 t180 (ji73)).f0) == x189000_60) || (!(((rd_T24 t180 (ji73)).f1) == x189001_60) || (!(((rd_T24 t180 (ji73)).f2) == x189002_60) || (!((((rd_T24 t180 (ji73)).f3).toList) == x189003_60.toList) || (!((((rd_T24 t180 (ji73)).f4).toList) == x189004_60.toList)))))) = true then (some false) else (laws_FnSemverIncRun.l0 kj60 t180 false l1 (l1.length : Int) ji73 x189000_60 x189001_60 x189002_60 x189003_60 x189004_60)) else (some false))) else (none)) = some r := by rw [if_pos rfl] at H; exact H
                   clear H
                   have H := H1
                   clear H1
                   by_cases c78 : 0 < (t180.length : Int)
                   ·rw [if_pos c78] at H
                    have c78b0 : decide (0 < (t180.length : Int)) = true := decide_eq_true c78
                    have c78b1 : decide (0 < t180.length) = true := decide_eq_true (by omega)
                    clear c78
                    replace H := Option.bind_eq_some_iff.mp H
                    obtain ⟨t195, A790, H⟩ := H
                    replace H : (if t195 = true then (if (!(((rd_T24 t180 (ji73)).f0) == x189000_60) || (!(((rd_T24 t180 (ji73)).f1) == x189001_60) || (!(((rd_T24 t180 (ji73)).f2) == x189002_60) || (!((((rd_T24 t180 (ji73)).f3).toList) == x189003_60.toList) || (!((((rd_T24 t180 (ji73)).f4).toList) == x189004_60.toList)))))) = true then (some false) else (laws_FnSemverIncRun.l0 kj60 t180 false l1 (l1.length : Int) ji73 x189000_60 x189001_60 x189002_60 x189003_60 x189004_60)) else (some false)) = some r := H
                    have A79 := Aside0.mk A790
                    clear A790
                    by_cases c80 : t195 = true
                    ·subst c80
                     have H1 : (if (!(((rd_T24 t180 (ji73)).f0) == x189000_60) || (!(((rd_T24 t180 (ji73)).f1) == x189001_60) || (!(((rd_T24 t180 (ji73)).f2) == x189002_60) || (!((((rd_T24 t180 (ji73)).f3).toList) == x189003_60.toList) || (!((((rd_T24 t180 (ji73)).f4).toList) == x189004_60.toList)))))) = true then (some false) else (laws_FnSemverIncRun.l0 kj60 t180 false l1 (l1.length : Int) ji73 x189000_60 x189001_60 x189002_60 x189003_60 x189004_60)) = some r := by rw [if_pos rfl] at H; exact H
                     clear H
                     have H := H1
                     clear H1
                     by_cases c81 : (!(((rd_T24 t180 (ji73)).f0) == x189000_60) || (!(((rd_T24 t180 (ji73)).f1) == x189001_60) || (!(((rd_T24 t180 (ji73)).f2) == x189002_60) || (!((((rd_T24 t180 (ji73)).f3).toList) == x189003_60.toList) || (!((((rd_T24 t180 (ji73)).f4).toList) == x189004_60.toList)))))) = true
                     ·rw [if_pos c81] at H
                      have c81b0 : (!(((rd_T24 t180 (ji73)).f0) == x189000_60) || (!(((rd_T24 t180 (ji73)).f1) == x189001_60) || (!(((rd_T24 t180 (ji73)).f2) == x189002_60) || (!((((rd_T24 t180 (ji73)).f3).toList) == x189003_60.toList) || (!((((rd_T24 t180 (ji73)).f4).toList) == x189004_60.toList)))))) = true := c81
                      clear c81
                      obtain rfl := Option.some.inj H
                      try go_wp2
                      have n0_ := Aside0.mk (Kd.R_drew HO_5.out)
                      have n1_ := Aside0.mk (blk_drew BK173.out)
                      have n2_ := Aside0.mk (blk_drew BK188.out)
                      have n3_ := Aside0.mk (below_drew1 HB.out)
                      clear HO_5
                      clear BK173
                      clear BK188
                      clear HB
                      have HO_5 := n0_
                      have BK173 := n1_
                      have BK188 := n2_
                      have HB := n3_
                      clear n0_ n1_ n2_ n3_
                      obtain ⟨Ao83, co83, eo83⟩ := Kd.R_slice HO_5.out
                      (first | subst eo83 | (injection eo83 with f1_ f2_ f3_; have f4_ := f1_.symm; have f5_ := f3_.symm; clear f1_ f2_ f3_; subst f4_; subst f5_))
                      have p190 : 0 ≤ (x56_3 : Int) := of_decide_eq_true (by first | (with_reducible assumption) | assumption)
                      have q190 : x56_3 < (t180.length : Int) := of_decide_eq_true (by first | (with_reducible assumption) | assumption)
                      obtain ⟨ad190, e190, hx190_0, hx190_1, hx190_2, hx190_3, hx190_4⟩ := at_T24 (Kd.R_reads' HO_5.out).2.2 x56_3 p190 q190
                      cases e190
                      replace p190 := eq_true p190
                      replace q190 := eq_true q190
                      have p191 : 0 ≤ ((ji73) : Int) := of_decide_eq_true (by first | (with_reducible assumption) | assumption)
                      have q191 : (ji73) < (t180.length : Int) := of_decide_eq_true (by first | (with_reducible assumption) | assumption)
                      obtain ⟨ad191, e191, hx191_0, hx191_1, hx191_2, hx191_3, hx191_4⟩ := at_T24 (Kd.R_reads' HO_5.out).2.2 (ji73) p191 q191
                      obtain rfl : ad190 = ad191 := (by injection e191)
                      replace p191 := eq_true p191
                      replace q191 := eq_true q191
                      have p193 : 0 ≤ (0 : Int) := (by omega)
                      have q193 : 0 < (t180.length : Int) := of_decide_eq_true (by first | (with_reducible assumption) | assumption)
                      obtain ⟨ad193, e193, hx193_0, hx193_1, hx193_2, hx193_3, hx193_4⟩ := at_T24 (Kd.R_reads' HO_5.out).2.2 0 p193 q193
                      obtain rfl : ad190 = ad193 := (by injection e193)
                      have qi193 : (0 < t180.length) = True := eq_true (by omega)
                      (try rw [show ((0 : Int)).toNat = 0 from rfl] at hx193_0)
                      (try rw [show 0 * 5 = 0 from rfl] at hx193_0)
                      (try rw [Addr.add_zero'] at hx193_0)
                      (try rw [show ((0 : Int)).toNat = 0 from rfl] at hx193_1)
                      (try rw [show 0 * 5 = 0 from rfl] at hx193_1)
                      (try rw [Addr.add_zero'] at hx193_1)
                      (try rw [show ((0 : Int)).toNat = 0 from rfl] at hx193_2)
                      (try rw [show 0 * 5 = 0 from rfl] at hx193_2)
                      (try rw [Addr.add_zero'] at hx193_2)
                      (try rw [show ((0 : Int)).toNat = 0 from rfl] at hx193_3)
                      (try rw [show 0 * 5 = 0 from rfl] at hx193_3)
                      (try rw [Addr.add_zero'] at hx193_3)
                      (try rw [show ((0 : Int)).toNat = 0 from rfl] at hx193_4)
                      (try rw [show 0 * 5 = 0 from rfl] at hx193_4)
                      (try rw [Addr.add_zero'] at hx193_4)
                      replace p193 := eq_true p193
                      replace q193 := eq_true q193
                      have p194 : 0 ≤ ((ji73) : Int) := of_decide_eq_true (by first | (with_reducible assumption) | assumption)
                      have q194 : (ji73) < (t180.length : Int) := of_decide_eq_true (by first | (with_reducible assumption) | assumption)
                      obtain ⟨ad194, e194, hx194_0, hx194_1, hx194_2, hx194_3, hx194_4⟩ := at_T24 (Kd.R_reads' HO_5.out).2.2 (ji73) p194 q194
                      obtain rfl : ad190 = ad194 := (by injection e194)
                      replace p194 := eq_true p194
                      replace q194 := eq_true q194
                      have p196 : 0 ≤ ((ji73) : Int) := of_decide_eq_true (by first | (with_reducible assumption) | assumption)
                      have q196 : (ji73) < (t180.length : Int) := of_decide_eq_true (by first | (with_reducible assumption) | assumption)
                      obtain ⟨ad196, e196, hx196_0, hx196_1, hx196_2, hx196_3, hx196_4⟩ := at_T24 (Kd.R_reads' HO_5.out).2.2 (ji73) p196 q196
                      obtain rfl : ad190 = ad196 := (by injection e196)
                      replace p196 := eq_true p196
                      replace q196 := eq_true q196
                      refine start_ (n := 32) (S := fun w' => w'.cell? ⟨gb188, 0, none⟩ = some (.int .u64 x189000_60) ∧ w'.cell? ⟨gb188, 1, none⟩ = some (.int .u64 x189001_60) ∧ w'.cell? ⟨gb188, 2, none⟩ = some (.int .u64 x189002_60) ∧ w'.cell? ⟨gb188, 3, none⟩ = some (.string x189003_60) ∧ w'.cell? ⟨gb188, 4, none⟩ = some (.string x189004_60) ∧ w'.cell? (ad190.add ((x56_3).toNat * 5)) = some (.int .u64 ((rd_T24 t180 x56_3).f0)) ∧ w'.cell? ⟨(ad190.add ((x56_3).toNat * 5)).block, (ad190.add ((x56_3).toNat * 5)).off + 1, none⟩ = some (.int .u64 ((rd_T24 t180 x56_3).f1)) ∧ w'.cell? ⟨(ad190.add ((x56_3).toNat * 5)).block, (ad190.add ((x56_3).toNat * 5)).off + 2, none⟩ = some (.int .u64 ((rd_T24 t180 x56_3).f2)) ∧ w'.cell? ⟨(ad190.add ((x56_3).toNat * 5)).block, (ad190.add ((x56_3).toNat * 5)).off + 3, none⟩ = some (.string ((rd_T24 t180 x56_3).f3)) ∧ w'.cell? ⟨(ad190.add ((x56_3).toNat * 5)).block, (ad190.add ((x56_3).toNat * 5)).off + 4, none⟩ = some (.string ((rd_T24 t180 x56_3).f4)) ∧ w'.cell? (ad190.add (((ji73)).toNat * 5)) = some (.int .u64 ((rd_T24 t180 (ji73)).f0)) ∧ w'.cell? ⟨(ad190.add (((ji73)).toNat * 5)).block, (ad190.add (((ji73)).toNat * 5)).off + 1, none⟩ = some (.int .u64 ((rd_T24 t180 (ji73)).f1)) ∧ w'.cell? ⟨(ad190.add (((ji73)).toNat * 5)).block, (ad190.add (((ji73)).toNat * 5)).off + 2, none⟩ = some (.int .u64 ((rd_T24 t180 (ji73)).f2)) ∧ w'.cell? ⟨(ad190.add (((ji73)).toNat * 5)).block, (ad190.add (((ji73)).toNat * 5)).off + 3, none⟩ = some (.string ((rd_T24 t180 (ji73)).f3)) ∧ w'.cell? ⟨(ad190.add (((ji73)).toNat * 5)).block, (ad190.add (((ji73)).toNat * 5)).off + 4, none⟩ = some (.string ((rd_T24 t180 (ji73)).f4)) ∧ w'.cell? ad190 = some (.int .u64 ((rd_T24 t180 0).f0)) ∧ w'.cell? ⟨ad190.block, ad190.off + 1, none⟩ = some (.int .u64 ((rd_T24 t180 0).f1)) ∧ w'.cell? ⟨ad190.block, ad190.off + 2, none⟩ = some (.int .u64 ((rd_T24 t180 0).f2)) ∧ w'.cell? ⟨ad190.block, ad190.off + 3, none⟩ = some (.string ((rd_T24 t180 0).f3)) ∧ w'.cell? ⟨ad190.block, ad190.off + 4, none⟩ = some (.string ((rd_T24 t180 0).f4)) ∧ w'.cell? (ad190.add (((ji73)).toNat * 5)) = some (.int .u64 ((rd_T24 t180 (ji73)).f0)) ∧ w'.cell? ⟨(ad190.add (((ji73)).toNat * 5)).block, (ad190.add (((ji73)).toNat * 5)).off + 1, none⟩ = some (.int .u64 ((rd_T24 t180 (ji73)).f1)) ∧ w'.cell? ⟨(ad190.add (((ji73)).toNat * 5)).block, (ad190.add (((ji73)).toNat * 5)).off + 2, none⟩ = some (.int .u64 ((rd_T24 t180 (ji73)).f2)) ∧ w'.cell? ⟨(ad190.add (((ji73)).toNat * 5)).block, (ad190.add (((ji73)).toNat * 5)).off + 3, none⟩ = some (.string ((rd_T24 t180 (ji73)).f3)) ∧ w'.cell? ⟨(ad190.add (((ji73)).toNat * 5)).block, (ad190.add (((ji73)).toNat * 5)).off + 4, none⟩ = some (.string ((rd_T24 t180 (ji73)).f4)) ∧ w'.cell? (ad190.add (((ji73)).toNat * 5)) = some (.int .u64 ((rd_T24 t180 (ji73)).f0)) ∧ w'.cell? ⟨(ad190.add (((ji73)).toNat * 5)).block, (ad190.add (((ji73)).toNat * 5)).off + 1, none⟩ = some (.int .u64 ((rd_T24 t180 (ji73)).f1)) ∧ w'.cell? ⟨(ad190.add (((ji73)).toNat * 5)).block, (ad190.add (((ji73)).toNat * 5)).off + 2, none⟩ = some (.int .u64 ((rd_T24 t180 (ji73)).f2)) ∧ w'.cell? ⟨(ad190.add (((ji73)).toNat * 5)).block, (ad190.add (((ji73)).toNat * 5)).off + 3, none⟩ = some (.string ((rd_T24 t180 (ji73)).f3)) ∧ w'.cell? ⟨(ad190.add (((ji73)).toNat * 5)).block, (ad190.add (((ji73)).toNat * 5)).off + 4, none⟩ = some (.string ((rd_T24 t180 (ji73)).f4))) (ds := []) #[false, false, false, false, false, false, false, false, false, false, false, false, false, false, false, false, false, false, false, false, false, false, false, false, false, false, false, false, false, false, false, false] (by kernel_rfl) rfl rfl ⟨(blk_cell BK188.out 0).trans rfl, (blk_cell BK188.out 1).trans rfl, (blk_cell BK188.out 2).trans rfl, (blk_cell BK188.out 3).trans rfl, (blk_cell BK188.out 4).trans rfl, hx190_0, hx190_1, hx190_2, hx190_3, hx190_4, hx191_0, hx191_1, hx191_2, hx191_3, hx191_4, hx193_0, hx193_1, hx193_2, hx193_3, hx193_4, hx194_0, hx194_1, hx194_2, hx194_3, hx194_4, hx196_0, hx196_1, hx196_2, hx196_3, hx196_4⟩ (fun hHeld => ?_); refine with_tabW laws_FnSemverIncRun.tab16 laws_FnSemverIncRun.bits16 (fun HT_ HW_ => ?_)
                      generalize wc.drew = w82 at HO_5 BK173 BK188 HB hx190_0 hx190_1 hx190_2 hx190_3 hx190_4 hx191_0 hx191_1 hx191_2 hx191_3 hx191_4 hx193_0 hx193_1 hx193_2 hx193_3 hx193_4 hx194_0 hx194_1 hx194_2 hx194_3 hx194_4 hx196_0 hx196_1 hx196_2 hx196_3 hx196_4 hHeld ⊢
                      refine pure_ (i := 0) (N := some 83) (v := ?_) (a' := ?_) #[true, false, false, false, false, false, false, false, false, false, false, false, false, false, false, false, false, false, false, false, false, false, false, false, false, false, false, false, false, false, false, false] rfl rfl (any_of HT_.out (by kernel_rfl)) (fun _ _ _ h => h) (Or.inl ⟨by rfl, ?_⟩) ?_ ?_
                      rotate_left
                      ·intro w'
                       go_simp
                       with_reducible rfl
                      rotate_left
                      ·simp only [Act.put, List.setIfInBounds_toArray, List.set_cons_zero, List.set_cons_succ, i64_w, i32_w]
                       rfl
                      refine pure_ (i := 1) (N := some 84) (v := ?_) (a' := ?_) #[true, true, false, false, false, false, false, false, false, false, false, false, false, false, false, false, false, false, false, false, false, false, false, false, false, false, false, false, false, false, false, false] rfl rfl (any_of HT_.out (by kernel_rfl)) (fun _ _ _ h => h) (Or.inl ⟨by rfl, ?_⟩) ?_ ?_
                      rotate_left
                      ·intro w'
                       go_simp
                       with_reducible rfl
                      rotate_left
                      ·simp only [Act.put, List.setIfInBounds_toArray, List.set_cons_zero, List.set_cons_succ, i64_w, i32_w]
                       rfl
                      refine pure_ (i := 2) (N := some 85) (v := ?_) (a' := ?_) #[true, true, true, false, false, false, false, false, false, false, false, false, false, false, false, false, false, false, false, false, false, false, false, false, false, false, false, false, false, false, false, false] rfl rfl (any_of HT_.out (by kernel_rfl)) (fun _ _ _ h => h) (Or.inl ⟨by rfl, ?_⟩) ?_ ?_
                      rotate_left
                      ·intro w'
                       go_simp
                       with_reducible rfl
                      rotate_left
                      ·simp only [Act.put, List.setIfInBounds_toArray, List.set_cons_zero, List.set_cons_succ, i64_w, i32_w]
                       rfl
                      refine pure_ (i := 4) (N := some 87) (v := ?_) (a' := ?_) #[true, true, true, false, true, false, false, false, false, false, false, false, false, false, false, false, false, false, false, false, false, false, false, false, false, false, false, false, false, false, false, false] rfl rfl (any_of HT_.out (by kernel_rfl)) (fun _ _ _ h => h) (Or.inl ⟨by rfl, ?_⟩) ?_ ?_
                      rotate_left
                      ·intro w'
                       go_simp
                       with_reducible rfl
                      rotate_left
                      ·simp only [Act.put, List.setIfInBounds_toArray, List.set_cons_zero, List.set_cons_succ, i64_w, i32_w]
                       rfl
                      refine pure_ (i := 5) (N := some 88) (v := ?_) (a' := ?_) #[true, true, true, false, true, true, false, false, false, false, false, false, false, false, false, false, false, false, false, false, false, false, false, false, false, false, false, false, false, false, false, false] rfl rfl (any_of HT_.out (by kernel_rfl)) (fun _ _ _ h => h) (Or.inl ⟨by rfl, ?_⟩) ?_ ?_
                      rotate_left
                      ·intro w'
                       go_simp
                       with_reducible rfl
                      rotate_left
                      ·simp only [Act.put, List.setIfInBounds_toArray, List.set_cons_zero, List.set_cons_succ, i64_w, i32_w]
                       rfl
                      refine pure_ (i := 6) (N := some 89) (v := ?_) (a' := ?_) #[true, true, true, false, true, true, true, false, false, false, false, false, false, false, false, false, false, false, false, false, false, false, false, false, false, false, false, false, false, false, false, false] rfl rfl (any_of HT_.out (by kernel_rfl)) (fun _ _ _ h => h) (Or.inl ⟨by rfl, ?_⟩) ?_ ?_
                      rotate_left
                      ·intro w'
                       go_simp
                       with_reducible rfl
                      rotate_left
                      ·simp only [Act.put, List.setIfInBounds_toArray, List.set_cons_zero, List.set_cons_succ, i64_w, i32_w]
                       rfl
                      refine pure_ (i := 7) (N := some 90) (v := ?_) (a' := ?_) #[true, true, true, false, true, true, true, true, false, false, false, false, false, false, false, false, false, false, false, false, false, false, false, false, false, false, false, false, false, false, false, false] rfl rfl (any_of HT_.out (by kernel_rfl)) (fun _ _ _ h => h) (Or.inl ⟨by rfl, ?_⟩) ?_ ?_
                      rotate_left
                      ·intro w'
                       go_simp
                       with_reducible rfl
                      rotate_left
                      ·simp only [Act.put, List.setIfInBounds_toArray, List.set_cons_zero, List.set_cons_succ, i64_w, i32_w]
                       rfl
                      refine take_ (i := 3) (N := some 86) (v := ?_) (a' := ?_) #[true, true, true, true, true, true, true, true, false, false, false, false, false, false, false, false, false, false, false, false, false, false, false, false, false, false, false, false, false, false, false, false] rfl rfl (take_ofW HT_.out HW_.out (by kernel_rfl)) (fun _ _ _ h => h) (Or.inl ⟨by rfl, ?_⟩) hHeld ?_ ?_
                      rotate_left
                      ·rintro w' ⟨s0, s1, s2, s3, s4, s5, s6, s7, s8, s9, s10, s11, s12, s13, s14, s15, s16, s17, s18, s19, s20, s21, s22, s23, s24, s25, s26, s27, s28, s29⟩
                       go_simp
                       with_reducible rfl
                      rotate_left
                      ·simp only [Act.put, List.setIfInBounds_toArray, List.set_cons_zero, List.set_cons_succ, i64_w, i32_w]
                       rfl
                      refine take_ (i := 8) (N := some 91) (v := ?_) (a' := ?_) #[true, true, true, true, true, true, true, true, true, false, false, false, false, false, false, false, false, false, false, false, false, false, false, false, false, false, false, false, false, false, false, false] rfl rfl (take_ofW HT_.out HW_.out (by kernel_rfl)) (fun _ _ _ h => h) (Or.inl ⟨by rfl, ?_⟩) hHeld ?_ ?_
                      rotate_left
                      ·rintro w' ⟨s0, s1, s2, s3, s4, s5, s6, s7, s8, s9, s10, s11, s12, s13, s14, s15, s16, s17, s18, s19, s20, s21, s22, s23, s24, s25, s26, s27, s28, s29⟩
                       go_simp
                       with_reducible rfl
                      rotate_left
                      ·simp only [Act.put, List.setIfInBounds_toArray, List.set_cons_zero, List.set_cons_succ, i64_w, i32_w]
                       rfl
                      refine one_ (i := 9) (N := some 92) #[true, true, true, true, true, true, true, true, true, true, false, false, false, false, false, false, false, false, false, false, false, false, false, false, false, false, false, false, false, false, false, false] rfl rfl (one_of HT_.out (by kernel_rfl)) (by decide) (fun K hK => ?_)
                      refine goes_ Tryd.func29 (by kernel_rfl) rfl #[.agg #[.int .u64 ((rd_T24 t180 x56_3).f0), .int .u64 ((rd_T24 t180 x56_3).f1), .int .u64 ((rd_T24 t180 x56_3).f2), .string ((rd_T24 t180 x56_3).f3), .string ((rd_T24 t180 x56_3).f4)], .agg #[.int .u64 ((rd_T24 t180 (ji73)).f0), .int .u64 ((rd_T24 t180 (ji73)).f1), .int .u64 ((rd_T24 t180 (ji73)).f2), .string ((rd_T24 t180 (ji73)).f3), .string ((rd_T24 t180 (ji73)).f4)]] (by rfl) rfl rfl (by (try simp only [List.map_toArray, List.map_cons, List.map_nil]); first | done | (simp only [hji73]; rfl) | rfl | (simp only [List.length_drop, List.length_take]; rfl)) ?_
                      with_reducible refine (impl_VersionLess.calls kj60 ((rd_T24 t180 x56_3).f0) ((rd_T24 t180 x56_3).f1) ((rd_T24 t180 x56_3).f2) ((rd_T24 t180 x56_3).f3) ((rd_T24 t180 x56_3).f4) ((rd_T24 t180 (ji73)).f0) ((rd_T24 t180 (ji73)).f1) ((rd_T24 t180 (ji73)).f2) ((rd_T24 t180 (ji73)).f3) ((rd_T24 t180 (ji73)).f4) true _ ?side1 A76.out).mono ?_
                      (case side1 => exact globE_below HGE.out (by repeat (first | (with_reducible first | exact HB.out | apply below_alloc | apply pw_below_drewN | apply below_drew1 | refine below_set ?_ GE173.out | refine below_set ?_ GE188.out) | exact HB.out)))
                      rintro e w84 ⟨rfl, hb⟩
                      have HS5_ := (hb.cell (World.block_lt_of_cell? _ _ (hHeld.2.2.2.2.2.1))).trans (hHeld.2.2.2.2.2.1)
                      have HS6_ := (hb.cell (World.block_lt_of_cell? _ _ (hHeld.2.2.2.2.2.2.1))).trans (hHeld.2.2.2.2.2.2.1)
                      have HS7_ := (hb.cell (World.block_lt_of_cell? _ _ (hHeld.2.2.2.2.2.2.2.1))).trans (hHeld.2.2.2.2.2.2.2.1)
                      have HS8_ := (hb.cell (World.block_lt_of_cell? _ _ (hHeld.2.2.2.2.2.2.2.2.1))).trans (hHeld.2.2.2.2.2.2.2.2.1)
                      have HS9_ := (hb.cell (World.block_lt_of_cell? _ _ (hHeld.2.2.2.2.2.2.2.2.2.1))).trans (hHeld.2.2.2.2.2.2.2.2.2.1)
                      have HS10_ := (hb.cell (World.block_lt_of_cell? _ _ (hHeld.2.2.2.2.2.2.2.2.2.2.1))).trans (hHeld.2.2.2.2.2.2.2.2.2.2.1)
                      have HS11_ := (hb.cell (World.block_lt_of_cell? _ _ (hHeld.2.2.2.2.2.2.2.2.2.2.2.1))).trans (hHeld.2.2.2.2.2.2.2.2.2.2.2.1)
                      have HS12_ := (hb.cell (World.block_lt_of_cell? _ _ (hHeld.2.2.2.2.2.2.2.2.2.2.2.2.1))).trans (hHeld.2.2.2.2.2.2.2.2.2.2.2.2.1)
                      have HS13_ := (hb.cell (World.block_lt_of_cell? _ _ (hHeld.2.2.2.2.2.2.2.2.2.2.2.2.2.1))).trans (hHeld.2.2.2.2.2.2.2.2.2.2.2.2.2.1)
                      have HS14_ := (hb.cell (World.block_lt_of_cell? _ _ (hHeld.2.2.2.2.2.2.2.2.2.2.2.2.2.2.1))).trans (hHeld.2.2.2.2.2.2.2.2.2.2.2.2.2.2.1)
                      have HS15_ := (hb.cell (World.block_lt_of_cell? _ _ (hHeld.2.2.2.2.2.2.2.2.2.2.2.2.2.2.2.1))).trans (hHeld.2.2.2.2.2.2.2.2.2.2.2.2.2.2.2.1)
                      have HS16_ := (hb.cell (World.block_lt_of_cell? _ _ (hHeld.2.2.2.2.2.2.2.2.2.2.2.2.2.2.2.2.1))).trans (hHeld.2.2.2.2.2.2.2.2.2.2.2.2.2.2.2.2.1)
                      have HS17_ := (hb.cell (World.block_lt_of_cell? _ _ (hHeld.2.2.2.2.2.2.2.2.2.2.2.2.2.2.2.2.2.1))).trans (hHeld.2.2.2.2.2.2.2.2.2.2.2.2.2.2.2.2.2.1)
                      have HS18_ := (hb.cell (World.block_lt_of_cell? _ _ (hHeld.2.2.2.2.2.2.2.2.2.2.2.2.2.2.2.2.2.2.1))).trans (hHeld.2.2.2.2.2.2.2.2.2.2.2.2.2.2.2.2.2.2.1)
                      have HS19_ := (hb.cell (World.block_lt_of_cell? _ _ (hHeld.2.2.2.2.2.2.2.2.2.2.2.2.2.2.2.2.2.2.2.1))).trans (hHeld.2.2.2.2.2.2.2.2.2.2.2.2.2.2.2.2.2.2.2.1)
                      have HS20_ := (hb.cell (World.block_lt_of_cell? _ _ (hHeld.2.2.2.2.2.2.2.2.2.2.2.2.2.2.2.2.2.2.2.2.1))).trans (hHeld.2.2.2.2.2.2.2.2.2.2.2.2.2.2.2.2.2.2.2.2.1)
                      have HS21_ := (hb.cell (World.block_lt_of_cell? _ _ (hHeld.2.2.2.2.2.2.2.2.2.2.2.2.2.2.2.2.2.2.2.2.2.1))).trans (hHeld.2.2.2.2.2.2.2.2.2.2.2.2.2.2.2.2.2.2.2.2.2.1)
                      have HS22_ := (hb.cell (World.block_lt_of_cell? _ _ (hHeld.2.2.2.2.2.2.2.2.2.2.2.2.2.2.2.2.2.2.2.2.2.2.1))).trans (hHeld.2.2.2.2.2.2.2.2.2.2.2.2.2.2.2.2.2.2.2.2.2.2.1)
                      have HS23_ := (hb.cell (World.block_lt_of_cell? _ _ (hHeld.2.2.2.2.2.2.2.2.2.2.2.2.2.2.2.2.2.2.2.2.2.2.2.1))).trans (hHeld.2.2.2.2.2.2.2.2.2.2.2.2.2.2.2.2.2.2.2.2.2.2.2.1)
                      have HS24_ := (hb.cell (World.block_lt_of_cell? _ _ (hHeld.2.2.2.2.2.2.2.2.2.2.2.2.2.2.2.2.2.2.2.2.2.2.2.2.1))).trans (hHeld.2.2.2.2.2.2.2.2.2.2.2.2.2.2.2.2.2.2.2.2.2.2.2.2.1)
                      have HS25_ := (hb.cell (World.block_lt_of_cell? _ _ (hHeld.2.2.2.2.2.2.2.2.2.2.2.2.2.2.2.2.2.2.2.2.2.2.2.2.2.1))).trans (hHeld.2.2.2.2.2.2.2.2.2.2.2.2.2.2.2.2.2.2.2.2.2.2.2.2.2.1)
                      have HS26_ := (hb.cell (World.block_lt_of_cell? _ _ (hHeld.2.2.2.2.2.2.2.2.2.2.2.2.2.2.2.2.2.2.2.2.2.2.2.2.2.2.1))).trans (hHeld.2.2.2.2.2.2.2.2.2.2.2.2.2.2.2.2.2.2.2.2.2.2.2.2.2.2.1)
                      have HS27_ := (hb.cell (World.block_lt_of_cell? _ _ (hHeld.2.2.2.2.2.2.2.2.2.2.2.2.2.2.2.2.2.2.2.2.2.2.2.2.2.2.2.1))).trans (hHeld.2.2.2.2.2.2.2.2.2.2.2.2.2.2.2.2.2.2.2.2.2.2.2.2.2.2.2.1)
                      have HS28_ := (hb.cell (World.block_lt_of_cell? _ _ (hHeld.2.2.2.2.2.2.2.2.2.2.2.2.2.2.2.2.2.2.2.2.2.2.2.2.2.2.2.2.1))).trans (hHeld.2.2.2.2.2.2.2.2.2.2.2.2.2.2.2.2.2.2.2.2.2.2.2.2.2.2.2.2.1)
                      have HS29_ := (hb.cell (World.block_lt_of_cell? _ _ (hHeld.2.2.2.2.2.2.2.2.2.2.2.2.2.2.2.2.2.2.2.2.2.2.2.2.2.2.2.2.2))).trans (hHeld.2.2.2.2.2.2.2.2.2.2.2.2.2.2.2.2.2.2.2.2.2.2.2.2.2.2.2.2.2)
                      refine ⟨_, rfl, ?_⟩
                      have n0_ := Aside0.mk (Kd.R_below (by (with_reducible repeat (first | apply Kd.R_alloc | apply Kd.R_drewN | apply Kd.R_drew)); exact HO_5.out) hb)
                      have n1_ := Aside0.mk (blk_below (g := gb173) (o := .cells #[.int .u64 a0_0, .int .u64 a0_1, .int .u64 a0_2, .string a0_3, .string a0_4] 24 (0, 0)) (by (with_reducible repeat (first | refine blk_drewN ?_ _ | refine blk_drew ?_ | refine blk_alloc ?_ _)); exact BK173.out) hb)
                      have n2_ := Aside0.mk (blk_below (g := gb188) (o := .cells #[.int .u64 x189000_60, .int .u64 x189001_60, .int .u64 x189002_60, .string x189003_60, .string x189004_60] 24 (0, 0)) (by (with_reducible repeat (first | refine blk_drewN ?_ _ | refine blk_drew ?_ | refine blk_alloc ?_ _)); exact BK188.out) hb)
                      have n3_ := Aside0.mk (below_step (by repeat (first | (with_reducible first | exact HB.out | apply below_alloc | apply pw_below_drewN | apply below_drew1 | refine below_set ?_ GE173.out | refine below_set ?_ GE188.out) | exact HB.out)) hb)
                      clear HO_5
                      clear BK173
                      clear BK188
                      clear HB
                      have HO_5 := n0_
                      have BK173 := n1_
                      have BK188 := n2_
                      have HB := n3_
                      clear n0_ n1_ n2_ n3_
                      (try clear hb)
                      (try clear hb2)
                      (try clear hk)
                      (try clear hi)
                      refine hK.out _ _ ⟨(blk_cell BK188.out 0).trans rfl, (blk_cell BK188.out 1).trans rfl, (blk_cell BK188.out 2).trans rfl, (blk_cell BK188.out 3).trans rfl, (blk_cell BK188.out 4).trans rfl, HS5_, HS6_, HS7_, HS8_, HS9_, HS10_, HS11_, HS12_, HS13_, HS14_, HS15_, HS16_, HS17_, HS18_, HS19_, HS20_, HS21_, HS22_, HS23_, HS24_, HS25_, HS26_, HS27_, HS28_, HS29_⟩ (fun hHeld => ?_)
                      clear hK K
                      refine norm_ (a' := ?_) ?_ ?_
                      rotate_left
                      ·show Act.put _ (some 92) _ = _
                       simp only [Act.put, List.setIfInBounds_toArray, List.set_cons_zero, List.set_cons_succ, i64_w, i32_w]
                       rfl
                      refine pure_ (i := 10) (N := some 93) (v := ?_) (a' := ?_) #[true, true, true, true, true, true, true, true, true, true, true, false, false, false, false, false, false, false, false, false, false, false, false, false, false, false, false, false, false, false, false, false] rfl rfl (any_of HT_.out (by kernel_rfl)) (fun _ _ _ h => h) (Or.inl ⟨by rfl, ?_⟩) ?_ ?_
                      rotate_left
                      ·intro w'
                       go_simp
                       with_reducible rfl
                      rotate_left
                      ·simp only [Act.put, List.setIfInBounds_toArray, List.set_cons_zero, List.set_cons_succ, i64_w, i32_w]
                       rfl
                      refine pure_ (i := 11) (N := some 94) (v := ?_) (a' := ?_) #[true, true, true, true, true, true, true, true, true, true, true, true, false, false, false, false, false, false, false, false, false, false, false, false, false, false, false, false, false, false, false, false] rfl rfl (any_of HT_.out (by kernel_rfl)) (fun _ _ _ h => h) (Or.inl ⟨by rfl, ?_⟩) ?_ ?_
                      rotate_left
                      ·intro w'
                       go_simp
                       with_reducible rfl
                      rotate_left
                      ·simp only [Act.put, List.setIfInBounds_toArray, List.set_cons_zero, List.set_cons_succ, i64_w, i32_w]
                       rfl
                      refine pure_ (i := 12) (N := some 95) (v := ?_) (a' := ?_) #[true, true, true, true, true, true, true, true, true, true, true, true, true, false, false, false, false, false, false, false, false, false, false, false, false, false, false, false, false, false, false, false] rfl rfl (any_of HT_.out (by kernel_rfl)) (fun _ _ _ h => h) (Or.inl ⟨by rfl, ?_⟩) ?_ ?_
                      rotate_left
                      ·intro w'
                       go_simp
                       with_reducible rfl
                      rotate_left
                      ·simp only [Act.put, List.setIfInBounds_toArray, List.set_cons_zero, List.set_cons_succ, i64_w, i32_w]
                       rfl
                      refine pure_ (i := 13) (N := some 96) (v := ?_) (a' := ?_) #[true, true, true, true, true, true, true, true, true, true, true, true, true, true, false, false, false, false, false, false, false, false, false, false, false, false, false, false, false, false, false, false] rfl rfl (any_of HT_.out (by kernel_rfl)) (fun _ _ _ h => h) (Or.inl ⟨by rfl, ?_⟩) ?_ ?_
                      rotate_left
                      ·intro w'
                       go_simp
                       with_reducible rfl
                      rotate_left
                      ·simp only [Act.put, List.setIfInBounds_toArray, List.set_cons_zero, List.set_cons_succ, i64_w, i32_w]
                       rfl
                      refine pure_ (i := 15) (N := some 98) (v := ?_) (a' := ?_) #[true, true, true, true, true, true, true, true, true, true, true, true, true, true, false, true, false, false, false, false, false, false, false, false, false, false, false, false, false, false, false, false] rfl rfl (any_of HT_.out (by kernel_rfl)) (fun _ _ _ h => h) (Or.inl ⟨by rfl, ?_⟩) ?_ ?_
                      rotate_left
                      ·intro w'
                       go_simp
                       with_reducible rfl
                      rotate_left
                      ·simp only [Act.put, List.setIfInBounds_toArray, List.set_cons_zero, List.set_cons_succ, i64_w, i32_w]
                       rfl
                      refine pure_ (i := 16) (N := some 99) (v := ?_) (a' := ?_) #[true, true, true, true, true, true, true, true, true, true, true, true, true, true, false, true, true, false, false, false, false, false, false, false, false, false, false, false, false, false, false, false] rfl rfl (any_of HT_.out (by kernel_rfl)) (fun _ _ _ h => h) (Or.inl ⟨by rfl, ?_⟩) ?_ ?_
                      rotate_left
                      ·intro w'
                       go_simp
                       with_reducible rfl
                      rotate_left
                      ·simp only [Act.put, List.setIfInBounds_toArray, List.set_cons_zero, List.set_cons_succ, i64_w, i32_w]
                       rfl
                      refine pure_ (i := 17) (N := some 100) (v := ?_) (a' := ?_) #[true, true, true, true, true, true, true, true, true, true, true, true, true, true, false, true, true, true, false, false, false, false, false, false, false, false, false, false, false, false, false, false] rfl rfl (any_of HT_.out (by kernel_rfl)) (fun _ _ _ h => h) (Or.inl ⟨by rfl, ?_⟩) ?_ ?_
                      rotate_left
                      ·intro w'
                       go_simp
                       with_reducible rfl
                      rotate_left
                      ·simp only [Act.put, List.setIfInBounds_toArray, List.set_cons_zero, List.set_cons_succ, i64_w, i32_w]
                       rfl
                      refine pure_ (i := 18) (N := some 101) (v := ?_) (a' := ?_) #[true, true, true, true, true, true, true, true, true, true, true, true, true, true, false, true, true, true, true, false, false, false, false, false, false, false, false, false, false, false, false, false] rfl rfl (any_of HT_.out (by kernel_rfl)) (fun _ _ _ h => h) (Or.inl ⟨by rfl, ?_⟩) ?_ ?_
                      rotate_left
                      ·intro w'
                       go_simp
                       with_reducible rfl
                      rotate_left
                      ·simp only [Act.put, List.setIfInBounds_toArray, List.set_cons_zero, List.set_cons_succ, i64_w, i32_w]
                       rfl
                      refine take_ (i := 14) (N := some 97) (v := ?_) (a' := ?_) #[true, true, true, true, true, true, true, true, true, true, true, true, true, true, true, true, true, true, true, false, false, false, false, false, false, false, false, false, false, false, false, false] rfl rfl (take_ofW HT_.out HW_.out (by kernel_rfl)) (fun _ _ _ h => h) (Or.inl ⟨by rfl, ?_⟩) hHeld ?_ ?_
                      rotate_left
                      ·rintro w' ⟨s0, s1, s2, s3, s4, s5, s6, s7, s8, s9, s10, s11, s12, s13, s14, s15, s16, s17, s18, s19, s20, s21, s22, s23, s24, s25, s26, s27, s28, s29⟩
                       go_simp
                       with_reducible rfl
                      rotate_left
                      ·simp only [Act.put, List.setIfInBounds_toArray, List.set_cons_zero, List.set_cons_succ, i64_w, i32_w]
                       rfl
                      refine take_ (i := 19) (N := some 102) (v := ?_) (a' := ?_) #[true, true, true, true, true, true, true, true, true, true, true, true, true, true, true, true, true, true, true, true, false, false, false, false, false, false, false, false, false, false, false, false] rfl rfl (take_ofW HT_.out HW_.out (by kernel_rfl)) (fun _ _ _ h => h) (Or.inl ⟨by rfl, ?_⟩) hHeld ?_ ?_
                      rotate_left
                      ·rintro w' ⟨s0, s1, s2, s3, s4, s5, s6, s7, s8, s9, s10, s11, s12, s13, s14, s15, s16, s17, s18, s19, s20, s21, s22, s23, s24, s25, s26, s27, s28, s29⟩
                       go_simp
                       with_reducible rfl
                      rotate_left
                      ·simp only [Act.put, List.setIfInBounds_toArray, List.set_cons_zero, List.set_cons_succ, i64_w, i32_w]
                       rfl
                      refine one_ (i := 20) (N := some 103) #[true, true, true, true, true, true, true, true, true, true, true, true, true, true, true, true, true, true, true, true, true, false, false, false, false, false, false, false, false, false, false, false] rfl rfl (one_of HT_.out (by kernel_rfl)) (by decide) (fun K hK => ?_)
                      refine goes_ Tryd.func29 (by kernel_rfl) rfl #[.agg #[.int .u64 ((rd_T24 t180 0).f0), .int .u64 ((rd_T24 t180 0).f1), .int .u64 ((rd_T24 t180 0).f2), .string ((rd_T24 t180 0).f3), .string ((rd_T24 t180 0).f4)], .agg #[.int .u64 ((rd_T24 t180 (ji73)).f0), .int .u64 ((rd_T24 t180 (ji73)).f1), .int .u64 ((rd_T24 t180 (ji73)).f2), .string ((rd_T24 t180 (ji73)).f3), .string ((rd_T24 t180 (ji73)).f4)]] (by rfl) rfl rfl (by (try simp only [List.map_toArray, List.map_cons, List.map_nil]); first | done | (simp only [hji73]; rfl) | rfl | (simp only [List.length_drop, List.length_take]; rfl)) ?_
                      with_reducible refine (impl_VersionLess.calls kj60 ((rd_T24 t180 0).f0) ((rd_T24 t180 0).f1) ((rd_T24 t180 0).f2) ((rd_T24 t180 0).f3) ((rd_T24 t180 0).f4) ((rd_T24 t180 (ji73)).f0) ((rd_T24 t180 (ji73)).f1) ((rd_T24 t180 (ji73)).f2) ((rd_T24 t180 (ji73)).f3) ((rd_T24 t180 (ji73)).f4) true _ ?side1 A79.out).mono ?_
                      (case side1 => exact globE_below HGE.out (by repeat (first | (with_reducible first | exact HB.out | apply below_alloc | apply pw_below_drewN | apply below_drew1 | refine below_set ?_ GE173.out | refine below_set ?_ GE188.out) | exact HB.out)))
                      rintro e w85 ⟨rfl, hb⟩
                      have HS5_ := (hb.cell (World.block_lt_of_cell? _ _ (hHeld.2.2.2.2.2.1))).trans (hHeld.2.2.2.2.2.1)
                      have HS6_ := (hb.cell (World.block_lt_of_cell? _ _ (hHeld.2.2.2.2.2.2.1))).trans (hHeld.2.2.2.2.2.2.1)
                      have HS7_ := (hb.cell (World.block_lt_of_cell? _ _ (hHeld.2.2.2.2.2.2.2.1))).trans (hHeld.2.2.2.2.2.2.2.1)
                      have HS8_ := (hb.cell (World.block_lt_of_cell? _ _ (hHeld.2.2.2.2.2.2.2.2.1))).trans (hHeld.2.2.2.2.2.2.2.2.1)
                      have HS9_ := (hb.cell (World.block_lt_of_cell? _ _ (hHeld.2.2.2.2.2.2.2.2.2.1))).trans (hHeld.2.2.2.2.2.2.2.2.2.1)
                      have HS10_ := (hb.cell (World.block_lt_of_cell? _ _ (hHeld.2.2.2.2.2.2.2.2.2.2.1))).trans (hHeld.2.2.2.2.2.2.2.2.2.2.1)
                      have HS11_ := (hb.cell (World.block_lt_of_cell? _ _ (hHeld.2.2.2.2.2.2.2.2.2.2.2.1))).trans (hHeld.2.2.2.2.2.2.2.2.2.2.2.1)
                      have HS12_ := (hb.cell (World.block_lt_of_cell? _ _ (hHeld.2.2.2.2.2.2.2.2.2.2.2.2.1))).trans (hHeld.2.2.2.2.2.2.2.2.2.2.2.2.1)
                      have HS13_ := (hb.cell (World.block_lt_of_cell? _ _ (hHeld.2.2.2.2.2.2.2.2.2.2.2.2.2.1))).trans (hHeld.2.2.2.2.2.2.2.2.2.2.2.2.2.1)
                      have HS14_ := (hb.cell (World.block_lt_of_cell? _ _ (hHeld.2.2.2.2.2.2.2.2.2.2.2.2.2.2.1))).trans (hHeld.2.2.2.2.2.2.2.2.2.2.2.2.2.2.1)
                      have HS15_ := (hb.cell (World.block_lt_of_cell? _ _ (hHeld.2.2.2.2.2.2.2.2.2.2.2.2.2.2.2.1))).trans (hHeld.2.2.2.2.2.2.2.2.2.2.2.2.2.2.2.1)
                      have HS16_ := (hb.cell (World.block_lt_of_cell? _ _ (hHeld.2.2.2.2.2.2.2.2.2.2.2.2.2.2.2.2.1))).trans (hHeld.2.2.2.2.2.2.2.2.2.2.2.2.2.2.2.2.1)
                      have HS17_ := (hb.cell (World.block_lt_of_cell? _ _ (hHeld.2.2.2.2.2.2.2.2.2.2.2.2.2.2.2.2.2.1))).trans (hHeld.2.2.2.2.2.2.2.2.2.2.2.2.2.2.2.2.2.1)
                      have HS18_ := (hb.cell (World.block_lt_of_cell? _ _ (hHeld.2.2.2.2.2.2.2.2.2.2.2.2.2.2.2.2.2.2.1))).trans (hHeld.2.2.2.2.2.2.2.2.2.2.2.2.2.2.2.2.2.2.1)
                      have HS19_ := (hb.cell (World.block_lt_of_cell? _ _ (hHeld.2.2.2.2.2.2.2.2.2.2.2.2.2.2.2.2.2.2.2.1))).trans (hHeld.2.2.2.2.2.2.2.2.2.2.2.2.2.2.2.2.2.2.2.1)
                      have HS20_ := (hb.cell (World.block_lt_of_cell? _ _ (hHeld.2.2.2.2.2.2.2.2.2.2.2.2.2.2.2.2.2.2.2.2.1))).trans (hHeld.2.2.2.2.2.2.2.2.2.2.2.2.2.2.2.2.2.2.2.2.1)
                      have HS21_ := (hb.cell (World.block_lt_of_cell? _ _ (hHeld.2.2.2.2.2.2.2.2.2.2.2.2.2.2.2.2.2.2.2.2.2.1))).trans (hHeld.2.2.2.2.2.2.2.2.2.2.2.2.2.2.2.2.2.2.2.2.2.1)
                      have HS22_ := (hb.cell (World.block_lt_of_cell? _ _ (hHeld.2.2.2.2.2.2.2.2.2.2.2.2.2.2.2.2.2.2.2.2.2.2.1))).trans (hHeld.2.2.2.2.2.2.2.2.2.2.2.2.2.2.2.2.2.2.2.2.2.2.1)
                      have HS23_ := (hb.cell (World.block_lt_of_cell? _ _ (hHeld.2.2.2.2.2.2.2.2.2.2.2.2.2.2.2.2.2.2.2.2.2.2.2.1))).trans (hHeld.2.2.2.2.2.2.2.2.2.2.2.2.2.2.2.2.2.2.2.2.2.2.2.1)
                      have HS24_ := (hb.cell (World.block_lt_of_cell? _ _ (hHeld.2.2.2.2.2.2.2.2.2.2.2.2.2.2.2.2.2.2.2.2.2.2.2.2.1))).trans (hHeld.2.2.2.2.2.2.2.2.2.2.2.2.2.2.2.2.2.2.2.2.2.2.2.2.1)
                      have HS25_ := (hb.cell (World.block_lt_of_cell? _ _ (hHeld.2.2.2.2.2.2.2.2.2.2.2.2.2.2.2.2.2.2.2.2.2.2.2.2.2.1))).trans (hHeld.2.2.2.2.2.2.2.2.2.2.2.2.2.2.2.2.2.2.2.2.2.2.2.2.2.1)
                      have HS26_ := (hb.cell (World.block_lt_of_cell? _ _ (hHeld.2.2.2.2.2.2.2.2.2.2.2.2.2.2.2.2.2.2.2.2.2.2.2.2.2.2.1))).trans (hHeld.2.2.2.2.2.2.2.2.2.2.2.2.2.2.2.2.2.2.2.2.2.2.2.2.2.2.1)
                      have HS27_ := (hb.cell (World.block_lt_of_cell? _ _ (hHeld.2.2.2.2.2.2.2.2.2.2.2.2.2.2.2.2.2.2.2.2.2.2.2.2.2.2.2.1))).trans (hHeld.2.2.2.2.2.2.2.2.2.2.2.2.2.2.2.2.2.2.2.2.2.2.2.2.2.2.2.1)
                      have HS28_ := (hb.cell (World.block_lt_of_cell? _ _ (hHeld.2.2.2.2.2.2.2.2.2.2.2.2.2.2.2.2.2.2.2.2.2.2.2.2.2.2.2.2.1))).trans (hHeld.2.2.2.2.2.2.2.2.2.2.2.2.2.2.2.2.2.2.2.2.2.2.2.2.2.2.2.2.1)
                      have HS29_ := (hb.cell (World.block_lt_of_cell? _ _ (hHeld.2.2.2.2.2.2.2.2.2.2.2.2.2.2.2.2.2.2.2.2.2.2.2.2.2.2.2.2.2))).trans (hHeld.2.2.2.2.2.2.2.2.2.2.2.2.2.2.2.2.2.2.2.2.2.2.2.2.2.2.2.2.2)
                      refine ⟨_, rfl, ?_⟩
                      have n0_ := Aside0.mk (Kd.R_below (by (with_reducible repeat (first | apply Kd.R_alloc | apply Kd.R_drewN | apply Kd.R_drew)); exact HO_5.out) hb)
                      have n1_ := Aside0.mk (blk_below (g := gb173) (o := .cells #[.int .u64 a0_0, .int .u64 a0_1, .int .u64 a0_2, .string a0_3, .string a0_4] 24 (0, 0)) (by (with_reducible repeat (first | refine blk_drewN ?_ _ | refine blk_drew ?_ | refine blk_alloc ?_ _)); exact BK173.out) hb)
                      have n2_ := Aside0.mk (blk_below (g := gb188) (o := .cells #[.int .u64 x189000_60, .int .u64 x189001_60, .int .u64 x189002_60, .string x189003_60, .string x189004_60] 24 (0, 0)) (by (with_reducible repeat (first | refine blk_drewN ?_ _ | refine blk_drew ?_ | refine blk_alloc ?_ _)); exact BK188.out) hb)
                      have n3_ := Aside0.mk (below_step (by repeat (first | (with_reducible first | exact HB.out | apply below_alloc | apply pw_below_drewN | apply below_drew1 | refine below_set ?_ GE173.out | refine below_set ?_ GE188.out) | exact HB.out)) hb)
                      clear HO_5
                      clear BK173
                      clear BK188
                      clear HB
                      have HO_5 := n0_
                      have BK173 := n1_
                      have BK188 := n2_
                      have HB := n3_
                      clear n0_ n1_ n2_ n3_
                      (try clear hb)
                      (try clear hb2)
                      (try clear hk)
                      (try clear hi)
                      refine hK.out _ _ ⟨(blk_cell BK188.out 0).trans rfl, (blk_cell BK188.out 1).trans rfl, (blk_cell BK188.out 2).trans rfl, (blk_cell BK188.out 3).trans rfl, (blk_cell BK188.out 4).trans rfl, HS5_, HS6_, HS7_, HS8_, HS9_, HS10_, HS11_, HS12_, HS13_, HS14_, HS15_, HS16_, HS17_, HS18_, HS19_, HS20_, HS21_, HS22_, HS23_, HS24_, HS25_, HS26_, HS27_, HS28_, HS29_⟩ (fun hHeld => ?_)
                      clear hK K
                      refine norm_ (a' := ?_) ?_ ?_
                      rotate_left
                      ·show Act.put _ (some 103) _ = _
                       simp only [Act.put, List.setIfInBounds_toArray, List.set_cons_zero, List.set_cons_succ, i64_w, i32_w]
                       rfl
                      refine pure_ (i := 21) (N := some 104) (v := ?_) (a' := ?_) #[true, true, true, true, true, true, true, true, true, true, true, true, true, true, true, true, true, true, true, true, true, true, false, false, false, false, false, false, false, false, false, false] rfl rfl (any_of HT_.out (by kernel_rfl)) (fun _ _ _ h => h) (Or.inl ⟨by rfl, ?_⟩) ?_ ?_
                      rotate_left
                      ·intro w'
                       go_simp
                       with_reducible rfl
                      rotate_left
                      ·simp only [Act.put, List.setIfInBounds_toArray, List.set_cons_zero, List.set_cons_succ, i64_w, i32_w]
                       rfl
                      refine pure_ (i := 22) (N := some 105) (v := ?_) (a' := ?_) #[true, true, true, true, true, true, true, true, true, true, true, true, true, true, true, true, true, true, true, true, true, true, true, false, false, false, false, false, false, false, false, false] rfl rfl (any_of HT_.out (by kernel_rfl)) (fun _ _ _ h => h) (Or.inl ⟨by rfl, ?_⟩) ?_ ?_
                      rotate_left
                      ·intro w'
                       go_simp
                       with_reducible rfl
                      rotate_left
                      ·simp only [Act.put, List.setIfInBounds_toArray, List.set_cons_zero, List.set_cons_succ, i64_w, i32_w]
                       rfl
                      refine pure_ (i := 23) (N := some 106) (v := ?_) (a' := ?_) #[true, true, true, true, true, true, true, true, true, true, true, true, true, true, true, true, true, true, true, true, true, true, true, true, false, false, false, false, false, false, false, false] rfl rfl (any_of HT_.out (by kernel_rfl)) (fun _ _ _ h => h) (Or.inl ⟨by rfl, ?_⟩) ?_ ?_
                      rotate_left
                      ·intro w'
                       go_simp
                       with_reducible rfl
                      rotate_left
                      ·simp only [Act.put, List.setIfInBounds_toArray, List.set_cons_zero, List.set_cons_succ, i64_w, i32_w]
                       rfl
                      refine pure_ (i := 24) (N := some 107) (v := ?_) (a' := ?_) #[true, true, true, true, true, true, true, true, true, true, true, true, true, true, true, true, true, true, true, true, true, true, true, true, true, false, false, false, false, false, false, false] rfl rfl (any_of HT_.out (by kernel_rfl)) (fun _ _ _ h => h) (Or.inl ⟨by rfl, ?_⟩) ?_ ?_
                      rotate_left
                      ·intro w'
                       go_simp
                       with_reducible rfl
                      rotate_left
                      ·simp only [Act.put, List.setIfInBounds_toArray, List.set_cons_zero, List.set_cons_succ, i64_w, i32_w]
                       rfl
                      refine pure_ (i := 25) (N := some 108) (v := ?_) (a' := ?_) #[true, true, true, true, true, true, true, true, true, true, true, true, true, true, true, true, true, true, true, true, true, true, true, true, true, true, false, false, false, false, false, false] rfl rfl (any_of HT_.out (by kernel_rfl)) (fun _ _ _ h => h) (Or.inl ⟨by rfl, ?_⟩) ?_ ?_
                      rotate_left
                      ·intro w'
                       go_simp
                       with_reducible rfl
                      rotate_left
                      ·simp only [Act.put, List.setIfInBounds_toArray, List.set_cons_zero, List.set_cons_succ, i64_w, i32_w]
                       rfl
                      refine pure_ (i := 26) (N := some 109) (v := ?_) (a' := ?_) #[true, true, true, true, true, true, true, true, true, true, true, true, true, true, true, true, true, true, true, true, true, true, true, true, true, true, true, false, false, false, false, false] rfl rfl (any_of HT_.out (by kernel_rfl)) (fun _ _ _ h => h) (Or.inl ⟨by rfl, ?_⟩) ?_ ?_
                      rotate_left
                      ·intro w'
                       go_simp
                       with_reducible rfl
                      rotate_left
                      ·simp only [Act.put, List.setIfInBounds_toArray, List.set_cons_zero, List.set_cons_succ, i64_w, i32_w]
                       rfl
                      refine pure_ (i := 27) (N := some 110) (v := ?_) (a' := ?_) #[true, true, true, true, true, true, true, true, true, true, true, true, true, true, true, true, true, true, true, true, true, true, true, true, true, true, true, true, false, false, false, false] rfl rfl (any_of HT_.out (by kernel_rfl)) (fun _ _ _ h => h) (Or.inl ⟨by rfl, ?_⟩) ?_ ?_
                      rotate_left
                      ·intro w'
                       go_simp
                       with_reducible rfl
                      rotate_left
                      ·simp only [Act.put, List.setIfInBounds_toArray, List.set_cons_zero, List.set_cons_succ, i64_w, i32_w]
                       rfl
                      refine take_ (i := 28) (N := some 111) (v := ?_) (a' := ?_) #[true, true, true, true, true, true, true, true, true, true, true, true, true, true, true, true, true, true, true, true, true, true, true, true, true, true, true, true, true, false, false, false] rfl rfl (take_ofW HT_.out HW_.out (by kernel_rfl)) (fun _ _ _ h => h) (Or.inl ⟨by rfl, ?_⟩) hHeld ?_ ?_
                      rotate_left
                      ·rintro w' ⟨s0, s1, s2, s3, s4, s5, s6, s7, s8, s9, s10, s11, s12, s13, s14, s15, s16, s17, s18, s19, s20, s21, s22, s23, s24, s25, s26, s27, s28, s29⟩
                       go_simp
                       with_reducible rfl
                      rotate_left
                      ·simp only [Act.put, List.setIfInBounds_toArray, List.set_cons_zero, List.set_cons_succ, i64_w, i32_w]
                       rfl
                      refine take_ (i := 29) (N := some 112) (v := ?_) (a' := ?_) #[true, true, true, true, true, true, true, true, true, true, true, true, true, true, true, true, true, true, true, true, true, true, true, true, true, true, true, true, true, true, false, false] rfl rfl (take_ofW HT_.out HW_.out (by kernel_rfl)) (fun _ _ _ h => h) (Or.inl ⟨by rfl, ?_⟩) hHeld ?_ ?_
                      rotate_left
                      ·rintro w' ⟨s0, s1, s2, s3, s4, s5, s6, s7, s8, s9, s10, s11, s12, s13, s14, s15, s16, s17, s18, s19, s20, s21, s22, s23, s24, s25, s26, s27, s28, s29⟩
                       go_simp
                       with_reducible rfl
                      rotate_left
                      ·simp only [Act.put, List.setIfInBounds_toArray, List.set_cons_zero, List.set_cons_succ, i64_w, i32_w]
                       rfl
                      refine pure_ (i := 30) (N := some 113) (v := ?_) (a' := ?_) #[true, true, true, true, true, true, true, true, true, true, true, true, true, true, true, true, true, true, true, true, true, true, true, true, true, true, true, true, true, true, true, false] rfl rfl (any_of HT_.out (by kernel_rfl)) (fun _ _ _ h => h) (Or.inl ⟨by rfl, ?_⟩) ?_ ?_
                      rotate_left
                      ·intro w'
                       go_simp
                       with_reducible rfl
                      rotate_left
                      ·simp only [Act.put, List.setIfInBounds_toArray, List.set_cons_zero, List.set_cons_succ, i64_w, i32_w]
                       rfl
                      refine pure_ (i := 31) (N := some 114) (v := ?_) (a' := ?_) #[true, true, true, true, true, true, true, true, true, true, true, true, true, true, true, true, true, true, true, true, true, true, true, true, true, true, true, true, true, true, true, true] rfl rfl (any_of HT_.out (by kernel_rfl)) (fun _ _ _ h => h) (Or.inl ⟨by rfl, ?_⟩) ?_ ?_
                      rotate_left
                      ·intro w'
                       go_simp
                       with_reducible rfl
                      rotate_left
                      ·simp only [Act.put, List.setIfInBounds_toArray, List.set_cons_zero, List.set_cons_succ, i64_w, i32_w]
                       rfl
                      refine done_ (done_of HT_.out (by kernel_rfl)) ?_
                      try go_wp2
                      go_ret
                      exact ⟨by first | rfl | (simp [errW_none, errW_some] <;> rfl) | (simp only [← hji73]; first | rfl | (simp [errW_none, errW_some] <;> rfl)) | (simp [*, errW_none, errW_some] <;> rfl), by repeat (first | (with_reducible first | exact HB.out | apply below_alloc | apply pw_below_drewN | apply below_drew1 | refine below_set ?_ GE173.out | refine below_set ?_ GE188.out) | exact HB.out)⟩
                     ·rw [if_neg c81] at H
                      have c81b0 : (!(((rd_T24 t180 (ji73)).f0) == x189000_60) || (!(((rd_T24 t180 (ji73)).f1) == x189001_60) || (!(((rd_T24 t180 (ji73)).f2) == x189002_60) || (!((((rd_T24 t180 (ji73)).f3).toList) == x189003_60.toList) || (!((((rd_T24 t180 (ji73)).f4).toList) == x189004_60.toList)))))) = false := by simpa using c81
                      clear c81
                      have H' := Aside0.mk H
                      clear H
                      try go_wp2
                      have n0_ := Aside0.mk (Kd.R_drew HO_5.out)
                      have n1_ := Aside0.mk (blk_drew BK173.out)
                      have n2_ := Aside0.mk (blk_drew BK188.out)
                      have n3_ := Aside0.mk (below_drew1 HB.out)
                      clear HO_5
                      clear BK173
                      clear BK188
                      clear HB
                      have HO_5 := n0_
                      have BK173 := n1_
                      have BK188 := n2_
                      have HB := n3_
                      clear n0_ n1_ n2_ n3_
                      obtain ⟨Ao87, co87, eo87⟩ := Kd.R_slice HO_5.out
                      (first | subst eo87 | (injection eo87 with f1_ f2_ f3_; have f4_ := f1_.symm; have f5_ := f3_.symm; clear f1_ f2_ f3_; subst f4_; subst f5_))
                      have p190 : 0 ≤ (x56_3 : Int) := of_decide_eq_true (by first | (with_reducible assumption) | assumption)
                      have q190 : x56_3 < (t180.length : Int) := of_decide_eq_true (by first | (with_reducible assumption) | assumption)
                      obtain ⟨ad190, e190, hx190_0, hx190_1, hx190_2, hx190_3, hx190_4⟩ := at_T24 (Kd.R_reads' HO_5.out).2.2 x56_3 p190 q190
                      cases e190
                      replace p190 := eq_true p190
                      replace q190 := eq_true q190
                      have p191 : 0 ≤ ((ji73) : Int) := of_decide_eq_true (by first | (with_reducible assumption) | assumption)
                      have q191 : (ji73) < (t180.length : Int) := of_decide_eq_true (by first | (with_reducible assumption) | assumption)
                      obtain ⟨ad191, e191, hx191_0, hx191_1, hx191_2, hx191_3, hx191_4⟩ := at_T24 (Kd.R_reads' HO_5.out).2.2 (ji73) p191 q191
                      obtain rfl : ad190 = ad191 := (by injection e191)
                      replace p191 := eq_true p191
                      replace q191 := eq_true q191
                      have p193 : 0 ≤ (0 : Int) := (by omega)
                      have q193 : 0 < (t180.length : Int) := of_decide_eq_true (by first | (with_reducible assumption) | assumption)
                      obtain ⟨ad193, e193, hx193_0, hx193_1, hx193_2, hx193_3, hx193_4⟩ := at_T24 (Kd.R_reads' HO_5.out).2.2 0 p193 q193
                      obtain rfl : ad190 = ad193 := (by injection e193)
                      have qi193 : (0 < t180.length) = True := eq_true (by omega)
                      (try rw [show ((0 : Int)).toNat = 0 from rfl] at hx193_0)
                      (try rw [show 0 * 5 = 0 from rfl] at hx193_0)
                      (try rw [Addr.add_zero'] at hx193_0)
                      (try rw [show ((0 : Int)).toNat = 0 from rfl] at hx193_1)
                      (try rw [show 0 * 5 = 0 from rfl] at hx193_1)
                      (try rw [Addr.add_zero'] at hx193_1)
                      (try rw [show ((0 : Int)).toNat = 0 from rfl] at hx193_2)
                      (try rw [show 0 * 5 = 0 from rfl] at hx193_2)
                      (try rw [Addr.add_zero'] at hx193_2)
                      (try rw [show ((0 : Int)).toNat = 0 from rfl] at hx193_3)
                      (try rw [show 0 * 5 = 0 from rfl] at hx193_3)
                      (try rw [Addr.add_zero'] at hx193_3)
                      (try rw [show ((0 : Int)).toNat = 0 from rfl] at hx193_4)
                      (try rw [show 0 * 5 = 0 from rfl] at hx193_4)
                      (try rw [Addr.add_zero'] at hx193_4)
                      replace p193 := eq_true p193
                      replace q193 := eq_true q193
                      have p194 : 0 ≤ ((ji73) : Int) := of_decide_eq_true (by first | (with_reducible assumption) | assumption)
                      have q194 : (ji73) < (t180.length : Int) := of_decide_eq_true (by first | (with_reducible assumption) | assumption)
                      obtain ⟨ad194, e194, hx194_0, hx194_1, hx194_2, hx194_3, hx194_4⟩ := at_T24 (Kd.R_reads' HO_5.out).2.2 (ji73) p194 q194
                      obtain rfl : ad190 = ad194 := (by injection e194)
                      replace p194 := eq_true p194
                      replace q194 := eq_true q194
                      have p196 : 0 ≤ ((ji73) : Int) := of_decide_eq_true (by first | (with_reducible assumption) | assumption)
                      have q196 : (ji73) < (t180.length : Int) := of_decide_eq_true (by first | (with_reducible assumption) | assumption)
                      obtain ⟨ad196, e196, hx196_0, hx196_1, hx196_2, hx196_3, hx196_4⟩ := at_T24 (Kd.R_reads' HO_5.out).2.2 (ji73) p196 q196
                      obtain rfl : ad190 = ad196 := (by injection e196)
                      replace p196 := eq_true p196
                      replace q196 := eq_true q196
                      refine start_ (n := 32) (S := fun w' => w'.cell? ⟨gb188, 0, none⟩ = some (.int .u64 x189000_60) ∧ w'.cell? ⟨gb188, 1, none⟩ = some (.int .u64 x189001_60) ∧ w'.cell? ⟨gb188, 2, none⟩ = some (.int .u64 x189002_60) ∧ w'.cell? ⟨gb188, 3, none⟩ = some (.string x189003_60) ∧ w'.cell? ⟨gb188, 4, none⟩ = some (.string x189004_60) ∧ w'.cell? (ad190.add ((x56_3).toNat * 5)) = some (.int .u64 ((rd_T24 t180 x56_3).f0)) ∧ w'.cell? ⟨(ad190.add ((x56_3).toNat * 5)).block, (ad190.add ((x56_3).toNat * 5)).off + 1, none⟩ = some (.int .u64 ((rd_T24 t180 x56_3).f1)) ∧ w'.cell? ⟨(ad190.add ((x56_3).toNat * 5)).block, (ad190.add ((x56_3).toNat * 5)).off + 2, none⟩ = some (.int .u64 ((rd_T24 t180 x56_3).f2)) ∧ w'.cell? ⟨(ad190.add ((x56_3).toNat * 5)).block, (ad190.add ((x56_3).toNat * 5)).off + 3, none⟩ = some (.string ((rd_T24 t180 x56_3).f3)) ∧ w'.cell? ⟨(ad190.add ((x56_3).toNat * 5)).block, (ad190.add ((x56_3).toNat * 5)).off + 4, none⟩ = some (.string ((rd_T24 t180 x56_3).f4)) ∧ w'.cell? (ad190.add (((ji73)).toNat * 5)) = some (.int .u64 ((rd_T24 t180 (ji73)).f0)) ∧ w'.cell? ⟨(ad190.add (((ji73)).toNat * 5)).block, (ad190.add (((ji73)).toNat * 5)).off + 1, none⟩ = some (.int .u64 ((rd_T24 t180 (ji73)).f1)) ∧ w'.cell? ⟨(ad190.add (((ji73)).toNat * 5)).block, (ad190.add (((ji73)).toNat * 5)).off + 2, none⟩ = some (.int .u64 ((rd_T24 t180 (ji73)).f2)) ∧ w'.cell? ⟨(ad190.add (((ji73)).toNat * 5)).block, (ad190.add (((ji73)).toNat * 5)).off + 3, none⟩ = some (.string ((rd_T24 t180 (ji73)).f3)) ∧ w'.cell? ⟨(ad190.add (((ji73)).toNat * 5)).block, (ad190.add (((ji73)).toNat * 5)).off + 4, none⟩ = some (.string ((rd_T24 t180 (ji73)).f4)) ∧ w'.cell? ad190 = some (.int .u64 ((rd_T24 t180 0).f0)) ∧ w'.cell? ⟨ad190.block, ad190.off + 1, none⟩ = some (.int .u64 ((rd_T24 t180 0).f1)) ∧ w'.cell? ⟨ad190.block, ad190.off + 2, none⟩ = some (.int .u64 ((rd_T24 t180 0).f2)) ∧ w'.cell? ⟨ad190.block, ad190.off + 3, none⟩ = some (.string ((rd_T24 t180 0).f3)) ∧ w'.cell? ⟨ad190.block, ad190.off + 4, none⟩ = some (.string ((rd_T24 t180 0).f4)) ∧ w'.cell? (ad190.add (((ji73)).toNat * 5)) = some (.int .u64 ((rd_T24 t180 (ji73)).f0)) ∧ w'.cell? ⟨(ad190.add (((ji73)).toNat * 5)).block, (ad190.add (((ji73)).toNat * 5)).off + 1, none⟩ = some (.int .u64 ((rd_T24 t180 (ji73)).f1)) ∧ w'.cell? ⟨(ad190.add (((ji73)).toNat * 5)).block, (ad190.add (((ji73)).toNat * 5)).off + 2, none⟩ = some (.int .u64 ((rd_T24 t180 (ji73)).f2)) ∧ w'.cell? ⟨(ad190.add (((ji73)).toNat * 5)).block, (ad190.add (((ji73)).toNat * 5)).off + 3, none⟩ = some (.string ((rd_T24 t180 (ji73)).f3)) ∧ w'.cell? ⟨(ad190.add (((ji73)).toNat * 5)).block, (ad190.add (((ji73)).toNat * 5)).off + 4, none⟩ = some (.string ((rd_T24 t180 (ji73)).f4)) ∧ w'.cell? (ad190.add (((ji73)).toNat * 5)) = some (.int .u64 ((rd_T24 t180 (ji73)).f0)) ∧ w'.cell? ⟨(ad190.add (((ji73)).toNat * 5)).block, (ad190.add (((ji73)).toNat * 5)).off + 1, none⟩ = some (.int .u64 ((rd_T24 t180 (ji73)).f1)) ∧ w'.cell? ⟨(ad190.add (((ji73)).toNat * 5)).block, (ad190.add (((ji73)).toNat * 5)).off + 2, none⟩ = some (.int .u64 ((rd_T24 t180 (ji73)).f2)) ∧ w'.cell? ⟨(ad190.add (((ji73)).toNat * 5)).block, (ad190.add (((ji73)).toNat * 5)).off + 3, none⟩ = some (.string ((rd_T24 t180 (ji73)).f3)) ∧ w'.cell? ⟨(ad190.add (((ji73)).toNat * 5)).block, (ad190.add (((ji73)).toNat * 5)).off + 4, none⟩ = some (.string ((rd_T24 t180 (ji73)).f4))) (ds := []) #[false, false, false, false, false, false, false, false, false, false, false, false, false, false, false, false, false, false, false, false, false, false, false, false, false, false, false, false, false, false, false, false] (by kernel_rfl) rfl rfl ⟨(blk_cell BK188.out 0).trans rfl, (blk_cell BK188.out 1).trans rfl, (blk_cell BK188.out 2).trans rfl, (blk_cell BK188.out 3).trans rfl, (blk_cell BK188.out 4).trans rfl, hx190_0, hx190_1, hx190_2, hx190_3, hx190_4, hx191_0, hx191_1, hx191_2, hx191_3, hx191_4, hx193_0, hx193_1, hx193_2, hx193_3, hx193_4, hx194_0, hx194_1, hx194_2, hx194_3, hx194_4, hx196_0, hx196_1, hx196_2, hx196_3, hx196_4⟩ (fun hHeld => ?_); refine with_tabW laws_FnSemverIncRun.tab16 laws_FnSemverIncRun.bits16 (fun HT_ HW_ => ?_)
                      generalize wc.drew = w86 at HO_5 BK173 BK188 HB hx190_0 hx190_1 hx190_2 hx190_3 hx190_4 hx191_0 hx191_1 hx191_2 hx191_3 hx191_4 hx193_0 hx193_1 hx193_2 hx193_3 hx193_4 hx194_0 hx194_1 hx194_2 hx194_3 hx194_4 hx196_0 hx196_1 hx196_2 hx196_3 hx196_4 hHeld ⊢
                      refine pure_ (i := 0) (N := some 83) (v := ?_) (a' := ?_) #[true, false, false, false, false, false, false, false, false, false, false, false, false, false, false, false, false, false, false, false, false, false, false, false, false, false, false, false, false, false, false, false] rfl rfl (any_of HT_.out (by kernel_rfl)) (fun _ _ _ h => h) (Or.inl ⟨by rfl, ?_⟩) ?_ ?_
                      rotate_left
                      ·intro w'
                       go_simp
                       with_reducible rfl
                      rotate_left
                      ·simp only [Act.put, List.setIfInBounds_toArray, List.set_cons_zero, List.set_cons_succ, i64_w, i32_w]
                       rfl
                      refine pure_ (i := 1) (N := some 84) (v := ?_) (a' := ?_) #[true, true, false, false, false, false, false, false, false, false, false, false, false, false, false, false, false, false, false, false, false, false, false, false, false, false, false, false, false, false, false, false] rfl rfl (any_of HT_.out (by kernel_rfl)) (fun _ _ _ h => h) (Or.inl ⟨by rfl, ?_⟩) ?_ ?_
                      rotate_left
                      ·intro w'
                       go_simp
                       with_reducible rfl
                      rotate_left
                      ·simp only [Act.put, List.setIfInBounds_toArray, List.set_cons_zero, List.set_cons_succ, i64_w, i32_w]
                       rfl
                      refine pure_ (i := 2) (N := some 85) (v := ?_) (a' := ?_) #[true, true, true, false, false, false, false, false, false, false, false, false, false, false, false, false, false, false, false, false, false, false, false, false, false, false, false, false, false, false, false, false] rfl rfl (any_of HT_.out (by kernel_rfl)) (fun _ _ _ h => h) (Or.inl ⟨by rfl, ?_⟩) ?_ ?_
                      rotate_left
                      ·intro w'
                       go_simp
                       with_reducible rfl
                      rotate_left
                      ·simp only [Act.put, List.setIfInBounds_toArray, List.set_cons_zero, List.set_cons_succ, i64_w, i32_w]
                       rfl
                      refine pure_ (i := 4) (N := some 87) (v := ?_) (a' := ?_) #[true, true, true, false, true, false, false, false, false, false, false, false, false, false, false, false, false, false, false, false, false, false, false, false, false, false, false, false, false, false, false, false] rfl rfl (any_of HT_.out (by kernel_rfl)) (fun _ _ _ h => h) (Or.inl ⟨by rfl, ?_⟩) ?_ ?_
                      rotate_left
                      ·intro w'
                       go_simp
                       with_reducible rfl
                      rotate_left
                      ·simp only [Act.put, List.setIfInBounds_toArray, List.set_cons_zero, List.set_cons_succ, i64_w, i32_w]
                       rfl
                      refine pure_ (i := 5) (N := some 88) (v := ?_) (a' := ?_) #[true, true, true, false, true, true, false, false, false, false, false, false, false, false, false, false, false, false, false, false, false, false, false, false, false, false, false, false, false, false, false, false] rfl rfl (any_of HT_.out (by kernel_rfl)) (fun _ _ _ h => h) (Or.inl ⟨by rfl, ?_⟩) ?_ ?_
                      rotate_left
                      ·intro w'
                       go_simp
                       with_reducible rfl
                      rotate_left
                      ·simp only [Act.put, List.setIfInBounds_toArray, List.set_cons_zero, List.set_cons_succ, i64_w, i32_w]
                       rfl
                      refine pure_ (i := 6) (N := some 89) (v := ?_) (a' := ?_) #[true, true, true, false, true, true, true, false, false, false, false, false, false, false, false, false, false, false, false, false, false, false, false, false, false, false, false, false, false, false, false, false] rfl rfl (any_of HT_.out (by kernel_rfl)) (fun _ _ _ h => h) (Or.inl ⟨by rfl, ?_⟩) ?_ ?_
                      rotate_left
                      ·intro w'
                       go_simp
                       with_reducible rfl
                      rotate_left
                      ·simp only [Act.put, List.setIfInBounds_toArray, List.set_cons_zero, List.set_cons_succ, i64_w, i32_w]
                       rfl
                      refine pure_ (i := 7) (N := some 90) (v := ?_) (a' := ?_) #[true, true, true, false, true, true, true, true, false, false, false, false, false, false, false, false, false, false, false, false, false, false, false, false, false, false, false, false, false, false, false, false] rfl rfl (any_of HT_.out (by kernel_rfl)) (fun _ _ _ h => h) (Or.inl ⟨by rfl, ?_⟩) ?_ ?_
                      rotate_left
                      ·intro w'
                       go_simp
                       with_reducible rfl
                      rotate_left
                      ·simp only [Act.put, List.setIfInBounds_toArray, List.set_cons_zero, List.set_cons_succ, i64_w, i32_w]
                       rfl
                      refine take_ (i := 3) (N := some 86) (v := ?_) (a' := ?_) #[true, true, true, true, true, true, true, true, false, false, false, false, false, false, false, false, false, false, false, false, false, false, false, false, false, false, false, false, false, false, false, false] rfl rfl (take_ofW HT_.out HW_.out (by kernel_rfl)) (fun _ _ _ h => h) (Or.inl ⟨by rfl, ?_⟩) hHeld ?_ ?_
                      rotate_left
                      ·rintro w' ⟨s0, s1, s2, s3, s4, s5, s6, s7, s8, s9, s10, s11, s12, s13, s14, s15, s16, s17, s18, s19, s20, s21, s22, s23, s24, s25, s26, s27, s28, s29⟩
                       go_simp
                       with_reducible rfl
                      rotate_left
                      ·simp only [Act.put, List.setIfInBounds_toArray, List.set_cons_zero, List.set_cons_succ, i64_w, i32_w]
                       rfl
                      refine take_ (i := 8) (N := some 91) (v := ?_) (a' := ?_) #[true, true, true, true, true, true, true, true, true, false, false, false, false, false, false, false, false, false, false, false, false, false, false, false, false, false, false, false, false, false, false, false] rfl rfl (take_ofW HT_.out HW_.out (by kernel_rfl)) (fun _ _ _ h => h) (Or.inl ⟨by rfl, ?_⟩) hHeld ?_ ?_
                      rotate_left
                      ·rintro w' ⟨s0, s1, s2, s3, s4, s5, s6, s7, s8, s9, s10, s11, s12, s13, s14, s15, s16, s17, s18, s19, s20, s21, s22, s23, s24, s25, s26, s27, s28, s29⟩
                       go_simp
                       with_reducible rfl
                      rotate_left
                      ·simp only [Act.put, List.setIfInBounds_toArray, List.set_cons_zero, List.set_cons_succ, i64_w, i32_w]
                       rfl
                      refine one_ (i := 9) (N := some 92) #[true, true, true, true, true, true, true, true, true, true, false, false, false, false, false, false, false, false, false, false, false, false, false, false, false, false, false, false, false, false, false, false] rfl rfl (one_of HT_.out (by kernel_rfl)) (by decide) (fun K hK => ?_)
                      refine goes_ Tryd.func29 (by kernel_rfl) rfl #[.agg #[.int .u64 ((rd_T24 t180 x56_3).f0), .int .u64 ((rd_T24 t180 x56_3).f1), .int .u64 ((rd_T24 t180 x56_3).f2), .string ((rd_T24 t180 x56_3).f3), .string ((rd_T24 t180 x56_3).f4)], .agg #[.int .u64 ((rd_T24 t180 (ji73)).f0), .int .u64 ((rd_T24 t180 (ji73)).f1), .int .u64 ((rd_T24 t180 (ji73)).f2), .string ((rd_T24 t180 (ji73)).f3), .string ((rd_T24 t180 (ji73)).f4)]] (by rfl) rfl rfl (by (try simp only [List.map_toArray, List.map_cons, List.map_nil]); first | done | (simp only [hji73]; rfl) | rfl | (simp only [List.length_drop, List.length_take]; rfl)) ?_
                      with_reducible refine (impl_VersionLess.calls kj60 ((rd_T24 t180 x56_3).f0) ((rd_T24 t180 x56_3).f1) ((rd_T24 t180 x56_3).f2) ((rd_T24 t180 x56_3).f3) ((rd_T24 t180 x56_3).f4) ((rd_T24 t180 (ji73)).f0) ((rd_T24 t180 (ji73)).f1) ((rd_T24 t180 (ji73)).f2) ((rd_T24 t180 (ji73)).f3) ((rd_T24 t180 (ji73)).f4) true _ ?side1 A76.out).mono ?_
                      (case side1 => exact globE_below HGE.out (by repeat (first | (with_reducible first | exact HB.out | apply below_alloc | apply pw_below_drewN | apply below_drew1 | refine below_set ?_ GE173.out | refine below_set ?_ GE188.out) | exact HB.out)))
                      rintro e w88 ⟨rfl, hb⟩
                      have HS5_ := (hb.cell (World.block_lt_of_cell? _ _ (hHeld.2.2.2.2.2.1))).trans (hHeld.2.2.2.2.2.1)
                      have HS6_ := (hb.cell (World.block_lt_of_cell? _ _ (hHeld.2.2.2.2.2.2.1))).trans (hHeld.2.2.2.2.2.2.1)
                      have HS7_ := (hb.cell (World.block_lt_of_cell? _ _ (hHeld.2.2.2.2.2.2.2.1))).trans (hHeld.2.2.2.2.2.2.2.1)
                      have HS8_ := (hb.cell (World.block_lt_of_cell? _ _ (hHeld.2.2.2.2.2.2.2.2.1))).trans (hHeld.2.2.2.2.2.2.2.2.1)
                      have HS9_ := (hb.cell (World.block_lt_of_cell? _ _ (hHeld.2.2.2.2.2.2.2.2.2.1))).trans (hHeld.2.2.2.2.2.2.2.2.2.1)
                      have HS10_ := (hb.cell (World.block_lt_of_cell? _ _ (hHeld.2.2.2.2.2.2.2.2.2.2.1))).trans (hHeld.2.2.2.2.2.2.2.2.2.2.1)
                      have HS11_ := (hb.cell (World.block_lt_of_cell? _ _ (hHeld.2.2.2.2.2.2.2.2.2.2.2.1))).trans (hHeld.2.2.2.2.2.2.2.2.2.2.2.1)
                      have HS12_ := (hb.cell (World.block_lt_of_cell? _ _ (hHeld.2.2.2.2.2.2.2.2.2.2.2.2.1))).trans (hHeld.2.2.2.2.2.2.2.2.2.2.2.2.1)
                      have HS13_ := (hb.cell (World.block_lt_of_cell? _ _ (hHeld.2.2.2.2.2.2.2.2.2.2.2.2.2.1))).trans (hHeld.2.2.2.2.2.2.2.2.2.2.2.2.2.1)
                      have HS14_ := (hb.cell (World.block_lt_of_cell? _ _ (hHeld.2.2.2.2.2.2.2.2.2.2.2.2.2.2.1))).trans (hHeld.2.2.2.2.2.2.2.2.2.2.2.2.2.2.1)
                      have HS15_ := (hb.cell (World.block_lt_of_cell? _ _ (hHeld.2.2.2.2.2.2.2.2.2.2.2.2.2.2.2.1))).trans (hHeld.2.2.2.2.2.2.2.2.2.2.2.2.2.2.2.1)
                      have HS16_ := (hb.cell (World.block_lt_of_cell? _ _ (hHeld.2.2.2.2.2.2.2.2.2.2.2.2.2.2.2.2.1))).trans (hHeld.2.2.2.2.2.2.2.2.2.2.2.2.2.2.2.2.1)
                      have HS17_ := (hb.cell (World.block_lt_of_cell? _ _ (hHeld.2.2.2.2.2.2.2.2.2.2.2.2.2.2.2.2.2.1))).trans (hHeld.2.2.2.2.2.2.2.2.2.2.2.2.2.2.2.2.2.1)
                      have HS18_ := (hb.cell (World.block_lt_of_cell? _ _ (hHeld.2.2.2.2.2.2.2.2.2.2.2.2.2.2.2.2.2.2.1))).trans (hHeld.2.2.2.2.2.2.2.2.2.2.2.2.2.2.2.2.2.2.1)
                      have HS19_ := (hb.cell (World.block_lt_of_cell? _ _ (hHeld.2.2.2.2.2.2.2.2.2.2.2.2.2.2.2.2.2.2.2.1))).trans (hHeld.2.2.2.2.2.2.2.2.2.2.2.2.2.2.2.2.2.2.2.1)
                      have HS20_ := (hb.cell (World.block_lt_of_cell? _ _ (hHeld.2.2.2.2.2.2.2.2.2.2.2.2.2.2.2.2.2.2.2.2.1))).trans (hHeld.2.2.2.2.2.2.2.2.2.2.2.2.2.2.2.2.2.2.2.2.1)
                      have HS21_ := (hb.cell (World.block_lt_of_cell? _ _ (hHeld.2.2.2.2.2.2.2.2.2.2.2.2.2.2.2.2.2.2.2.2.2.1))).trans (hHeld.2.2.2.2.2.2.2.2.2.2.2.2.2.2.2.2.2.2.2.2.2.1)
                      have HS22_ := (hb.cell (World.block_lt_of_cell? _ _ (hHeld.2.2.2.2.2.2.2.2.2.2.2.2.2.2.2.2.2.2.2.2.2.2.1))).trans (hHeld.2.2.2.2.2.2.2.2.2.2.2.2.2.2.2.2.2.2.2.2.2.2.1)
                      have HS23_ := (hb.cell (World.block_lt_of_cell? _ _ (hHeld.2.2.2.2.2.2.2.2.2.2.2.2.2.2.2.2.2.2.2.2.2.2.2.1))).trans (hHeld.2.2.2.2.2.2.2.2.2.2.2.2.2.2.2.2.2.2.2.2.2.2.2.1)
                      have HS24_ := (hb.cell (World.block_lt_of_cell? _ _ (hHeld.2.2.2.2.2.2.2.2.2.2.2.2.2.2.2.2.2.2.2.2.2.2.2.2.1))).trans (hHeld.2.2.2.2.2.2.2.2.2.2.2.2.2.2.2.2.2.2.2.2.2.2.2.2.1)
                      have HS25_ := (hb.cell (World.block_lt_of_cell? _ _ (hHeld.2.2.2.2.2.2.2.2.2.2.2.2.2.2.2.2.2.2.2.2.2.2.2.2.2.1))).trans (hHeld.2.2.2.2.2.2.2.2.2.2.2.2.2.2.2.2.2.2.2.2.2.2.2.2.2.1)
                      have HS26_ := (hb.cell (World.block_lt_of_cell? _ _ (hHeld.2.2.2.2.2.2.2.2.2.2.2.2.2.2.2.2.2.2.2.2.2.2.2.2.2.2.1))).trans (hHeld.2.2.2.2.2.2.2.2.2.2.2.2.2.2.2.2.2.2.2.2.2.2.2.2.2.2.1)
                      have HS27_ := (hb.cell (World.block_lt_of_cell? _ _ (hHeld.2.2.2.2.2.2.2.2.2.2.2.2.2.2.2.2.2.2.2.2.2.2.2.2.2.2.2.1))).trans (hHeld.2.2.2.2.2.2.2.2.2.2.2.2.2.2.2.2.2.2.2.2.2.2.2.2.2.2.2.1)
                      have HS28_ := (hb.cell (World.block_lt_of_cell? _ _ (hHeld.2.2.2.2.2.2.2.2.2.2.2.2.2.2.2.2.2.2.2.2.2.2.2.2.2.2.2.2.1))).trans (hHeld.2.2.2.2.2.2.2.2.2.2.2.2.2.2.2.2.2.2.2.2.2.2.2.2.2.2.2.2.1)
                      have HS29_ := (hb.cell (World.block_lt_of_cell? _ _ (hHeld.2.2.2.2.2.2.2.2.2.2.2.2.2.2.2.2.2.2.2.2.2.2.2.2.2.2.2.2.2))).trans (hHeld.2.2.2.2.2.2.2.2.2.2.2.2.2.2.2.2.2.2.2.2.2.2.2.2.2.2.2.2.2)
                      refine ⟨_, rfl, ?_⟩
                      have n0_ := Aside0.mk (Kd.R_below (by (with_reducible repeat (first | apply Kd.R_alloc | apply Kd.R_drewN | apply Kd.R_drew)); exact HO_5.out) hb)
                      have n1_ := Aside0.mk (blk_below (g := gb173) (o := .cells #[.int .u64 a0_0, .int .u64 a0_1, .int .u64 a0_2, .string a0_3, .string a0_4] 24 (0, 0)) (by (with_reducible repeat (first | refine blk_drewN ?_ _ | refine blk_drew ?_ | refine blk_alloc ?_ _)); exact BK173.out) hb)
                      have n2_ := Aside0.mk (blk_below (g := gb188) (o := .cells #[.int .u64 x189000_60, .int .u64 x189001_60, .int .u64 x189002_60, .string x189003_60, .string x189004_60] 24 (0, 0)) (by (with_reducible repeat (first | refine blk_drewN ?_ _ | refine blk_drew ?_ | refine blk_alloc ?_ _)); exact BK188.out) hb)
                      have n3_ := Aside0.mk (below_step (by repeat (first | (with_reducible first | exact HB.out | apply below_alloc | apply pw_below_drewN | apply below_drew1 | refine below_set ?_ GE173.out | refine below_set ?_ GE188.out) | exact HB.out)) hb)
                      clear HO_5
                      clear BK173
                      clear BK188
                      clear HB
                      have HO_5 := n0_
                      have BK173 := n1_
                      have BK188 := n2_
                      have HB := n3_
                      clear n0_ n1_ n2_ n3_
                      (try clear hb)
                      (try clear hb2)
                      (try clear hk)
                      (try clear hi)
                      refine hK.out _ _ ⟨(blk_cell BK188.out 0).trans rfl, (blk_cell BK188.out 1).trans rfl, (blk_cell BK188.out 2).trans rfl, (blk_cell BK188.out 3).trans rfl, (blk_cell BK188.out 4).trans rfl, HS5_, HS6_, HS7_, HS8_, HS9_, HS10_, HS11_, HS12_, HS13_, HS14_, HS15_, HS16_, HS17_, HS18_, HS19_, HS20_, HS21_, HS22_, HS23_, HS24_, HS25_, HS26_, HS27_, HS28_, HS29_⟩ (fun hHeld => ?_)
                      clear hK K
                      refine norm_ (a' := ?_) ?_ ?_
                      rotate_left
                      ·show Act.put _ (some 92) _ = _
                       simp only [Act.put, List.setIfInBounds_toArray, List.set_cons_zero, List.set_cons_succ, i64_w, i32_w]
                       rfl
                      refine pure_ (i := 10) (N := some 93) (v := ?_) (a' := ?_) #[true, true, true, true, true, true, true, true, true, true, true, false, false, false, false, false, false, false, false, false, false, false, false, false, false, false, false, false, false, false, false, false] rfl rfl (any_of HT_.out (by kernel_rfl)) (fun _ _ _ h => h) (Or.inl ⟨by rfl, ?_⟩) ?_ ?_
                      rotate_left
                      ·intro w'
                       go_simp
                       with_reducible rfl
                      rotate_left
                      ·simp only [Act.put, List.setIfInBounds_toArray, List.set_cons_zero, List.set_cons_succ, i64_w, i32_w]
                       rfl
                      refine pure_ (i := 11) (N := some 94) (v := ?_) (a' := ?_) #[true, true, true, true, true, true, true, true, true, true, true, true, false, false, false, false, false, false, false, false, false, false, false, false, false, false, false, false, false, false, false, false] rfl rfl (any_of HT_.out (by kernel_rfl)) (fun _ _ _ h => h) (Or.inl ⟨by rfl, ?_⟩) ?_ ?_
                      rotate_left
                      ·intro w'
                       go_simp
                       with_reducible rfl
                      rotate_left
                      ·simp only [Act.put, List.setIfInBounds_toArray, List.set_cons_zero, List.set_cons_succ, i64_w, i32_w]
                       rfl
                      refine pure_ (i := 12) (N := some 95) (v := ?_) (a' := ?_) #[true, true, true, true, true, true, true, true, true, true, true, true, true, false, false, false, false, false, false, false, false, false, false, false, false, false, false, false, false, false, false, false] rfl rfl (any_of HT_.out (by kernel_rfl)) (fun _ _ _ h => h) (Or.inl ⟨by rfl, ?_⟩) ?_ ?_
                      rotate_left
                      ·intro w'
                       go_simp
                       with_reducible rfl
                      rotate_left
                      ·simp only [Act.put, List.setIfInBounds_toArray, List.set_cons_zero, List.set_cons_succ, i64_w, i32_w]
                       rfl
                      refine pure_ (i := 13) (N := some 96) (v := ?_) (a' := ?_) #[true, true, true, true, true, true, true, true, true, true, true, true, true, true, false, false, false, false, false, false, false, false, false, false, false, false, false, false, false, false, false, false] rfl rfl (any_of HT_.out (by kernel_rfl)) (fun _ _ _ h => h) (Or.inl ⟨by rfl, ?_⟩) ?_ ?_
                      rotate_left
                      ·intro w'
                       go_simp
                       with_reducible rfl
                      rotate_left
                      ·simp only [Act.put, List.setIfInBounds_toArray, List.set_cons_zero, List.set_cons_succ, i64_w, i32_w]
                       rfl
                      refine pure_ (i := 15) (N := some 98) (v := ?_) (a' := ?_) #[true, true, true, true, true, true, true, true, true, true, true, true, true, true, false, true, false, false, false, false, false, false, false, false, false, false, false, false, false, false, false, false] rfl rfl (any_of HT_.out (by kernel_rfl)) (fun _ _ _ h => h) (Or.inl ⟨by rfl, ?_⟩) ?_ ?_
                      rotate_left
                      ·intro w'
                       go_simp
                       with_reducible rfl
                      rotate_left
                      ·simp only [Act.put, List.setIfInBounds_toArray, List.set_cons_zero, List.set_cons_succ, i64_w, i32_w]
                       rfl
                      refine pure_ (i := 16) (N := some 99) (v := ?_) (a' := ?_) #[true, true, true, true, true, true, true, true, true, true, true, true, true, true, false, true, true, false, false, false, false, false, false, false, false, false, false, false, false, false, false, false] rfl rfl (any_of HT_.out (by kernel_rfl)) (fun _ _ _ h => h) (Or.inl ⟨by rfl, ?_⟩) ?_ ?_
                      rotate_left
                      ·intro w'
                       go_simp
                       with_reducible rfl
                      rotate_left
                      ·simp only [Act.put, List.setIfInBounds_toArray, List.set_cons_zero, List.set_cons_succ, i64_w, i32_w]
                       rfl
                      refine pure_ (i := 17) (N := some 100) (v := ?_) (a' := ?_) #[true, true, true, true, true, true, true, true, true, true, true, true, true, true, false, true, true, true, false, false, false, false, false, false, false, false, false, false, false, false, false, false] rfl rfl (any_of HT_.out (by kernel_rfl)) (fun _ _ _ h => h) (Or.inl ⟨by rfl, ?_⟩) ?_ ?_
                      rotate_left
                      ·intro w'
                       go_simp
                       with_reducible rfl
                      rotate_left
                      ·simp only [Act.put, List.setIfInBounds_toArray, List.set_cons_zero, List.set_cons_succ, i64_w, i32_w]
                       rfl
                      refine pure_ (i := 18) (N := some 101) (v := ?_) (a' := ?_) #[true, true, true, true, true, true, true, true, true, true, true, true, true, true, false, true, true, true, true, false, false, false, false, false, false, false, false, false, false, false, false, false] rfl rfl (any_of HT_.out (by kernel_rfl)) (fun _ _ _ h => h) (Or.inl ⟨by rfl, ?_⟩) ?_ ?_
                      rotate_left
                      ·intro w'
                       go_simp
                       with_reducible rfl
                      rotate_left
                      ·simp only [Act.put, List.setIfInBounds_toArray, List.set_cons_zero, List.set_cons_succ, i64_w, i32_w]
                       rfl
                      refine take_ (i := 14) (N := some 97) (v := ?_) (a' := ?_) #[true, true, true, true, true, true, true, true, true, true, true, true, true, true, true, true, true, true, true, false, false, false, false, false, false, false, false, false, false, false, false, false] rfl rfl (take_ofW HT_.out HW_.out (by kernel_rfl)) (fun _ _ _ h => h) (Or.inl ⟨by rfl, ?_⟩) hHeld ?_ ?_
                      rotate_left
                      ·rintro w' ⟨s0, s1, s2, s3, s4, s5, s6, s7, s8, s9, s10, s11, s12, s13, s14, s15, s16, s17, s18, s19, s20, s21, s22, s23, s24, s25, s26, s27, s28, s29⟩
                       go_simp
                       with_reducible rfl
                      rotate_left
                      ·simp only [Act.put, List.setIfInBounds_toArray, List.set_cons_zero, List.set_cons_succ, i64_w, i32_w]
                       rfl
                      refine take_ (i := 19) (N := some 102) (v := ?_) (a' := ?_) #[true, true, true, true, true, true, true, true, true, true, true, true, true, true, true, true, true, true, true, true, false, false, false, false, false, false, false, false, false, false, false, false] rfl rfl (take_ofW HT_.out HW_.out (by kernel_rfl)) (fun _ _ _ h => h) (Or.inl ⟨by rfl, ?_⟩) hHeld ?_ ?_
                      rotate_left
                      ·rintro w' ⟨s0, s1, s2, s3, s4, s5, s6, s7, s8, s9, s10, s11, s12, s13, s14, s15, s16, s17, s18, s19, s20, s21, s22, s23, s24, s25, s26, s27, s28, s29⟩
                       go_simp
                       with_reducible rfl
                      rotate_left
                      ·simp only [Act.put, List.setIfInBounds_toArray, List.set_cons_zero, List.set_cons_succ, i64_w, i32_w]
                       rfl
                      refine one_ (i := 20) (N := some 103) #[true, true, true, true, true, true, true, true, true, true, true, true, true, true, true, true, true, true, true, true, true, false, false, false, false, false, false, false, false, false, false, false] rfl rfl (one_of HT_.out (by kernel_rfl)) (by decide) (fun K hK => ?_)
                      refine goes_ Tryd.func29 (by kernel_rfl) rfl #[.agg #[.int .u64 ((rd_T24 t180 0).f0), .int .u64 ((rd_T24 t180 0).f1), .int .u64 ((rd_T24 t180 0).f2), .string ((rd_T24 t180 0).f3), .string ((rd_T24 t180 0).f4)], .agg #[.int .u64 ((rd_T24 t180 (ji73)).f0), .int .u64 ((rd_T24 t180 (ji73)).f1), .int .u64 ((rd_T24 t180 (ji73)).f2), .string ((rd_T24 t180 (ji73)).f3), .string ((rd_T24 t180 (ji73)).f4)]] (by rfl) rfl rfl (by (try simp only [List.map_toArray, List.map_cons, List.map_nil]); first | done | (simp only [hji73]; rfl) | rfl | (simp only [List.length_drop, List.length_take]; rfl)) ?_
                      with_reducible refine (impl_VersionLess.calls kj60 ((rd_T24 t180 0).f0) ((rd_T24 t180 0).f1) ((rd_T24 t180 0).f2) ((rd_T24 t180 0).f3) ((rd_T24 t180 0).f4) ((rd_T24 t180 (ji73)).f0) ((rd_T24 t180 (ji73)).f1) ((rd_T24 t180 (ji73)).f2) ((rd_T24 t180 (ji73)).f3) ((rd_T24 t180 (ji73)).f4) true _ ?side1 A79.out).mono ?_
                      (case side1 => exact globE_below HGE.out (by repeat (first | (with_reducible first | exact HB.out | apply below_alloc | apply pw_below_drewN | apply below_drew1 | refine below_set ?_ GE173.out | refine below_set ?_ GE188.out) | exact HB.out)))
                      rintro e w89 ⟨rfl, hb⟩
                      have HS5_ := (hb.cell (World.block_lt_of_cell? _ _ (hHeld.2.2.2.2.2.1))).trans (hHeld.2.2.2.2.2.1)
                      have HS6_ := (hb.cell (World.block_lt_of_cell? _ _ (hHeld.2.2.2.2.2.2.1))).trans (hHeld.2.2.2.2.2.2.1)
                      have HS7_ := (hb.cell (World.block_lt_of_cell? _ _ (hHeld.2.2.2.2.2.2.2.1))).trans (hHeld.2.2.2.2.2.2.2.1)
                      have HS8_ := (hb.cell (World.block_lt_of_cell? _ _ (hHeld.2.2.2.2.2.2.2.2.1))).trans (hHeld.2.2.2.2.2.2.2.2.1)
                      have HS9_ := (hb.cell (World.block_lt_of_cell? _ _ (hHeld.2.2.2.2.2.2.2.2.2.1))).trans (hHeld.2.2.2.2.2.2.2.2.2.1)
                      have HS10_ := (hb.cell (World.block_lt_of_cell? _ _ (hHeld.2.2.2.2.2.2.2.2.2.2.1))).trans (hHeld.2.2.2.2.2.2.2.2.2.2.1)
                      have HS11_ := (hb.cell (World.block_lt_of_cell? _ _ (hHeld.2.2.2.2.2.2.2.2.2.2.2.1))).trans (hHeld.2.2.2.2.2.2.2.2.2.2.2.1)
                      have HS12_ := (hb.cell (World.block_lt_of_cell? _ _ (hHeld.2.2.2.2.2.2.2.2.2.2.2.2.1))).trans (hHeld.2.2.2.2.2.2.2.2.2.2.2.2.1)
                      have HS13_ := (hb.cell (World.block_lt_of_cell? _ _ (hHeld.2.2.2.2.2.2.2.2.2.2.2.2.2.1))).trans (hHeld.2.2.2.2.2.2.2.2.2.2.2.2.2.1)
                      have HS14_ := (hb.cell (World.block_lt_of_cell? _ _ (hHeld.2.2.2.2.2.2.2.2.2.2.2.2.2.2.1))).trans (hHeld.2.2.2.2.2.2.2.2.2.2.2.2.2.2.1)
                      have HS15_ := (hb.cell (World.block_lt_of_cell? _ _ (hHeld.2.2.2.2.2.2.2.2.2.2.2.2.2.2.2.1))).trans (hHeld.2.2.2.2.2.2.2.2.2.2.2.2.2.2.2.1)
                      have HS16_ := (hb.cell (World.block_lt_of_cell? _ _ (hHeld.2.2.2.2.2.2.2.2.2.2.2.2.2.2.2.2.1))).trans (hHeld.2.2.2.2.2.2.2.2.2.2.2.2.2.2.2.2.1)
                      have HS17_ := (hb.cell (World.block_lt_of_cell? _ _ (hHeld.2.2.2.2.2.2.2.2.2.2.2.2.2.2.2.2.2.1))).trans (hHeld.2.2.2.2.2.2.2.2.2.2.2.2.2.2.2.2.2.1)
                      have HS18_ := (hb.cell (World.block_lt_of_cell? _ _ (hHeld.2.2.2.2.2.2.2.2.2.2.2.2.2.2.2.2.2.2.1))).trans (hHeld.2.2.2.2.2.2.2.2.2.2.2.2.2.2.2.2.2.2.1)
                      have HS19_ := (hb.cell (World.block_lt_of_cell? _ _ (hHeld.2.2.2.2.2.2.2.2.2.2.2.2.2.2.2.2.2.2.2.1))).trans (hHeld.2.2.2.2.2.2.2.2.2.2.2.2.2.2.2.2.2.2.2.1)
                      have HS20_ := (hb.cell (World.block_lt_of_cell? _ _ (hHeld.2.2.2.2.2.2.2.2.2.2.2.2.2.2.2.2.2.2.2.2.1))).trans (hHeld.2.2.2.2.2.2.2.2.2.2.2.2.2.2.2.2.2.2.2.2.1)
                      have HS21_ := (hb.cell (World.block_lt_of_cell? _ _ (hHeld.2.2.2.2.2.2.2.2.2.2.2.2.2.2.2.2.2.2.2.2.2.1))).trans (hHeld.2.2.2.2.2.2.2.2.2.2.2.2.2.2.2.2.2.2.2.2.2.1)
                      have HS22_ := (hb.cell (World.block_lt_of_cell? _ _ (hHeld.2.2.2.2.2.2.2.2.2.2.2.2.2.2.2.2.2.2.2.2.2.2.1))).trans (hHeld.2.2.2.2.2.2.2.2.2.2.2.2.2.2.2.2.2.2.2.2.2.2.1)
                      have HS23_ := (hb.cell (World.block_lt_of_cell? _ _ (hHeld.2.2.2.2.2.2.2.2.2.2.2.2.2.2.2.2.2.2.2.2.2.2.2.1))).trans (hHeld.2.2.2.2.2.2.2.2.2.2.2.2.2.2.2.2.2.2.2.2.2.2.2.1)
                      have HS24_ := (hb.cell (World.block_lt_of_cell? _ _ (hHeld.2.2.2.2.2.2.2.2.2.2.2.2.2.2.2.2.2.2.2.2.2.2.2.2.1))).trans (hHeld.2.2.2.2.2.2.2.2.2.2.2.2.2.2.2.2.2.2.2.2.2.2.2.2.1)
                      have HS25_ := (hb.cell (World.block_lt_of_cell? _ _ (hHeld.2.2.2.2.2.2.2.2.2.2.2.2.2.2.2.2.2.2.2.2.2.2.2.2.2.1))).trans (hHeld.2.2.2.2.2.2.2.2.2.2.2.2.2.2.2.2.2.2.2.2.2.2.2.2.2.1)
                      have HS26_ := (hb.cell (World.block_lt_of_cell? _ _ (hHeld.2.2.2.2.2.2.2.2.2.2.2.2.2.2.2.2.2.2.2.2.2.2.2.2.2.2.1))).trans (hHeld.2.2.2.2.2.2.2.2.2.2.2.2.2.2.2.2.2.2.2.2.2.2.2.2.2.2.1)
                      have HS27_ := (hb.cell (World.block_lt_of_cell? _ _ (hHeld.2.2.2.2.2.2.2.2.2.2.2.2.2.2.2.2.2.2.2.2.2.2.2.2.2.2.2.1))).trans (hHeld.2.2.2.2.2.2.2.2.2.2.2.2.2.2.2.2.2.2.2.2.2.2.2.2.2.2.2.1)
                      have HS28_ := (hb.cell (World.block_lt_of_cell? _ _ (hHeld.2.2.2.2.2.2.2.2.2.2.2.2.2.2.2.2.2.2.2.2.2.2.2.2.2.2.2.2.1))).trans (hHeld.2.2.2.2.2.2.2.2.2.2.2.2.2.2.2.2.2.2.2.2.2.2.2.2.2.2.2.2.1)
                      have HS29_ := (hb.cell (World.block_lt_of_cell? _ _ (hHeld.2.2.2.2.2.2.2.2.2.2.2.2.2.2.2.2.2.2.2.2.2.2.2.2.2.2.2.2.2))).trans (hHeld.2.2.2.2.2.2.2.2.2.2.2.2.2.2.2.2.2.2.2.2.2.2.2.2.2.2.2.2.2)
                      refine ⟨_, rfl, ?_⟩
                      have n0_ := Aside0.mk (Kd.R_below (by (with_reducible repeat (first | apply Kd.R_alloc | apply Kd.R_drewN | apply Kd.R_drew)); exact HO_5.out) hb)
                      have n1_ := Aside0.mk (blk_below (g := gb173) (o := .cells #[.int .u64 a0_0, .int .u64 a0_1, .int .u64 a0_2, .string a0_3, .string a0_4] 24 (0, 0)) (by (with_reducible repeat (first | refine blk_drewN ?_ _ | refine blk_drew ?_ | refine blk_alloc ?_ _)); exact BK173.out) hb)
                      have n2_ := Aside0.mk (blk_below (g := gb188) (o := .cells #[.int .u64 x189000_60, .int .u64 x189001_60, .int .u64 x189002_60, .string x189003_60, .string x189004_60] 24 (0, 0)) (by (with_reducible repeat (first | refine blk_drewN ?_ _ | refine blk_drew ?_ | refine blk_alloc ?_ _)); exact BK188.out) hb)
                      have n3_ := Aside0.mk (below_step (by repeat (first | (with_reducible first | exact HB.out | apply below_alloc | apply pw_below_drewN | apply below_drew1 | refine below_set ?_ GE173.out | refine below_set ?_ GE188.out) | exact HB.out)) hb)
                      clear HO_5
                      clear BK173
                      clear BK188
                      clear HB
                      have HO_5 := n0_
                      have BK173 := n1_
                      have BK188 := n2_
                      have HB := n3_
                      clear n0_ n1_ n2_ n3_
                      (try clear hb)
                      (try clear hb2)
                      (try clear hk)
                      (try clear hi)
                      refine hK.out _ _ ⟨(blk_cell BK188.out 0).trans rfl, (blk_cell BK188.out 1).trans rfl, (blk_cell BK188.out 2).trans rfl, (blk_cell BK188.out 3).trans rfl, (blk_cell BK188.out 4).trans rfl, HS5_, HS6_, HS7_, HS8_, HS9_, HS10_, HS11_, HS12_, HS13_, HS14_, HS15_, HS16_, HS17_, HS18_, HS19_, HS20_, HS21_, HS22_, HS23_, HS24_, HS25_, HS26_, HS27_, HS28_, HS29_⟩ (fun hHeld => ?_)
                      clear hK K
                      refine norm_ (a' := ?_) ?_ ?_
                      rotate_left
                      ·show Act.put _ (some 103) _ = _
                       simp only [Act.put, List.setIfInBounds_toArray, List.set_cons_zero, List.set_cons_succ, i64_w, i32_w]
                       rfl
                      refine pure_ (i := 21) (N := some 104) (v := ?_) (a' := ?_) #[true, true, true, true, true, true, true, true, true, true, true, true, true, true, true, true, true, true, true, true, true, true, false, false, false, false, false, false, false, false, false, false] rfl rfl (any_of HT_.out (by kernel_rfl)) (fun _ _ _ h => h) (Or.inl ⟨by rfl, ?_⟩) ?_ ?_
                      rotate_left
                      ·intro w'
                       go_simp
                       with_reducible rfl
                      rotate_left
                      ·simp only [Act.put, List.setIfInBounds_toArray, List.set_cons_zero, List.set_cons_succ, i64_w, i32_w]
                       rfl
                      refine pure_ (i := 22) (N := some 105) (v := ?_) (a' := ?_) #[true, true, true, true, true, true, true, true, true, true, true, true, true, true, true, true, true, true, true, true, true, true, true, false, false, false, false, false, false, false, false, false] rfl rfl (any_of HT_.out (by kernel_rfl)) (fun _ _ _ h => h) (Or.inl ⟨by rfl, ?_⟩) ?_ ?_
                      rotate_left
                      ·intro w'
                       go_simp
                       with_reducible rfl
                      rotate_left
                      ·simp only [Act.put, List.setIfInBounds_toArray, List.set_cons_zero, List.set_cons_succ, i64_w, i32_w]
                       rfl
                      refine pure_ (i := 23) (N := some 106) (v := ?_) (a' := ?_) #[true, true, true, true, true, true, true, true, true, true, true, true, true, true, true, true, true, true, true, true, true, true, true, true, false, false, false, false, false, false, false, false] rfl rfl (any_of HT_.out (by kernel_rfl)) (fun _ _ _ h => h) (Or.inl ⟨by rfl, ?_⟩) ?_ ?_
                      rotate_left
                      ·intro w'
                       go_simp
                       with_reducible rfl
                      rotate_left
                      ·simp only [Act.put, List.setIfInBounds_toArray, List.set_cons_zero, List.set_cons_succ, i64_w, i32_w]
                       rfl
                      refine pure_ (i := 24) (N := some 107) (v := ?_) (a' := ?_) #[true, true, true, true, true, true, true, true, true, true, true, true, true, true, true, true, true, true, true, true, true, true, true, true, true, false, false, false, false, false, false, false] rfl rfl (any_of HT_.out (by kernel_rfl)) (fun _ _ _ h => h) (Or.inl ⟨by rfl, ?_⟩) ?_ ?_
                      rotate_left
                      ·intro w'
                       go_simp
                       with_reducible rfl
                      rotate_left
                      ·simp only [Act.put, List.setIfInBounds_toArray, List.set_cons_zero, List.set_cons_succ, i64_w, i32_w]
                       rfl
                      refine pure_ (i := 25) (N := some 108) (v := ?_) (a' := ?_) #[true, true, true, true, true, true, true, true, true, true, true, true, true, true, true, true, true, true, true, true, true, true, true, true, true, true, false, false, false, false, false, false] rfl rfl (any_of HT_.out (by kernel_rfl)) (fun _ _ _ h => h) (Or.inl ⟨by rfl, ?_⟩) ?_ ?_
                      rotate_left
                      ·intro w'
                       go_simp
                       with_reducible rfl
                      rotate_left
                      ·simp only [Act.put, List.setIfInBounds_toArray, List.set_cons_zero, List.set_cons_succ, i64_w, i32_w]
                       rfl
                      refine pure_ (i := 26) (N := some 109) (v := ?_) (a' := ?_) #[true, true, true, true, true, true, true, true, true, true, true, true, true, true, true, true, true, true, true, true, true, true, true, true, true, true, true, false, false, false, false, false] rfl rfl (any_of HT_.out (by kernel_rfl)) (fun _ _ _ h => h) (Or.inl ⟨by rfl, ?_⟩) ?_ ?_
                      rotate_left
                      ·intro w'
                       go_simp
                       with_reducible rfl
                      rotate_left
                      ·simp only [Act.put, List.setIfInBounds_toArray, List.set_cons_zero, List.set_cons_succ, i64_w, i32_w]
                       rfl
                      refine pure_ (i := 27) (N := some 110) (v := ?_) (a' := ?_) #[true, true, true, true, true, true, true, true, true, true, true, true, true, true, true, true, true, true, true, true, true, true, true, true, true, true, true, true, false, false, false, false] rfl rfl (any_of HT_.out (by kernel_rfl)) (fun _ _ _ h => h) (Or.inl ⟨by rfl, ?_⟩) ?_ ?_
                      rotate_left
                      ·intro w'
                       go_simp
                       with_reducible rfl
                      rotate_left
                      ·simp only [Act.put, List.setIfInBounds_toArray, List.set_cons_zero, List.set_cons_succ, i64_w, i32_w]
                       rfl
                      refine take_ (i := 28) (N := some 111) (v := ?_) (a' := ?_) #[true, true, true, true, true, true, true, true, true, true, true, true, true, true, true, true, true, true, true, true, true, true, true, true, true, true, true, true, true, false, false, false] rfl rfl (take_ofW HT_.out HW_.out (by kernel_rfl)) (fun _ _ _ h => h) (Or.inl ⟨by rfl, ?_⟩) hHeld ?_ ?_
                      rotate_left
                      ·rintro w' ⟨s0, s1, s2, s3, s4, s5, s6, s7, s8, s9, s10, s11, s12, s13, s14, s15, s16, s17, s18, s19, s20, s21, s22, s23, s24, s25, s26, s27, s28, s29⟩
                       go_simp
                       with_reducible rfl
                      rotate_left
                      ·simp only [Act.put, List.setIfInBounds_toArray, List.set_cons_zero, List.set_cons_succ, i64_w, i32_w]
                       rfl
                      refine take_ (i := 29) (N := some 112) (v := ?_) (a' := ?_) #[true, true, true, true, true, true, true, true, true, true, true, true, true, true, true, true, true, true, true, true, true, true, true, true, true, true, true, true, true, true, false, false] rfl rfl (take_ofW HT_.out HW_.out (by kernel_rfl)) (fun _ _ _ h => h) (Or.inl ⟨by rfl, ?_⟩) hHeld ?_ ?_
                      rotate_left
                      ·rintro w' ⟨s0, s1, s2, s3, s4, s5, s6, s7, s8, s9, s10, s11, s12, s13, s14, s15, s16, s17, s18, s19, s20, s21, s22, s23, s24, s25, s26, s27, s28, s29⟩
                       go_simp
                       with_reducible rfl
                      rotate_left
                      ·simp only [Act.put, List.setIfInBounds_toArray, List.set_cons_zero, List.set_cons_succ, i64_w, i32_w]
                       rfl
                      refine pure_ (i := 30) (N := some 113) (v := ?_) (a' := ?_) #[true, true, true, true, true, true, true, true, true, true, true, true, true, true, true, true, true, true, true, true, true, true, true, true, true, true, true, true, true, true, true, false] rfl rfl (any_of HT_.out (by kernel_rfl)) (fun _ _ _ h => h) (Or.inl ⟨by rfl, ?_⟩) ?_ ?_
                      rotate_left
                      ·intro w'
                       go_simp
                       with_reducible rfl
                      rotate_left
                      ·simp only [Act.put, List.setIfInBounds_toArray, List.set_cons_zero, List.set_cons_succ, i64_w, i32_w]
                       rfl
                      refine pure_ (i := 31) (N := some 114) (v := ?_) (a' := ?_) #[true, true, true, true, true, true, true, true, true, true, true, true, true, true, true, true, true, true, true, true, true, true, true, true, true, true, true, true, true, true, true, true] rfl rfl (any_of HT_.out (by kernel_rfl)) (fun _ _ _ h => h) (Or.inl ⟨by rfl, ?_⟩) ?_ ?_
                      rotate_left
                      ·intro w'
                       go_simp
                       with_reducible rfl
                      rotate_left
                      ·simp only [Act.put, List.setIfInBounds_toArray, List.set_cons_zero, List.set_cons_succ, i64_w, i32_w]
                       rfl
                      refine done_ (done_of HT_.out (by kernel_rfl)) ?_
                      try go_wp2
                      go_roundg kj60
                      case measure => have := HJ2.out; have := HJ11.out; have := HK3.out; have := HJ60.out; omega
                      case rel => exact ⟨(false), (ji73), (x189000_60), (x189001_60), (x189002_60), (x189003_60), (x189004_60), (by first | rfl | (simp; done) | (simp [*]; done) | (simp [nil_bne]; done)), (by first | rfl | (simp; done) | (simp only [← hji73] <;> (first | rfl | simp)) | (simp [*]; done) | (simp [nil_bne]; done)), H', ⟨by have := HJ2.out; have := HJ11.out; have := HK3.out; have := HJ60.out; omega⟩, ⟨by (with_reducible repeat (first | apply Kd.R_alloc | apply Kd.R_drewN | apply Kd.R_drew)); exact HO_5.out⟩, ⟨by (with_reducible repeat (first | refine blk_drewN ?_ _ | refine blk_drew ?_ | refine blk_alloc ?_ _)); exact BK173.out⟩, ⟨by (with_reducible repeat (first | refine blk_drewN ?_ _ | refine blk_drew ?_ | refine blk_alloc ?_ _)); exact BK188.out⟩, ⟨by repeat (first | (with_reducible first | exact HB.out | apply below_alloc | apply pw_below_drewN | apply below_drew1 | refine below_set ?_ GE173.out | refine below_set ?_ GE188.out) | exact HB.out)⟩⟩
                    ·replace c80 := Bool.eq_false_iff.mpr c80
                     subst c80
                     have H1 : (some false) = some r := by rw [if_neg (show ¬ (false = true) by decide)] at H; exact H
                     clear H
                     have H := H1
                     clear H1
                     obtain rfl := Option.some.inj H
                     try go_wp2
                     have n0_ := Aside0.mk (Kd.R_drew HO_5.out)
                     have n1_ := Aside0.mk (blk_drew BK173.out)
                     have n2_ := Aside0.mk (blk_drew BK188.out)
                     have n3_ := Aside0.mk (below_drew1 HB.out)
                     clear HO_5
                     clear BK173
                     clear BK188
                     clear HB
                     have HO_5 := n0_
                     have BK173 := n1_
                     have BK188 := n2_
                     have HB := n3_
                     clear n0_ n1_ n2_ n3_
                     obtain ⟨Ao91, co91, eo91⟩ := Kd.R_slice HO_5.out
                     (first | subst eo91 | (injection eo91 with f1_ f2_ f3_; have f4_ := f1_.symm; have f5_ := f3_.symm; clear f1_ f2_ f3_; subst f4_; subst f5_))
                     have p190 : 0 ≤ (x56_3 : Int) := of_decide_eq_true (by first | (with_reducible assumption) | assumption)
                     have q190 : x56_3 < (t180.length : Int) := of_decide_eq_true (by first | (with_reducible assumption) | assumption)
                     obtain ⟨ad190, e190, hx190_0, hx190_1, hx190_2, hx190_3, hx190_4⟩ := at_T24 (Kd.R_reads' HO_5.out).2.2 x56_3 p190 q190
                     cases e190
                     replace p190 := eq_true p190
                     replace q190 := eq_true q190
                     have p191 : 0 ≤ ((ji73) : Int) := of_decide_eq_true (by first | (with_reducible assumption) | assumption)
                     have q191 : (ji73) < (t180.length : Int) := of_decide_eq_true (by first | (with_reducible assumption) | assumption)
                     obtain ⟨ad191, e191, hx191_0, hx191_1, hx191_2, hx191_3, hx191_4⟩ := at_T24 (Kd.R_reads' HO_5.out).2.2 (ji73) p191 q191
                     obtain rfl : ad190 = ad191 := (by injection e191)
                     replace p191 := eq_true p191
                     replace q191 := eq_true q191
                     have p193 : 0 ≤ (0 : Int) := (by omega)
                     have q193 : 0 < (t180.length : Int) := of_decide_eq_true (by first | (with_reducible assumption) | assumption)
                     obtain ⟨ad193, e193, hx193_0, hx193_1, hx193_2, hx193_3, hx193_4⟩ := at_T24 (Kd.R_reads' HO_5.out).2.2 0 p193 q193
                     obtain rfl : ad190 = ad193 := (by injection e193)
                     have qi193 : (0 < t180.length) = True := eq_true (by omega)
                     (try rw [show ((0 : Int)).toNat = 0 from rfl] at hx193_0)
                     (try rw [show 0 * 5 = 0 from rfl] at hx193_0)
                     (try rw [Addr.add_zero'] at hx193_0)
                     (try rw [show ((0 : Int)).toNat = 0 from rfl] at hx193_1)
                     (try rw [show 0 * 5 = 0 from rfl] at hx193_1)
                     (try rw [Addr.add_zero'] at hx193_1)
                     (try rw [show ((0 : Int)).toNat = 0 from rfl] at hx193_2)
                     (try rw [show 0 * 5 = 0 from rfl] at hx193_2)
                     (try rw [Addr.add_zero'] at hx193_2)
                     (try rw [show ((0 : Int)).toNat = 0 from rfl] at hx193_3)
                     (try rw [show 0 * 5 = 0 from rfl] at hx193_3)
                     (try rw [Addr.add_zero'] at hx193_3)
                     (try rw [show ((0 : Int)).toNat = 0 from rfl] at hx193_4)
                     (try rw [show 0 * 5 = 0 from rfl] at hx193_4)
                     (try rw [Addr.add_zero'] at hx193_4)
                     replace p193 := eq_true p193
                     replace q193 := eq_true q193
                     have p194 : 0 ≤ ((ji73) : Int) := of_decide_eq_true (by first | (with_reducible assumption) | assumption)
                     have q194 : (ji73) < (t180.length : Int) := of_decide_eq_true (by first | (with_reducible assumption) | assumption)
                     obtain ⟨ad194, e194, hx194_0, hx194_1, hx194_2, hx194_3, hx194_4⟩ := at_T24 (Kd.R_reads' HO_5.out).2.2 (ji73) p194 q194
                     obtain rfl : ad190 = ad194 := (by injection e194)
                     replace p194 := eq_true p194
                     replace q194 := eq_true q194
                     refine start_ (n := 32) (S := fun w' => w'.cell? (ad190.add ((x56_3).toNat * 5)) = some (.int .u64 ((rd_T24 t180 x56_3).f0)) ∧ w'.cell? ⟨(ad190.add ((x56_3).toNat * 5)).block, (ad190.add ((x56_3).toNat * 5)).off + 1, none⟩ = some (.int .u64 ((rd_T24 t180 x56_3).f1)) ∧ w'.cell? ⟨(ad190.add ((x56_3).toNat * 5)).block, (ad190.add ((x56_3).toNat * 5)).off + 2, none⟩ = some (.int .u64 ((rd_T24 t180 x56_3).f2)) ∧ w'.cell? ⟨(ad190.add ((x56_3).toNat * 5)).block, (ad190.add ((x56_3).toNat * 5)).off + 3, none⟩ = some (.string ((rd_T24 t180 x56_3).f3)) ∧ w'.cell? ⟨(ad190.add ((x56_3).toNat * 5)).block, (ad190.add ((x56_3).toNat * 5)).off + 4, none⟩ = some (.string ((rd_T24 t180 x56_3).f4)) ∧ w'.cell? (ad190.add (((ji73)).toNat * 5)) = some (.int .u64 ((rd_T24 t180 (ji73)).f0)) ∧ w'.cell? ⟨(ad190.add (((ji73)).toNat * 5)).block, (ad190.add (((ji73)).toNat * 5)).off + 1, none⟩ = some (.int .u64 ((rd_T24 t180 (ji73)).f1)) ∧ w'.cell? ⟨(ad190.add (((ji73)).toNat * 5)).block, (ad190.add (((ji73)).toNat * 5)).off + 2, none⟩ = some (.int .u64 ((rd_T24 t180 (ji73)).f2)) ∧ w'.cell? ⟨(ad190.add (((ji73)).toNat * 5)).block, (ad190.add (((ji73)).toNat * 5)).off + 3, none⟩ = some (.string ((rd_T24 t180 (ji73)).f3)) ∧ w'.cell? ⟨(ad190.add (((ji73)).toNat * 5)).block, (ad190.add (((ji73)).toNat * 5)).off + 4, none⟩ = some (.string ((rd_T24 t180 (ji73)).f4)) ∧ w'.cell? ad190 = some (.int .u64 ((rd_T24 t180 0).f0)) ∧ w'.cell? ⟨ad190.block, ad190.off + 1, none⟩ = some (.int .u64 ((rd_T24 t180 0).f1)) ∧ w'.cell? ⟨ad190.block, ad190.off + 2, none⟩ = some (.int .u64 ((rd_T24 t180 0).f2)) ∧ w'.cell? ⟨ad190.block, ad190.off + 3, none⟩ = some (.string ((rd_T24 t180 0).f3)) ∧ w'.cell? ⟨ad190.block, ad190.off + 4, none⟩ = some (.string ((rd_T24 t180 0).f4)) ∧ w'.cell? (ad190.add (((ji73)).toNat * 5)) = some (.int .u64 ((rd_T24 t180 (ji73)).f0)) ∧ w'.cell? ⟨(ad190.add (((ji73)).toNat * 5)).block, (ad190.add (((ji73)).toNat * 5)).off + 1, none⟩ = some (.int .u64 ((rd_T24 t180 (ji73)).f1)) ∧ w'.cell? ⟨(ad190.add (((ji73)).toNat * 5)).block, (ad190.add (((ji73)).toNat * 5)).off + 2, none⟩ = some (.int .u64 ((rd_T24 t180 (ji73)).f2)) ∧ w'.cell? ⟨(ad190.add (((ji73)).toNat * 5)).block, (ad190.add (((ji73)).toNat * 5)).off + 3, none⟩ = some (.string ((rd_T24 t180 (ji73)).f3)) ∧ w'.cell? ⟨(ad190.add (((ji73)).toNat * 5)).block, (ad190.add (((ji73)).toNat * 5)).off + 4, none⟩ = some (.string ((rd_T24 t180 (ji73)).f4))) (ds := []) #[false, false, false, false, false, false, false, false, false, false, false, false, false, false, false, false, false, false, false, false, false, false, false, false, false, false, false, false, false, false, false, false] (by kernel_rfl) rfl rfl ⟨hx190_0, hx190_1, hx190_2, hx190_3, hx190_4, hx191_0, hx191_1, hx191_2, hx191_3, hx191_4, hx193_0, hx193_1, hx193_2, hx193_3, hx193_4, hx194_0, hx194_1, hx194_2, hx194_3, hx194_4⟩ (fun hHeld => ?_); refine with_tabW laws_FnSemverIncRun.tab16 laws_FnSemverIncRun.bits16 (fun HT_ HW_ => ?_)
                     generalize wc.drew = w90 at HO_5 BK173 BK188 HB hx190_0 hx190_1 hx190_2 hx190_3 hx190_4 hx191_0 hx191_1 hx191_2 hx191_3 hx191_4 hx193_0 hx193_1 hx193_2 hx193_3 hx193_4 hx194_0 hx194_1 hx194_2 hx194_3 hx194_4 hHeld ⊢
                     refine pure_ (i := 0) (N := some 83) (v := ?_) (a' := ?_) #[true, false, false, false, false, false, false, false, false, false, false, false, false, false, false, false, false, false, false, false, false, false, false, false, false, false, false, false, false, false, false, false] rfl rfl (any_of HT_.out (by kernel_rfl)) (fun _ _ _ h => h) (Or.inl ⟨by rfl, ?_⟩) ?_ ?_
                     rotate_left
                     ·intro w'
                      go_simp
                      with_reducible rfl
                     rotate_left
                     ·simp only [Act.put, List.setIfInBounds_toArray, List.set_cons_zero, List.set_cons_succ, i64_w, i32_w]
                      rfl
                     refine pure_ (i := 1) (N := some 84) (v := ?_) (a' := ?_) #[true, true, false, false, false, false, false, false, false, false, false, false, false, false, false, false, false, false, false, false, false, false, false, false, false, false, false, false, false, false, false, false] rfl rfl (any_of HT_.out (by kernel_rfl)) (fun _ _ _ h => h) (Or.inl ⟨by rfl, ?_⟩) ?_ ?_
                     rotate_left
                     ·intro w'
                      go_simp
                      with_reducible rfl
                     rotate_left
                     ·simp only [Act.put, List.setIfInBounds_toArray, List.set_cons_zero, List.set_cons_succ, i64_w, i32_w]
                      rfl
                     refine pure_ (i := 2) (N := some 85) (v := ?_) (a' := ?_) #[true, true, true, false, false, false, false, false, false, false, false, false, false, false, false, false, false, false, false, false, false, false, false, false, false, false, false, false, false, false, false, false] rfl rfl (any_of HT_.out (by kernel_rfl)) (fun _ _ _ h => h) (Or.inl ⟨by rfl, ?_⟩) ?_ ?_
                     rotate_left
                     ·intro w'
                      go_simp
                      with_reducible rfl
                     rotate_left
                     ·simp only [Act.put, List.setIfInBounds_toArray, List.set_cons_zero, List.set_cons_succ, i64_w, i32_w]
                      rfl
                     refine pure_ (i := 4) (N := some 87) (v := ?_) (a' := ?_) #[true, true, true, false, true, false, false, false, false, false, false, false, false, false, false, false, false, false, false, false, false, false, false, false, false, false, false, false, false, false, false, false] rfl rfl (any_of HT_.out (by kernel_rfl)) (fun _ _ _ h => h) (Or.inl ⟨by rfl, ?_⟩) ?_ ?_
                     rotate_left
                     ·intro w'
                      go_simp
                      with_reducible rfl
                     rotate_left
                     ·simp only [Act.put, List.setIfInBounds_toArray, List.set_cons_zero, List.set_cons_succ, i64_w, i32_w]
                      rfl
                     refine pure_ (i := 5) (N := some 88) (v := ?_) (a' := ?_) #[true, true, true, false, true, true, false, false, false, false, false, false, false, false, false, false, false, false, false, false, false, false, false, false, false, false, false, false, false, false, false, false] rfl rfl (any_of HT_.out (by kernel_rfl)) (fun _ _ _ h => h) (Or.inl ⟨by rfl, ?_⟩) ?_ ?_
                     rotate_left
                     ·intro w'
                      go_simp
                      with_reducible rfl
                     rotate_left
                     ·simp only [Act.put, List.setIfInBounds_toArray, List.set_cons_zero, List.set_cons_succ, i64_w, i32_w]
                      rfl
                     refine pure_ (i := 6) (N := some 89) (v := ?_) (a' := ?_) #[true, true, true, false, true, true, true, false, false, false, false, false, false, false, false, false, false, false, false, false, false, false, false, false, false, false, false, false, false, false, false, false] rfl rfl (any_of HT_.out (by kernel_rfl)) (fun _ _ _ h => h) (Or.inl ⟨by rfl, ?_⟩) ?_ ?_
                     rotate_left
                     ·intro w'
                      go_simp
                      with_reducible rfl
                     rotate_left
                     ·simp only [Act.put, List.setIfInBounds_toArray, List.set_cons_zero, List.set_cons_succ, i64_w, i32_w]
                      rfl
                     refine pure_ (i := 7) (N := some 90) (v := ?_) (a' := ?_) #[true, true, true, false, true, true, true, true, false, false, false, false, false, false, false, false, false, false, false, false, false, false, false, false, false, false, false, false, false, false, false, false] rfl rfl (any_of HT_.out (by kernel_rfl)) (fun _ _ _ h => h) (Or.inl ⟨by rfl, ?_⟩) ?_ ?_
                     rotate_left
                     ·intro w'
                      go_simp
                      with_reducible rfl
                     rotate_left
                     ·simp only [Act.put, List.setIfInBounds_toArray, List.set_cons_zero, List.set_cons_succ, i64_w, i32_w]
                      rfl
                     refine take_ (i := 3) (N := some 86) (v := ?_) (a' := ?_) #[true, true, true, true, true, true, true, true, false, false, false, false, false, false, false, false, false, false, false, false, false, false, false, false, false, false, false, false, false, false, false, false] rfl rfl (take_ofW HT_.out HW_.out (by kernel_rfl)) (fun _ _ _ h => h) (Or.inl ⟨by rfl, ?_⟩) hHeld ?_ ?_
                     rotate_left
                     ·rintro w' ⟨s0, s1, s2, s3, s4, s5, s6, s7, s8, s9, s10, s11, s12, s13, s14, s15, s16, s17, s18, s19⟩
                      go_simp
                      with_reducible rfl
                     rotate_left
                     ·simp only [Act.put, List.setIfInBounds_toArray, List.set_cons_zero, List.set_cons_succ, i64_w, i32_w]
                      rfl
                     refine take_ (i := 8) (N := some 91) (v := ?_) (a' := ?_) #[true, true, true, true, true, true, true, true, true, false, false, false, false, false, false, false, false, false, false, false, false, false, false, false, false, false, false, false, false, false, false, false] rfl rfl (take_ofW HT_.out HW_.out (by kernel_rfl)) (fun _ _ _ h => h) (Or.inl ⟨by rfl, ?_⟩) hHeld ?_ ?_
                     rotate_left
                     ·rintro w' ⟨s0, s1, s2, s3, s4, s5, s6, s7, s8, s9, s10, s11, s12, s13, s14, s15, s16, s17, s18, s19⟩
                      go_simp
                      with_reducible rfl
                     rotate_left
                     ·simp only [Act.put, List.setIfInBounds_toArray, List.set_cons_zero, List.set_cons_succ, i64_w, i32_w]
                      rfl
                     refine one_ (i := 9) (N := some 92) #[true, true, true, true, true, true, true, true, true, true, false, false, false, false, false, false, false, false, false, false, false, false, false, false, false, false, false, false, false, false, false, false] rfl rfl (one_of HT_.out (by kernel_rfl)) (by decide) (fun K hK => ?_)
                     refine goes_ Tryd.func29 (by kernel_rfl) rfl #[.agg #[.int .u64 ((rd_T24 t180 x56_3).f0), .int .u64 ((rd_T24 t180 x56_3).f1), .int .u64 ((rd_T24 t180 x56_3).f2), .string ((rd_T24 t180 x56_3).f3), .string ((rd_T24 t180 x56_3).f4)], .agg #[.int .u64 ((rd_T24 t180 (ji73)).f0), .int .u64 ((rd_T24 t180 (ji73)).f1), .int .u64 ((rd_T24 t180 (ji73)).f2), .string ((rd_T24 t180 (ji73)).f3), .string ((rd_T24 t180 (ji73)).f4)]] (by rfl) rfl rfl (by (try simp only [List.map_toArray, List.map_cons, List.map_nil]); first | done | (simp only [hji73]; rfl) | rfl | (simp only [List.length_drop, List.length_take]; rfl)) ?_
                     with_reducible refine (impl_VersionLess.calls kj60 ((rd_T24 t180 x56_3).f0) ((rd_T24 t180 x56_3).f1) ((rd_T24 t180 x56_3).f2) ((rd_T24 t180 x56_3).f3) ((rd_T24 t180 x56_3).f4) ((rd_T24 t180 (ji73)).f0) ((rd_T24 t180 (ji73)).f1) ((rd_T24 t180 (ji73)).f2) ((rd_T24 t180 (ji73)).f3) ((rd_T24 t180 (ji73)).f4) true _ ?side1 A76.out).mono ?_
                     (case side1 => exact globE_below HGE.out (by repeat (first | (with_reducible first | exact HB.out | apply below_alloc | apply pw_below_drewN | apply below_drew1 | refine below_set ?_ GE173.out | refine below_set ?_ GE188.out) | exact HB.out)))
                     rintro e w92 ⟨rfl, hb⟩
                     have HS0_ := (hb.cell (World.block_lt_of_cell? _ _ (hHeld.1))).trans (hHeld.1)
                     have HS1_ := (hb.cell (World.block_lt_of_cell? _ _ (hHeld.2.1))).trans (hHeld.2.1)
                     have HS2_ := (hb.cell (World.block_lt_of_cell? _ _ (hHeld.2.2.1))).trans (hHeld.2.2.1)
                     have HS3_ := (hb.cell (World.block_lt_of_cell? _ _ (hHeld.2.2.2.1))).trans (hHeld.2.2.2.1)
                     have HS4_ := (hb.cell (World.block_lt_of_cell? _ _ (hHeld.2.2.2.2.1))).trans (hHeld.2.2.2.2.1)
                     have HS5_ := (hb.cell (World.block_lt_of_cell? _ _ (hHeld.2.2.2.2.2.1))).trans (hHeld.2.2.2.2.2.1)
                     have HS6_ := (hb.cell (World.block_lt_of_cell? _ _ (hHeld.2.2.2.2.2.2.1))).trans (hHeld.2.2.2.2.2.2.1)
                     have HS7_ := (hb.cell (World.block_lt_of_cell? _ _ (hHeld.2.2.2.2.2.2.2.1))).trans (hHeld.2.2.2.2.2.2.2.1)
                     have HS8_ := (hb.cell (World.block_lt_of_cell? _ _ (hHeld.2.2.2.2.2.2.2.2.1))).trans (hHeld.2.2.2.2.2.2.2.2.1)
                     have HS9_ := (hb.cell (World.block_lt_of_cell? _ _ (hHeld.2.2.2.2.2.2.2.2.2.1))).trans (hHeld.2.2.2.2.2.2.2.2.2.1)
                     have HS10_ := (hb.cell (World.block_lt_of_cell? _ _ (hHeld.2.2.2.2.2.2.2.2.2.2.1))).trans (hHeld.2.2.2.2.2.2.2.2.2.2.1)
                     have HS11_ := (hb.cell (World.block_lt_of_cell? _ _ (hHeld.2.2.2.2.2.2.2.2.2.2.2.1))).trans (hHeld.2.2.2.2.2.2.2.2.2.2.2.1)
                     have HS12_ := (hb.cell (World.block_lt_of_cell? _ _ (hHeld.2.2.2.2.2.2.2.2.2.2.2.2.1))).trans (hHeld.2.2.2.2.2.2.2.2.2.2.2.2.1)
                     have HS13_ := (hb.cell (World.block_lt_of_cell? _ _ (hHeld.2.2.2.2.2.2.2.2.2.2.2.2.2.1))).trans (hHeld.2.2.2.2.2.2.2.2.2.2.2.2.2.1)
                     have HS14_ := (hb.cell (World.block_lt_of_cell? _ _ (hHeld.2.2.2.2.2.2.2.2.2.2.2.2.2.2.1))).trans (hHeld.2.2.2.2.2.2.2.2.2.2.2.2.2.2.1)
                     have HS15_ := (hb.cell (World.block_lt_of_cell? _ _ (hHeld.2.2.2.2.2.2.2.2.2.2.2.2.2.2.2.1))).trans (hHeld.2.2.2.2.2.2.2.2.2.2.2.2.2.2.2.1)
                     have HS16_ := (hb.cell (World.block_lt_of_cell? _ _ (hHeld.2.2.2.2.2.2.2.2.2.2.2.2.2.2.2.2.1))).trans (hHeld.2.2.2.2.2.2.2.2.2.2.2.2.2.2.2.2.1)
                     have HS17_ := (hb.cell (World.block_lt_of_cell? _ _ (hHeld.2.2.2.2.2.2.2.2.2.2.2.2.2.2.2.2.2.1))).trans (hHeld.2.2.2.2.2.2.2.2.2.2.2.2.2.2.2.2.2.1)
                     have HS18_ := (hb.cell (World.block_lt_of_cell? _ _ (hHeld.2.2.2.2.2.2.2.2.2.2.2.2.2.2.2.2.2.2.1))).trans (hHeld.2.2.2.2.2.2.2.2.2.2.2.2.2.2.2.2.2.2.1)
                     have HS19_ := (hb.cell (World.block_lt_of_cell? _ _ (hHeld.2.2.2.2.2.2.2.2.2.2.2.2.2.2.2.2.2.2.2))).trans (hHeld.2.2.2.2.2.2.2.2.2.2.2.2.2.2.2.2.2.2.2)
                     refine ⟨_, rfl, ?_⟩
                     have n0_ := Aside0.mk (Kd.R_below (by (with_reducible repeat (first | apply Kd.R_alloc | apply Kd.R_drewN | apply Kd.R_drew)); exact HO_5.out) hb)
                     have n1_ := Aside0.mk (blk_below (g := gb173) (o := .cells #[.int .u64 a0_0, .int .u64 a0_1, .int .u64 a0_2, .string a0_3, .string a0_4] 24 (0, 0)) (by (with_reducible repeat (first | refine blk_drewN ?_ _ | refine blk_drew ?_ | refine blk_alloc ?_ _)); exact BK173.out) hb)
                     have n2_ := Aside0.mk (blk_below (g := gb188) (o := .cells #[.int .u64 x189000_60, .int .u64 x189001_60, .int .u64 x189002_60, .string x189003_60, .string x189004_60] 24 (0, 0)) (by (with_reducible repeat (first | refine blk_drewN ?_ _ | refine blk_drew ?_ | refine blk_alloc ?_ _)); exact BK188.out) hb)
                     have n3_ := Aside0.mk (below_step (by repeat (first | (with_reducible first | exact HB.out | apply below_alloc | apply pw_below_drewN | apply below_drew1 | refine below_set ?_ GE173.out | refine below_set ?_ GE188.out) | exact HB.out)) hb)
                     clear HO_5
                     clear BK173
                     clear BK188
                     clear HB
                     have HO_5 := n0_
                     have BK173 := n1_
                     have BK188 := n2_
                     have HB := n3_
                     clear n0_ n1_ n2_ n3_
                     (try clear hb)
                     (try clear hb2)
                     (try clear hk)
                     (try clear hi)
                     refine hK.out _ _ ⟨HS0_, HS1_, HS2_, HS3_, HS4_, HS5_, HS6_, HS7_, HS8_, HS9_, HS10_, HS11_, HS12_, HS13_, HS14_, HS15_, HS16_, HS17_, HS18_, HS19_⟩ (fun hHeld => ?_)
                     clear hK K
                     refine norm_ (a' := ?_) ?_ ?_
                     rotate_left
                     ·show Act.put _ (some 92) _ = _
                      simp only [Act.put, List.setIfInBounds_toArray, List.set_cons_zero, List.set_cons_succ, i64_w, i32_w]
                      rfl
                     refine pure_ (i := 10) (N := some 93) (v := ?_) (a' := ?_) #[true, true, true, true, true, true, true, true, true, true, true, false, false, false, false, false, false, false, false, false, false, false, false, false, false, false, false, false, false, false, false, false] rfl rfl (any_of HT_.out (by kernel_rfl)) (fun _ _ _ h => h) (Or.inl ⟨by rfl, ?_⟩) ?_ ?_
                     rotate_left
                     ·intro w'
                      go_simp
                      with_reducible rfl
                     rotate_left
                     ·simp only [Act.put, List.setIfInBounds_toArray, List.set_cons_zero, List.set_cons_succ, i64_w, i32_w]
                      rfl
                     refine pure_ (i := 11) (N := some 94) (v := ?_) (a' := ?_) #[true, true, true, true, true, true, true, true, true, true, true, true, false, false, false, false, false, false, false, false, false, false, false, false, false, false, false, false, false, false, false, false] rfl rfl (any_of HT_.out (by kernel_rfl)) (fun _ _ _ h => h) (Or.inl ⟨by rfl, ?_⟩) ?_ ?_
                     rotate_left
                     ·intro w'
                      go_simp
                      with_reducible rfl
                     rotate_left
                     ·simp only [Act.put, List.setIfInBounds_toArray, List.set_cons_zero, List.set_cons_succ, i64_w, i32_w]
                      rfl
                     refine pure_ (i := 12) (N := some 95) (v := ?_) (a' := ?_) #[true, true, true, true, true, true, true, true, true, true, true, true, true, false, false, false, false, false, false, false, false, false, false, false, false, false, false, false, false, false, false, false] rfl rfl (any_of HT_.out (by kernel_rfl)) (fun _ _ _ h => h) (Or.inl ⟨by rfl, ?_⟩) ?_ ?_
                     rotate_left
                     ·intro w'
                      go_simp
                      with_reducible rfl
                     rotate_left
                     ·simp only [Act.put, List.setIfInBounds_toArray, List.set_cons_zero, List.set_cons_succ, i64_w, i32_w]
                      rfl
                     refine pure_ (i := 13) (N := some 96) (v := ?_) (a' := ?_) #[true, true, true, true, true, true, true, true, true, true, true, true, true, true, false, false, false, false, false, false, false, false, false, false, false, false, false, false, false, false, false, false] rfl rfl (any_of HT_.out (by kernel_rfl)) (fun _ _ _ h => h) (Or.inl ⟨by rfl, ?_⟩) ?_ ?_
                     rotate_left
                     ·intro w'
                      go_simp
                      with_reducible rfl
                     rotate_left
                     ·simp only [Act.put, List.setIfInBounds_toArray, List.set_cons_zero, List.set_cons_succ, i64_w, i32_w]
                      rfl
                     refine pure_ (i := 15) (N := some 98) (v := ?_) (a' := ?_) #[true, true, true, true, true, true, true, true, true, true, true, true, true, true, false, true, false, false, false, false, false, false, false, false, false, false, false, false, false, false, false, false] rfl rfl (any_of HT_.out (by kernel_rfl)) (fun _ _ _ h => h) (Or.inl ⟨by rfl, ?_⟩) ?_ ?_
                     rotate_left
                     ·intro w'
                      go_simp
                      with_reducible rfl
                     rotate_left
                     ·simp only [Act.put, List.setIfInBounds_toArray, List.set_cons_zero, List.set_cons_succ, i64_w, i32_w]
                      rfl
                     refine pure_ (i := 16) (N := some 99) (v := ?_) (a' := ?_) #[true, true, true, true, true, true, true, true, true, true, true, true, true, true, false, true, true, false, false, false, false, false, false, false, false, false, false, false, false, false, false, false] rfl rfl (any_of HT_.out (by kernel_rfl)) (fun _ _ _ h => h) (Or.inl ⟨by rfl, ?_⟩) ?_ ?_
                     rotate_left
                     ·intro w'
                      go_simp
                      with_reducible rfl
                     rotate_left
                     ·simp only [Act.put, List.setIfInBounds_toArray, List.set_cons_zero, List.set_cons_succ, i64_w, i32_w]
                      rfl
                     refine pure_ (i := 17) (N := some 100) (v := ?_) (a' := ?_) #[true, true, true, true, true, true, true, true, true, true, true, true, true, true, false, true, true, true, false, false, false, false, false, false, false, false, false, false, false, false, false, false] rfl rfl (any_of HT_.out (by kernel_rfl)) (fun _ _ _ h => h) (Or.inl ⟨by rfl, ?_⟩) ?_ ?_
                     rotate_left
                     ·intro w'
                      go_simp
                      with_reducible rfl
                     rotate_left
                     ·simp only [Act.put, List.setIfInBounds_toArray, List.set_cons_zero, List.set_cons_succ, i64_w, i32_w]
                      rfl
                     refine pure_ (i := 18) (N := some 101) (v := ?_) (a' := ?_) #[true, true, true, true, true, true, true, true, true, true, true, true, true, true, false, true, true, true, true, false, false, false, false, false, false, false, false, false, false, false, false, false] rfl rfl (any_of HT_.out (by kernel_rfl)) (fun _ _ _ h => h) (Or.inl ⟨by rfl, ?_⟩) ?_ ?_
                     rotate_left
                     ·intro w'
                      go_simp
                      with_reducible rfl
                     rotate_left
                     ·simp only [Act.put, List.setIfInBounds_toArray, List.set_cons_zero, List.set_cons_succ, i64_w, i32_w]
                      rfl
                     refine take_ (i := 14) (N := some 97) (v := ?_) (a' := ?_) #[true, true, true, true, true, true, true, true, true, true, true, true, true, true, true, true, true, true, true, false, false, false, false, false, false, false, false, false, false, false, false, false] rfl rfl (take_ofW HT_.out HW_.out (by kernel_rfl)) (fun _ _ _ h => h) (Or.inl ⟨by rfl, ?_⟩) hHeld ?_ ?_
                     rotate_left
                     ·rintro w' ⟨s0, s1, s2, s3, s4, s5, s6, s7, s8, s9, s10, s11, s12, s13, s14, s15, s16, s17, s18, s19⟩
                      go_simp
                      with_reducible rfl
                     rotate_left
                     ·simp only [Act.put, List.setIfInBounds_toArray, List.set_cons_zero, List.set_cons_succ, i64_w, i32_w]
                      rfl
                     refine take_ (i := 19) (N := some 102) (v := ?_) (a' := ?_) #[true, true, true, true, true, true, true, true, true, true, true, true, true, true, true, true, true, true, true, true, false, false, false, false, false, false, false, false, false, false, false, false] rfl rfl (take_ofW HT_.out HW_.out (by kernel_rfl)) (fun _ _ _ h => h) (Or.inl ⟨by rfl, ?_⟩) hHeld ?_ ?_
                     rotate_left
                     ·rintro w' ⟨s0, s1, s2, s3, s4, s5, s6, s7, s8, s9, s10, s11, s12, s13, s14, s15, s16, s17, s18, s19⟩
                      go_simp
                      with_reducible rfl
                     rotate_left
                     ·simp only [Act.put, List.setIfInBounds_toArray, List.set_cons_zero, List.set_cons_succ, i64_w, i32_w]
                      rfl
                     refine one_ (i := 20) (N := some 103) #[true, true, true, true, true, true, true, true, true, true, true, true, true, true, true, true, true, true, true, true, true, false, false, false, false, false, false, false, false, false, false, false] rfl rfl (one_of HT_.out (by kernel_rfl)) (by decide) (fun K hK => ?_)
                     refine goes_ Tryd.func29 (by kernel_rfl) rfl #[.agg #[.int .u64 ((rd_T24 t180 0).f0), .int .u64 ((rd_T24 t180 0).f1), .int .u64 ((rd_T24 t180 0).f2), .string ((rd_T24 t180 0).f3), .string ((rd_T24 t180 0).f4)], .agg #[.int .u64 ((rd_T24 t180 (ji73)).f0), .int .u64 ((rd_T24 t180 (ji73)).f1), .int .u64 ((rd_T24 t180 (ji73)).f2), .string ((rd_T24 t180 (ji73)).f3), .string ((rd_T24 t180 (ji73)).f4)]] (by rfl) rfl rfl (by (try simp only [List.map_toArray, List.map_cons, List.map_nil]); first | done | (simp only [hji73]; rfl) | rfl | (simp only [List.length_drop, List.length_take]; rfl)) ?_
                     with_reducible refine (impl_VersionLess.calls kj60 ((rd_T24 t180 0).f0) ((rd_T24 t180 0).f1) ((rd_T24 t180 0).f2) ((rd_T24 t180 0).f3) ((rd_T24 t180 0).f4) ((rd_T24 t180 (ji73)).f0) ((rd_T24 t180 (ji73)).f1) ((rd_T24 t180 (ji73)).f2) ((rd_T24 t180 (ji73)).f3) ((rd_T24 t180 (ji73)).f4) false _ ?side1 A79.out).mono ?_
                     (case side1 => exact globE_below HGE.out (by repeat (first | (with_reducible first | exact HB.out | apply below_alloc | apply pw_below_drewN | apply below_drew1 | refine below_set ?_ GE173.out | refine below_set ?_ GE188.out) | exact HB.out)))
                     rintro e w93 ⟨rfl, hb⟩
                     have HS0_ := (hb.cell (World.block_lt_of_cell? _ _ (hHeld.1))).trans (hHeld.1)
                     have HS1_ := (hb.cell (World.block_lt_of_cell? _ _ (hHeld.2.1))).trans (hHeld.2.1)
                     have HS2_ := (hb.cell (World.block_lt_of_cell? _ _ (hHeld.2.2.1))).trans (hHeld.2.2.1)
                     have HS3_ := (hb.cell (World.block_lt_of_cell? _ _ (hHeld.2.2.2.1))).trans (hHeld.2.2.2.1)
                     have HS4_ := (hb.cell (World.block_lt_of_cell? _ _ (hHeld.2.2.2.2.1))).trans (hHeld.2.2.2.2.1)
                     have HS5_ := (hb.cell (World.block_lt_of_cell? _ _ (hHeld.2.2.2.2.2.1))).trans (hHeld.2.2.2.2.2.1)
                     have HS6_ := (hb.cell (World.block_lt_of_cell? _ _ (hHeld.2.2.2.2.2.2.1))).trans (hHeld.2.2.2.2.2.2.1)
                     have HS7_ := (hb.cell (World.block_lt_of_cell? _ _ (hHeld.2.2.2.2.2.2.2.1))).trans (hHeld.2.2.2.2.2.2.2.1)
                     have HS8_ := (hb.cell (World.block_lt_of_cell? _ _ (hHeld.2.2.2.2.2.2.2.2.1))).trans (hHeld.2.2.2.2.2.2.2.2.1)
                     have HS9_ := (hb.cell (World.block_lt_of_cell? _ _ (hHeld.2.2.2.2.2.2.2.2.2.1))).trans (hHeld.2.2.2.2.2.2.2.2.2.1)
                     have HS10_ := (hb.cell (World.block_lt_of_cell? _ _ (hHeld.2.2.2.2.2.2.2.2.2.2.1))).trans (hHeld.2.2.2.2.2.2.2.2.2.2.1)
                     have HS11_ := (hb.cell (World.block_lt_of_cell? _ _ (hHeld.2.2.2.2.2.2.2.2.2.2.2.1))).trans (hHeld.2.2.2.2.2.2.2.2.2.2.2.1)
                     have HS12_ := (hb.cell (World.block_lt_of_cell? _ _ (hHeld.2.2.2.2.2.2.2.2.2.2.2.2.1))).trans (hHeld.2.2.2.2.2.2.2.2.2.2.2.2.1)
                     have HS13_ := (hb.cell (World.block_lt_of_cell? _ _ (hHeld.2.2.2.2.2.2.2.2.2.2.2.2.2.1))).trans (hHeld.2.2.2.2.2.2.2.2.2.2.2.2.2.1)
                     have HS14_ := (hb.cell (World.block_lt_of_cell? _ _ (hHeld.2.2.2.2.2.2.2.2.2.2.2.2.2.2.1))).trans (hHeld.2.2.2.2.2.2.2.2.2.2.2.2.2.2.1)
                     have HS15_ := (hb.cell (World.block_lt_of_cell? _ _ (hHeld.2.2.2.2.2.2.2.2.2.2.2.2.2.2.2.1))).trans (hHeld.2.2.2.2.2.2.2.2.2.2.2.2.2.2.2.1)
                     have HS16_ := (hb.cell (World.block_lt_of_cell? _ _ (hHeld.2.2.2.2.2.2.2.2.2.2.2.2.2.2.2.2.1))).trans (hHeld.2.2.2.2.2.2.2.2.2.2.2.2.2.2.2.2.1)
                     have HS17_ := (hb.cell (World.block_lt_of_cell? _ _ (hHeld.2.2.2.2.2.2.2.2.2.2.2.2.2.2.2.2.2.1))).trans (hHeld.2.2.2.2.2.2.2.2.2.2.2.2.2.2.2.2.2.1)
                     have HS18_ := (hb.cell (World.block_lt_of_cell? _ _ (hHeld.2.2.2.2.2.2.2.2.2.2.2.2.2.2.2.2.2.2.1))).trans (hHeld.2.2.2.2.2.2.2.2.2.2.2.2.2.2.2.2.2.2.1)
                     have HS19_ := (hb.cell (World.block_lt_of_cell? _ _ (hHeld.2.2.2.2.2.2.2.2.2.2.2.2.2.2.2.2.2.2.2))).trans (hHeld.2.2.2.2.2.2.2.2.2.2.2.2.2.2.2.2.2.2.2)
                     refine ⟨_, rfl, ?_⟩
                     have n0_ := Aside0.mk (Kd.R_below (by (with_reducible repeat (first | apply Kd.R_alloc | apply Kd.R_drewN | apply Kd.R_drew)); exact HO_5.out) hb)
                     have n1_ := Aside0.mk (blk_below (g := gb173) (o := .cells #[.int .u64 a0_0, .int .u64 a0_1, .int .u64 a0_2, .string a0_3, .string a0_4] 24 (0, 0)) (by (with_reducible repeat (first | refine blk_drewN ?_ _ | refine blk_drew ?_ | refine blk_alloc ?_ _)); exact BK173.out) hb)
                     have n2_ := Aside0.mk (blk_below (g := gb188) (o := .cells #[.int .u64 x189000_60, .int .u64 x189001_60, .int .u64 x189002_60, .string x189003_60, .string x189004_60] 24 (0, 0)) (by (with_reducible repeat (first | refine blk_drewN ?_ _ | refine blk_drew ?_ | refine blk_alloc ?_ _)); exact BK188.out) hb)
                     have n3_ := Aside0.mk (below_step (by repeat (first | (with_reducible first | exact HB.out | apply below_alloc | apply pw_below_drewN | apply below_drew1 | refine below_set ?_ GE173.out | refine below_set ?_ GE188.out) | exact HB.out)) hb)
                     clear HO_5
                     clear BK173
                     clear BK188
                     clear HB
                     have HO_5 := n0_
                     have BK173 := n1_
                     have BK188 := n2_
                     have HB := n3_
                     clear n0_ n1_ n2_ n3_
                     (try clear hb)
                     (try clear hb2)
                     (try clear hk)
                     (try clear hi)
                     refine hK.out _ _ ⟨HS0_, HS1_, HS2_, HS3_, HS4_, HS5_, HS6_, HS7_, HS8_, HS9_, HS10_, HS11_, HS12_, HS13_, HS14_, HS15_, HS16_, HS17_, HS18_, HS19_⟩ (fun hHeld => ?_)
                     clear hK K
                     refine norm_ (a' := ?_) ?_ ?_
                     rotate_left
                     ·show Act.put _ (some 103) _ = _
                      simp only [Act.put, List.setIfInBounds_toArray, List.set_cons_zero, List.set_cons_succ, i64_w, i32_w]
                      rfl
                     refine pure_ (i := 21) (N := some 104) (v := ?_) (a' := ?_) #[true, true, true, true, true, true, true, true, true, true, true, true, true, true, true, true, true, true, true, true, true, true, false, false, false, false, false, false, false, false, false, false] rfl rfl (any_of HT_.out (by kernel_rfl)) (fun _ _ _ h => h) (Or.inl ⟨by rfl, ?_⟩) ?_ ?_
                     rotate_left
                     ·intro w'
                      go_simp
                      with_reducible rfl
                     rotate_left
                     ·simp only [Act.put, List.setIfInBounds_toArray, List.set_cons_zero, List.set_cons_succ, i64_w, i32_w]
                      rfl
                     refine pure_ (i := 22) (N := some 105) (v := ?_) (a' := ?_) #[true, true, true, true, true, true, true, true, true, true, true, true, true, true, true, true, true, true, true, true, true, true, true, false, false, false, false, false, false, false, false, false] rfl rfl (any_of HT_.out (by kernel_rfl)) (fun _ _ _ h => h) (Or.inl ⟨by rfl, ?_⟩) ?_ ?_
                     rotate_left
                     ·intro w'
                      go_simp
                      with_reducible rfl
                     rotate_left
                     ·simp only [Act.put, List.setIfInBounds_toArray, List.set_cons_zero, List.set_cons_succ, i64_w, i32_w]
                      rfl
                     refine pure_ (i := 23) (N := some 106) (v := ?_) (a' := ?_) #[true, true, true, true, true, true, true, true, true, true, true, true, true, true, true, true, true, true, true, true, true, true, true, true, false, false, false, false, false, false, false, false] rfl rfl (any_of HT_.out (by kernel_rfl)) (fun _ _ _ h => h) (Or.inl ⟨by rfl, ?_⟩) ?_ ?_
                     rotate_left
                     ·intro w'
                      go_simp
                      with_reducible rfl
                     rotate_left
                     ·simp only [Act.put, List.setIfInBounds_toArray, List.set_cons_zero, List.set_cons_succ, i64_w, i32_w]
                      rfl
                     refine pure_ (i := 24) (N := some 107) (v := undef) (a' := ?_) #[true, true, true, true, true, true, true, true, true, true, true, true, true, true, true, true, true, true, true, true, true, true, true, true, true, false, false, false, false, false, false, false] rfl rfl (any_of HT_.out (by kernel_rfl)) (fun _ _ _ h => h) (Or.inr ⟨by rfl, rfl⟩) ?_ ?_
                     rotate_left
                     ·simp only [Act.put, List.setIfInBounds_toArray, List.set_cons_zero, List.set_cons_succ, i64_w, i32_w]
                      rfl
                     refine pure_ (i := 25) (N := some 108) (v := undef) (a' := ?_) #[true, true, true, true, true, true, true, true, true, true, true, true, true, true, true, true, true, true, true, true, true, true, true, true, true, true, false, false, false, false, false, false] rfl rfl (any_of HT_.out (by kernel_rfl)) (fun _ _ _ h => h) (Or.inr ⟨by rfl, rfl⟩) ?_ ?_
                     rotate_left
                     ·simp only [Act.put, List.setIfInBounds_toArray, List.set_cons_zero, List.set_cons_succ, i64_w, i32_w]
                      rfl
                     refine pure_ (i := 26) (N := some 109) (v := undef) (a' := ?_) #[true, true, true, true, true, true, true, true, true, true, true, true, true, true, true, true, true, true, true, true, true, true, true, true, true, true, true, false, false, false, false, false] rfl rfl (any_of HT_.out (by kernel_rfl)) (fun _ _ _ h => h) (Or.inr ⟨by rfl, rfl⟩) ?_ ?_
                     rotate_left
                     ·simp only [Act.put, List.setIfInBounds_toArray, List.set_cons_zero, List.set_cons_succ, i64_w, i32_w]
                      rfl
                     refine pure_ (i := 27) (N := some 110) (v := undef) (a' := ?_) #[true, true, true, true, true, true, true, true, true, true, true, true, true, true, true, true, true, true, true, true, true, true, true, true, true, true, true, true, false, false, false, false] rfl rfl (any_of HT_.out (by kernel_rfl)) (fun _ _ _ h => h) (Or.inr ⟨by rfl, rfl⟩) ?_ ?_
                     rotate_left
                     ·simp only [Act.put, List.setIfInBounds_toArray, List.set_cons_zero, List.set_cons_succ, i64_w, i32_w]
                      rfl
                     refine pure_ (i := 28) (N := some 111) (v := undef) (a' := ?_) #[true, true, true, true, true, true, true, true, true, true, true, true, true, true, true, true, true, true, true, true, true, true, true, true, true, true, true, true, true, false, false, false] rfl rfl (any_of HT_.out (by kernel_rfl)) (fun _ _ _ h => h) (Or.inr ⟨by rfl, rfl⟩) ?_ ?_
                     rotate_left
                     ·simp only [Act.put, List.setIfInBounds_toArray, List.set_cons_zero, List.set_cons_succ, i64_w, i32_w]
                      rfl
                     refine pure_ (i := 29) (N := some 112) (v := undef) (a' := ?_) #[true, true, true, true, true, true, true, true, true, true, true, true, true, true, true, true, true, true, true, true, true, true, true, true, true, true, true, true, true, true, false, false] rfl rfl (any_of HT_.out (by kernel_rfl)) (fun _ _ _ h => h) (Or.inr ⟨by rfl, rfl⟩) ?_ ?_
                     rotate_left
                     ·simp only [Act.put, List.setIfInBounds_toArray, List.set_cons_zero, List.set_cons_succ, i64_w, i32_w]
                      rfl
                     refine pure_ (i := 30) (N := some 113) (v := undef) (a' := ?_) #[true, true, true, true, true, true, true, true, true, true, true, true, true, true, true, true, true, true, true, true, true, true, true, true, true, true, true, true, true, true, true, false] rfl rfl (any_of HT_.out (by kernel_rfl)) (fun _ _ _ h => h) (Or.inr ⟨by rfl, rfl⟩) ?_ ?_
                     rotate_left
                     ·simp only [Act.put, List.setIfInBounds_toArray, List.set_cons_zero, List.set_cons_succ, i64_w, i32_w]
                      rfl
                     refine pure_ (i := 31) (N := some 114) (v := ?_) (a' := ?_) #[true, true, true, true, true, true, true, true, true, true, true, true, true, true, true, true, true, true, true, true, true, true, true, true, true, true, true, true, true, true, true, true] rfl rfl (any_of HT_.out (by kernel_rfl)) (fun _ _ _ h => h) (Or.inl ⟨by rfl, ?_⟩) ?_ ?_
                     rotate_left
                     ·intro w'
                      go_simp
                      with_reducible rfl
                     rotate_left
                     ·simp only [Act.put, List.setIfInBounds_toArray, List.set_cons_zero, List.set_cons_succ, i64_w, i32_w]
                      rfl
                     refine done_ (done_of HT_.out (by kernel_rfl)) ?_
                     try go_wp2
                     go_ret
                     exact ⟨by first | rfl | (simp [errW_none, errW_some] <;> rfl) | (simp only [← hji73]; first | rfl | (simp [errW_none, errW_some] <;> rfl)) | (simp [*, errW_none, errW_some] <;> rfl), by repeat (first | (with_reducible first | exact HB.out | apply below_alloc | apply pw_below_drewN | apply below_drew1 | refine below_set ?_ GE173.out | refine below_set ?_ GE188.out) | exact HB.out)⟩
                   ·rw [if_neg c78] at H
                    exact absurd H (by simp)
                  ·replace c77 := Bool.eq_false_iff.mpr c77
                   subst c77
                   have H1 : (some false) = some r := by rw [if_neg (show ¬ (false = true) by decide)] at H; exact H
                   clear H
                   have H := H1
                   clear H1
                   obtain rfl := Option.some.inj H
                   try go_wp2
                   have n0_ := Aside0.mk (Kd.R_drew HO_5.out)
                   have n1_ := Aside0.mk (blk_drew BK173.out)
                   have n2_ := Aside0.mk (blk_drew BK188.out)
                   have n3_ := Aside0.mk (below_drew1 HB.out)
                   clear HO_5
                   clear BK173
                   clear BK188
                   clear HB
                   have HO_5 := n0_
                   have BK173 := n1_
                   have BK188 := n2_
                   have HB := n3_
                   clear n0_ n1_ n2_ n3_
                   obtain ⟨Ao95, co95, eo95⟩ := Kd.R_slice HO_5.out
                   (first | subst eo95 | (injection eo95 with f1_ f2_ f3_; have f4_ := f1_.symm; have f5_ := f3_.symm; clear f1_ f2_ f3_; subst f4_; subst f5_))
                   have p190 : 0 ≤ (x56_3 : Int) := of_decide_eq_true (by first | (with_reducible assumption) | assumption)
                   have q190 : x56_3 < (t180.length : Int) := of_decide_eq_true (by first | (with_reducible assumption) | assumption)
                   obtain ⟨ad190, e190, hx190_0, hx190_1, hx190_2, hx190_3, hx190_4⟩ := at_T24 (Kd.R_reads' HO_5.out).2.2 x56_3 p190 q190
                   cases e190
                   replace p190 := eq_true p190
                   replace q190 := eq_true q190
                   have p191 : 0 ≤ ((ji73) : Int) := of_decide_eq_true (by first | (with_reducible assumption) | assumption)
                   have q191 : (ji73) < (t180.length : Int) := of_decide_eq_true (by first | (with_reducible assumption) | assumption)
                   obtain ⟨ad191, e191, hx191_0, hx191_1, hx191_2, hx191_3, hx191_4⟩ := at_T24 (Kd.R_reads' HO_5.out).2.2 (ji73) p191 q191
                   obtain rfl : ad190 = ad191 := (by injection e191)
                   replace p191 := eq_true p191
                   replace q191 := eq_true q191
                   refine start_ (n := 32) (S := fun w' => w'.cell? (ad190.add ((x56_3).toNat * 5)) = some (.int .u64 ((rd_T24 t180 x56_3).f0)) ∧ w'.cell? ⟨(ad190.add ((x56_3).toNat * 5)).block, (ad190.add ((x56_3).toNat * 5)).off + 1, none⟩ = some (.int .u64 ((rd_T24 t180 x56_3).f1)) ∧ w'.cell? ⟨(ad190.add ((x56_3).toNat * 5)).block, (ad190.add ((x56_3).toNat * 5)).off + 2, none⟩ = some (.int .u64 ((rd_T24 t180 x56_3).f2)) ∧ w'.cell? ⟨(ad190.add ((x56_3).toNat * 5)).block, (ad190.add ((x56_3).toNat * 5)).off + 3, none⟩ = some (.string ((rd_T24 t180 x56_3).f3)) ∧ w'.cell? ⟨(ad190.add ((x56_3).toNat * 5)).block, (ad190.add ((x56_3).toNat * 5)).off + 4, none⟩ = some (.string ((rd_T24 t180 x56_3).f4)) ∧ w'.cell? (ad190.add (((ji73)).toNat * 5)) = some (.int .u64 ((rd_T24 t180 (ji73)).f0)) ∧ w'.cell? ⟨(ad190.add (((ji73)).toNat * 5)).block, (ad190.add (((ji73)).toNat * 5)).off + 1, none⟩ = some (.int .u64 ((rd_T24 t180 (ji73)).f1)) ∧ w'.cell? ⟨(ad190.add (((ji73)).toNat * 5)).block, (ad190.add (((ji73)).toNat * 5)).off + 2, none⟩ = some (.int .u64 ((rd_T24 t180 (ji73)).f2)) ∧ w'.cell? ⟨(ad190.add (((ji73)).toNat * 5)).block, (ad190.add (((ji73)).toNat * 5)).off + 3, none⟩ = some (.string ((rd_T24 t180 (ji73)).f3)) ∧ w'.cell? ⟨(ad190.add (((ji73)).toNat * 5)).block, (ad190.add (((ji73)).toNat * 5)).off + 4, none⟩ = some (.string ((rd_T24 t180 (ji73)).f4))) (ds := []) #[false, false, false, false, false, false, false, false, false, false, false, false, false, false, false, false, false, false, false, false, false, false, false, false, false, false, false, false, false, false, false, false] (by kernel_rfl) rfl rfl ⟨hx190_0, hx190_1, hx190_2, hx190_3, hx190_4, hx191_0, hx191_1, hx191_2, hx191_3, hx191_4⟩ (fun hHeld => ?_); refine with_tabW laws_FnSemverIncRun.tab16 laws_FnSemverIncRun.bits16 (fun HT_ HW_ => ?_)
                   generalize wc.drew = w94 at HO_5 BK173 BK188 HB hx190_0 hx190_1 hx190_2 hx190_3 hx190_4 hx191_0 hx191_1 hx191_2 hx191_3 hx191_4 hHeld ⊢
                   refine pure_ (i := 0) (N := some 83) (v := ?_) (a' := ?_) #[true, false, false, false, false, false, false, false, false, false, false, false, false, false, false, false, false, false, false, false, false, false, false, false, false, false, false, false, false, false, false, false] rfl rfl (any_of HT_.out (by kernel_rfl)) (fun _ _ _ h => h) (Or.inl ⟨by rfl, ?_⟩) ?_ ?_
                   rotate_left
                   ·intro w'
                    go_simp
                    with_reducible rfl
                   rotate_left
                   ·simp only [Act.put, List.setIfInBounds_toArray, List.set_cons_zero, List.set_cons_succ, i64_w, i32_w]
                    rfl
                   refine pure_ (i := 1) (N := some 84) (v := ?_) (a' := ?_) #[true, true, false, false, false, false, false, false, false, false, false, false, false, false, false, false, false, false, false, false, false, false, false, false, false, false, false, false, false, false, false, false] rfl rfl (any_of HT_.out (by kernel_rfl)) (fun _ _ _ h => h) (Or.inl ⟨by rfl, ?_⟩) ?_ ?_
                   rotate_left
                   ·intro w'
                    go_simp
                    with_reducible rfl
                   rotate_left
                   ·simp only [Act.put, List.setIfInBounds_toArray, List.set_cons_zero, List.set_cons_succ, i64_w, i32_w]
                    rfl
                   refine pure_ (i := 2) (N := some 85) (v := ?_) (a' := ?_) #[true, true, true, false, false, false, false, false, false, false, false, false, false, false, false, false, false, false, false, false, false, false, false, false, false, false, false, false, false, false, false, false] rfl rfl (any_of HT_.out (by kernel_rfl)) (fun _ _ _ h => h) (Or.inl ⟨by rfl, ?_⟩) ?_ ?_
                   rotate_left
                   ·intro w'
                    go_simp
                    with_reducible rfl
                   rotate_left
                   ·simp only [Act.put, List.setIfInBounds_toArray, List.set_cons_zero, List.set_cons_succ, i64_w, i32_w]
                    rfl
                   refine pure_ (i := 4) (N := some 87) (v := ?_) (a' := ?_) #[true, true, true, false, true, false, false, false, false, false, false, false, false, false, false, false, false, false, false, false, false, false, false, false, false, false, false, false, false, false, false, false] rfl rfl (any_of HT_.out (by kernel_rfl)) (fun _ _ _ h => h) (Or.inl ⟨by rfl, ?_⟩) ?_ ?_
                   rotate_left
                   ·intro w'
                    go_simp
                    with_reducible rfl
                   rotate_left
                   ·simp only [Act.put, List.setIfInBounds_toArray, List.set_cons_zero, List.set_cons_succ, i64_w, i32_w]
                    rfl
                   refine pure_ (i := 5) (N := some 88) (v := ?_) (a' := ?_) #[true, true, true, false, true, true, false, false, false, false, false, false, false, false, false, false, false, false, false, false, false, false, false, false, false, false, false, false, false, false, false, false] rfl rfl (any_of HT_.out (by kernel_rfl)) (fun _ _ _ h => h) (Or.inl ⟨by rfl, ?_⟩) ?_ ?_
                   rotate_left
                   ·intro w'
                    go_simp
                    with_reducible rfl
                   rotate_left
                   ·simp only [Act.put, List.setIfInBounds_toArray, List.set_cons_zero, List.set_cons_succ, i64_w, i32_w]
                    rfl
                   refine pure_ (i := 6) (N := some 89) (v := ?_) (a' := ?_) #[true, true, true, false, true, true, true, false, false, false, false, false, false, false, false, false, false, false, false, false, false, false, false, false, false, false, false, false, false, false, false, false] rfl rfl (any_of HT_.out (by kernel_rfl)) (fun _ _ _ h => h) (Or.inl ⟨by rfl, ?_⟩) ?_ ?_
                   rotate_left
                   ·intro w'
                    go_simp
                    with_reducible rfl
                   rotate_left
                   ·simp only [Act.put, List.setIfInBounds_toArray, List.set_cons_zero, List.set_cons_succ, i64_w, i32_w]
                    rfl
                   refine pure_ (i := 7) (N := some 90) (v := ?_) (a' := ?_) #[true, true, true, false, true, true, true, true, false, false, false, false, false, false, false, false, false, false, false, false, false, false, false, false, false, false, false, false, false, false, false, false] rfl rfl (any_of HT_.out (by kernel_rfl)) (fun _ _ _ h => h) (Or.inl ⟨by rfl, ?_⟩) ?_ ?_
                   rotate_left
                   ·intro w'
                    go_simp
                    with_reducible rfl
                   rotate_left
                   ·simp only [Act.put, List.setIfInBounds_toArray, List.set_cons_zero, List.set_cons_succ, i64_w, i32_w]
                    rfl
                   refine take_ (i := 3) (N := some 86) (v := ?_) (a' := ?_) #[true, true, true, true, true, true, true, true, false, false, false, false, false, false, false, false, false, false, false, false, false, false, false, false, false, false, false, false, false, false, false, false] rfl rfl (take_ofW HT_.out HW_.out (by kernel_rfl)) (fun _ _ _ h => h) (Or.inl ⟨by rfl, ?_⟩) hHeld ?_ ?_
                   rotate_left
                   ·rintro w' ⟨s0, s1, s2, s3, s4, s5, s6, s7, s8, s9⟩
                    go_simp
                    with_reducible rfl
                   rotate_left
                   ·simp only [Act.put, List.setIfInBounds_toArray, List.set_cons_zero, List.set_cons_succ, i64_w, i32_w]
                    rfl
                   refine take_ (i := 8) (N := some 91) (v := ?_) (a' := ?_) #[true, true, true, true, true, true, true, true, true, false, false, false, false, false, false, false, false, false, false, false, false, false, false, false, false, false, false, false, false, false, false, false] rfl rfl (take_ofW HT_.out HW_.out (by kernel_rfl)) (fun _ _ _ h => h) (Or.inl ⟨by rfl, ?_⟩) hHeld ?_ ?_
                   rotate_left
                   ·rintro w' ⟨s0, s1, s2, s3, s4, s5, s6, s7, s8, s9⟩
                    go_simp
                    with_reducible rfl
                   rotate_left
                   ·simp only [Act.put, List.setIfInBounds_toArray, List.set_cons_zero, List.set_cons_succ, i64_w, i32_w]
                    rfl
                   refine one_ (i := 9) (N := some 92) #[true, true, true, true, true, true, true, true, true, true, false, false, false, false, false, false, false, false, false, false, false, false, false, false, false, false, false, false, false, false, false, false] rfl rfl (one_of HT_.out (by kernel_rfl)) (by decide) (fun K hK => ?_)
                   refine goes_ Tryd.func29 (by kernel_rfl) rfl #[.agg #[.int .u64 ((rd_T24 t180 x56_3).f0), .int .u64 ((rd_T24 t180 x56_3).f1), .int .u64 ((rd_T24 t180 x56_3).f2), .string ((rd_T24 t180 x56_3).f3), .string ((rd_T24 t180 x56_3).f4)], .agg #[.int .u64 ((rd_T24 t180 (ji73)).f0), .int .u64 ((rd_T24 t180 (ji73)).f1), .int .u64 ((rd_T24 t180 (ji73)).f2), .string ((rd_T24 t180 (ji73)).f3), .string ((rd_T24 t180 (ji73)).f4)]] (by rfl) rfl rfl (by (try simp only [List.map_toArray, List.map_cons, List.map_nil]); first | done | (simp only [hji73]; rfl) | rfl | (simp only [List.length_drop, List.length_take]; rfl)) ?_
                   with_reducible refine (impl_VersionLess.calls kj60 ((rd_T24 t180 x56_3).f0) ((rd_T24 t180 x56_3).f1) ((rd_T24 t180 x56_3).f2) ((rd_T24 t180 x56_3).f3) ((rd_T24 t180 x56_3).f4) ((rd_T24 t180 (ji73)).f0) ((rd_T24 t180 (ji73)).f1) ((rd_T24 t180 (ji73)).f2) ((rd_T24 t180 (ji73)).f3) ((rd_T24 t180 (ji73)).f4) false _ ?side1 A76.out).mono ?_
                   (case side1 => exact globE_below HGE.out (by repeat (first | (with_reducible first | exact HB.out | apply below_alloc | apply pw_below_drewN | apply below_drew1 | refine below_set ?_ GE173.out | refine below_set ?_ GE188.out) | exact HB.out)))
                   rintro e w96 ⟨rfl, hb⟩
                   have HS0_ := (hb.cell (World.block_lt_of_cell? _ _ (hHeld.1))).trans (hHeld.1)
                   have HS1_ := (hb.cell (World.block_lt_of_cell? _ _ (hHeld.2.1))).trans (hHeld.2.1)
                   have HS2_ := (hb.cell (World.block_lt_of_cell? _ _ (hHeld.2.2.1))).trans (hHeld.2.2.1)
                   have HS3_ := (hb.cell (World.block_lt_of_cell? _ _ (hHeld.2.2.2.1))).trans (hHeld.2.2.2.1)
                   have HS4_ := (hb.cell (World.block_lt_of_cell? _ _ (hHeld.2.2.2.2.1))).trans (hHeld.2.2.2.2.1)
                   have HS5_ := (hb.cell (World.block_lt_of_cell? _ _ (hHeld.2.2.2.2.2.1))).trans (hHeld.2.2.2.2.2.1)
                   have HS6_ := (hb.cell (World.block_lt_of_cell? _ _ (hHeld.2.2.2.2.2.2.1))).trans (hHeld.2.2.2.2.2.2.1)
                   have HS7_ := (hb.cell (World.block_lt_of_cell? _ _ (hHeld.2.2.2.2.2.2.2.1))).trans (hHeld.2.2.2.2.2.2.2.1)
                   have HS8_ := (hb.cell (World.block_lt_of_cell? _ _ (hHeld.2.2.2.2.2.2.2.2.1))).trans (hHeld.2.2.2.2.2.2.2.2.1)
                   have HS9_ := (hb.cell (World.block_lt_of_cell? _ _ (hHeld.2.2.2.2.2.2.2.2.2))).trans (hHeld.2.2.2.2.2.2.2.2.2)
                   refine ⟨_, rfl, ?_⟩
                   have n0_ := Aside0.mk (Kd.R_below (by (with_reducible repeat (first | apply Kd.R_alloc | apply Kd.R_drewN | apply Kd.R_drew)); exact HO_5.out) hb)
                   have n1_ := Aside0.mk (blk_below (g := gb173) (o := .cells #[.int .u64 a0_0, .int .u64 a0_1, .int .u64 a0_2, .string a0_3, .string a0_4] 24 (0, 0)) (by (with_reducible repeat (first | refine blk_drewN ?_ _ | refine blk_drew ?_ | refine blk_alloc ?_ _)); exact BK173.out) hb)
                   have n2_ := Aside0.mk (blk_below (g := gb188) (o := .cells #[.int .u64 x189000_60, .int .u64 x189001_60, .int .u64 x189002_60, .string x189003_60, .string x189004_60] 24 (0, 0)) (by (with_reducible repeat (first | refine blk_drewN ?_ _ | refine blk_drew ?_ | refine blk_alloc ?_ _)); exact BK188.out) hb)
                   have n3_ := Aside0.mk (below_step (by repeat (first | (with_reducible first | exact HB.out | apply below_alloc | apply pw_below_drewN | apply below_drew1 | refine below_set ?_ GE173.out | refine below_set ?_ GE188.out) | exact HB.out)) hb)
                   clear HO_5
                   clear BK173
                   clear BK188
                   clear HB
                   have HO_5 := n0_
                   have BK173 := n1_
                   have BK188 := n2_
                   have HB := n3_
                   clear n0_ n1_ n2_ n3_
                   (try clear hb)
                   (try clear hb2)
                   (try clear hk)
                   (try clear hi)
                   refine hK.out _ _ ⟨HS0_, HS1_, HS2_, HS3_, HS4_, HS5_, HS6_, HS7_, HS8_, HS9_⟩ (fun hHeld => ?_)
                   clear hK K
                   refine norm_ (a' := ?_) ?_ ?_
                   rotate_left
                   ·show Act.put _ (some 92) _ = _
                    simp only [Act.put, List.setIfInBounds_toArray, List.set_cons_zero, List.set_cons_succ, i64_w, i32_w]
                    rfl
                   refine pure_ (i := 10) (N := some 93) (v := ?_) (a' := ?_) #[true, true, true, true, true, true, true, true, true, true, true, false, false, false, false, false, false, false, false, false, false, false, false, false, false, false, false, false, false, false, false, false] rfl rfl (any_of HT_.out (by kernel_rfl)) (fun _ _ _ h => h) (Or.inl ⟨by rfl, ?_⟩) ?_ ?_
                   rotate_left
                   ·intro w'
                    go_simp
                    with_reducible rfl
                   rotate_left
                   ·simp only [Act.put, List.setIfInBounds_toArray, List.set_cons_zero, List.set_cons_succ, i64_w, i32_w]
                    rfl
                   refine pure_ (i := 11) (N := some 94) (v := ?_) (a' := ?_) #[true, true, true, true, true, true, true, true, true, true, true, true, false, false, false, false, false, false, false, false, false, false, false, false, false, false, false, false, false, false, false, false] rfl rfl (any_of HT_.out (by kernel_rfl)) (fun _ _ _ h => h) (Or.inl ⟨by rfl, ?_⟩) ?_ ?_
                   rotate_left
                   ·intro w'
                    go_simp
                    with_reducible rfl
                   rotate_left
                   ·simp only [Act.put, List.setIfInBounds_toArray, List.set_cons_zero, List.set_cons_succ, i64_w, i32_w]
                    rfl
                   refine pure_ (i := 12) (N := some 95) (v := undef) (a' := ?_) #[true, true, true, true, true, true, true, true, true, true, true, true, true, false, false, false, false, false, false, false, false, false, false, false, false, false, false, false, false, false, false, false] rfl rfl (any_of HT_.out (by kernel_rfl)) (fun _ _ _ h => h) (Or.inr ⟨by rfl, rfl⟩) ?_ ?_
                   rotate_left
                   ·simp only [Act.put, List.setIfInBounds_toArray, List.set_cons_zero, List.set_cons_succ, i64_w, i32_w]
                    rfl
                   refine pure_ (i := 13) (N := some 96) (v := undef) (a' := ?_) #[true, true, true, true, true, true, true, true, true, true, true, true, true, true, false, false, false, false, false, false, false, false, false, false, false, false, false, false, false, false, false, false] rfl rfl (any_of HT_.out (by kernel_rfl)) (fun _ _ _ h => h) (Or.inr ⟨by rfl, rfl⟩) ?_ ?_
                   rotate_left
                   ·simp only [Act.put, List.setIfInBounds_toArray, List.set_cons_zero, List.set_cons_succ, i64_w, i32_w]
                    rfl
                   refine pure_ (i := 14) (N := some 97) (v := undef) (a' := ?_) #[true, true, true, true, true, true, true, true, true, true, true, true, true, true, true, false, false, false, false, false, false, false, false, false, false, false, false, false, false, false, false, false] rfl rfl (any_of HT_.out (by kernel_rfl)) (fun _ _ _ h => h) (Or.inr ⟨by rfl, rfl⟩) ?_ ?_
                   rotate_left
                   ·simp only [Act.put, List.setIfInBounds_toArray, List.set_cons_zero, List.set_cons_succ, i64_w, i32_w]
                    rfl
                   refine pure_ (i := 15) (N := some 98) (v := undef) (a' := ?_) #[true, true, true, true, true, true, true, true, true, true, true, true, true, true, true, true, false, false, false, false, false, false, false, false, false, false, false, false, false, false, false, false] rfl rfl (any_of HT_.out (by kernel_rfl)) (fun _ _ _ h => h) (Or.inr ⟨by rfl, rfl⟩) ?_ ?_
                   rotate_left
                   ·simp only [Act.put, List.setIfInBounds_toArray, List.set_cons_zero, List.set_cons_succ, i64_w, i32_w]
                    rfl
                   refine pure_ (i := 16) (N := some 99) (v := undef) (a' := ?_) #[true, true, true, true, true, true, true, true, true, true, true, true, true, true, true, true, true, false, false, false, false, false, false, false, false, false, false, false, false, false, false, false] rfl rfl (any_of HT_.out (by kernel_rfl)) (fun _ _ _ h => h) (Or.inr ⟨by rfl, rfl⟩) ?_ ?_
                   rotate_left
                   ·simp only [Act.put, List.setIfInBounds_toArray, List.set_cons_zero, List.set_cons_succ, i64_w, i32_w]
                    rfl
                   refine pure_ (i := 17) (N := some 100) (v := undef) (a' := ?_) #[true, true, true, true, true, true, true, true, true, true, true, true, true, true, true, true, true, true, false, false, false, false, false, false, false, false, false, false, false, false, false, false] rfl rfl (any_of HT_.out (by kernel_rfl)) (fun _ _ _ h => h) (Or.inr ⟨by rfl, rfl⟩) ?_ ?_
                   rotate_left
                   ·simp only [Act.put, List.setIfInBounds_toArray, List.set_cons_zero, List.set_cons_succ, i64_w, i32_w]
                    rfl
                   refine pure_ (i := 18) (N := some 101) (v := undef) (a' := ?_) #[true, true, true, true, true, true, true, true, true, true, true, true, true, true, true, true, true, true, true, false, false, false, false, false, false, false, false, false, false, false, false, false] rfl rfl (any_of HT_.out (by kernel_rfl)) (fun _ _ _ h => h) (Or.inr ⟨by rfl, rfl⟩) ?_ ?_
                   rotate_left
                   ·simp only [Act.put, List.setIfInBounds_toArray, List.set_cons_zero, List.set_cons_succ, i64_w, i32_w]
                    rfl
                   refine pure_ (i := 19) (N := some 102) (v := undef) (a' := ?_) #[true, true, true, true, true, true, true, true, true, true, true, true, true, true, true, true, true, true, true, true, false, false, false, false, false, false, false, false, false, false, false, false] rfl rfl (any_of HT_.out (by kernel_rfl)) (fun _ _ _ h => h) (Or.inr ⟨by rfl, rfl⟩) ?_ ?_
                   rotate_left
                   ·simp only [Act.put, List.setIfInBounds_toArray, List.set_cons_zero, List.set_cons_succ, i64_w, i32_w]
                    rfl
                   refine pure_ (i := 20) (N := some 103) (v := undef) (a' := ?_) #[true, true, true, true, true, true, true, true, true, true, true, true, true, true, true, true, true, true, true, true, true, false, false, false, false, false, false, false, false, false, false, false] rfl rfl (any_of HT_.out (by kernel_rfl)) (fun _ _ _ h => h) (Or.inr ⟨by rfl, rfl⟩) ?_ ?_
                   rotate_left
                   ·simp only [Act.put, List.setIfInBounds_toArray, List.set_cons_zero, List.set_cons_succ, i64_w, i32_w]
                    rfl
                   refine pure_ (i := 21) (N := some 104) (v := undef) (a' := ?_) #[true, true, true, true, true, true, true, true, true, true, true, true, true, true, true, true, true, true, true, true, true, true, false, false, false, false, false, false, false, false, false, false] rfl rfl (any_of HT_.out (by kernel_rfl)) (fun _ _ _ h => h) (Or.inr ⟨by rfl, rfl⟩) ?_ ?_
                   rotate_left
                   ·simp only [Act.put, List.setIfInBounds_toArray, List.set_cons_zero, List.set_cons_succ, i64_w, i32_w]
                    rfl
                   refine pure_ (i := 22) (N := some 105) (v := ?_) (a' := ?_) #[true, true, true, true, true, true, true, true, true, true, true, true, true, true, true, true, true, true, true, true, true, true, true, false, false, false, false, false, false, false, false, false] rfl rfl (any_of HT_.out (by kernel_rfl)) (fun _ _ _ h => h) (Or.inl ⟨by rfl, ?_⟩) ?_ ?_
                   rotate_left
                   ·intro w'
                    go_simp
                    with_reducible rfl
                   rotate_left
                   ·simp only [Act.put, List.setIfInBounds_toArray, List.set_cons_zero, List.set_cons_succ, i64_w, i32_w]
                    rfl
                   refine pure_ (i := 23) (N := some 106) (v := ?_) (a' := ?_) #[true, true, true, true, true, true, true, true, true, true, true, true, true, true, true, true, true, true, true, true, true, true, true, true, false, false, false, false, false, false, false, false] rfl rfl (any_of HT_.out (by kernel_rfl)) (fun _ _ _ h => h) (Or.inl ⟨by rfl, ?_⟩) ?_ ?_
                   rotate_left
                   ·intro w'
                    go_simp
                    with_reducible rfl
                   rotate_left
                   ·simp only [Act.put, List.setIfInBounds_toArray, List.set_cons_zero, List.set_cons_succ, i64_w, i32_w]
                    rfl
                   refine pure_ (i := 24) (N := some 107) (v := undef) (a' := ?_) #[true, true, true, true, true, true, true, true, true, true, true, true, true, true, true, true, true, true, true, true, true, true, true, true, true, false, false, false, false, false, false, false] rfl rfl (any_of HT_.out (by kernel_rfl)) (fun _ _ _ h => h) (Or.inr ⟨by rfl, rfl⟩) ?_ ?_
                   rotate_left
                   ·simp only [Act.put, List.setIfInBounds_toArray, List.set_cons_zero, List.set_cons_succ, i64_w, i32_w]
                    rfl
                   refine pure_ (i := 25) (N := some 108) (v := undef) (a' := ?_) #[true, true, true, true, true, true, true, true, true, true, true, true, true, true, true, true, true, true, true, true, true, true, true, true, true, true, false, false, false, false, false, false] rfl rfl (any_of HT_.out (by kernel_rfl)) (fun _ _ _ h => h) (Or.inr ⟨by rfl, rfl⟩) ?_ ?_
                   rotate_left
                   ·simp only [Act.put, List.setIfInBounds_toArray, List.set_cons_zero, List.set_cons_succ, i64_w, i32_w]
                    rfl
                   refine pure_ (i := 26) (N := some 109) (v := undef) (a' := ?_) #[true, true, true, true, true, true, true, true, true, true, true, true, true, true, true, true, true, true, true, true, true, true, true, true, true, true, true, false, false, false, false, false] rfl rfl (any_of HT_.out (by kernel_rfl)) (fun _ _ _ h => h) (Or.inr ⟨by rfl, rfl⟩) ?_ ?_
                   rotate_left
                   ·simp only [Act.put, List.setIfInBounds_toArray, List.set_cons_zero, List.set_cons_succ, i64_w, i32_w]
                    rfl
                   refine pure_ (i := 27) (N := some 110) (v := undef) (a' := ?_) #[true, true, true, true, true, true, true, true, true, true, true, true, true, true, true, true, true, true, true, true, true, true, true, true, true, true, true, true, false, false, false, false] rfl rfl (any_of HT_.out (by kernel_rfl)) (fun _ _ _ h => h) (Or.inr ⟨by rfl, rfl⟩) ?_ ?_
                   rotate_left
                   ·simp only [Act.put, List.setIfInBounds_toArray, List.set_cons_zero, List.set_cons_succ, i64_w, i32_w]
                    rfl
                   refine pure_ (i := 28) (N := some 111) (v := undef) (a' := ?_) #[true, true, true, true, true, true, true, true, true, true, true, true, true, true, true, true, true, true, true, true, true, true, true, true, true, true, true, true, true, false, false, false] rfl rfl (any_of HT_.out (by kernel_rfl)) (fun _ _ _ h => h) (Or.inr ⟨by rfl, rfl⟩) ?_ ?_
                   rotate_left
                   ·simp only [Act.put, List.setIfInBounds_toArray, List.set_cons_zero, List.set_cons_succ, i64_w, i32_w]
                    rfl
                   refine pure_ (i := 29) (N := some 112) (v := undef) (a' := ?_) #[true, true, true, true, true, true, true, true, true, true, true, true, true, true, true, true, true, true, true, true, true, true, true, true, true, true, true, true, true, true, false, false] rfl rfl (any_of HT_.out (by kernel_rfl)) (fun _ _ _ h => h) (Or.inr ⟨by rfl, rfl⟩) ?_ ?_
                   rotate_left
                   ·simp only [Act.put, List.setIfInBounds_toArray, List.set_cons_zero, List.set_cons_succ, i64_w, i32_w]
                    rfl
                   refine pure_ (i := 30) (N := some 113) (v := undef) (a' := ?_) #[true, true, true, true, true, true, true, true, true, true, true, true, true, true, true, true, true, true, true, true, true, true, true, true, true, true, true, true, true, true, true, false] rfl rfl (any_of HT_.out (by kernel_rfl)) (fun _ _ _ h => h) (Or.inr ⟨by rfl, rfl⟩) ?_ ?_
                   rotate_left
                   ·simp only [Act.put, List.setIfInBounds_toArray, List.set_cons_zero, List.set_cons_succ, i64_w, i32_w]
                    rfl
                   refine pure_ (i := 31) (N := some 114) (v := ?_) (a' := ?_) #[true, true, true, true, true, true, true, true, true, true, true, true, true, true, true, true, true, true, true, true, true, true, true, true, true, true, true, true, true, true, true, true] rfl rfl (any_of HT_.out (by kernel_rfl)) (fun _ _ _ h => h) (Or.inl ⟨by rfl, ?_⟩) ?_ ?_
                   rotate_left
                   ·intro w'
                    go_simp
                    with_reducible rfl
                   rotate_left
                   ·simp only [Act.put, List.setIfInBounds_toArray, List.set_cons_zero, List.set_cons_succ, i64_w, i32_w]
                    rfl
                   refine done_ (done_of HT_.out (by kernel_rfl)) ?_
                   try go_wp2
                   go_ret
                   exact ⟨by first | rfl | (simp [errW_none, errW_some] <;> rfl) | (simp only [← hji73]; first | rfl | (simp [errW_none, errW_some] <;> rfl)) | (simp [*, errW_none, errW_some] <;> rfl), by repeat (first | (with_reducible first | exact HB.out | apply below_alloc | apply pw_below_drewN | apply below_drew1 | refine below_set ?_ GE173.out | refine below_set ?_ GE188.out) | exact HB.out)⟩
                 ·rw [if_neg c75] at H
                  exact absurd H (by simp)
                ·rw [if_neg c74] at H
                 exact absurd H (by simp)
               ·rw [if_neg c72] at H
                exact absurd H (by simp)
              ·rw [if_neg c71] at H
               exact absurd H (by simp)
           ·rw [if_neg c60] at H
            exact absurd H (by simp)
          ·rw [if_neg c59] at H
           exact absurd H (by simp)
         ·rw [if_neg c58] at H
          have c58b0 : decide (x56_3 < (l1.length : Int)) = false := decide_eq_false c58
          clear c58
          obtain rfl := Option.some.inj H
          go_wp2
          go_ret
          exact ⟨by first | rfl | (simp [errW_none, errW_some] <;> rfl) | (simp [*, errW_none, errW_some] <;> rfl), by repeat (first | (with_reducible first | exact HB.out | apply below_alloc | apply pw_below_drewN | apply below_drew1 | refine below_set ?_ GE173.out | refine below_set ?_ GE188.out) | exact HB.out)⟩

end Go.Proofs.YtlooelfkkbgmhaaDoor.QS
