-- written by a program of mine (wip/tools/myprint.py) for this claim. Not trusted: Lean checks it.
import Derived.Test.YtlooelfkkbgmhaaDoorQSA
import Derived.Test.YtlooelfkkbgmhaaDoorCmp
import Derived.Test.YtlooelfkkbgmhaaDoorConMost
import Derived.Test.YtlooelfkkbgmhaaDoorGivTerms
namespace Go.Proofs.YtlooelfkkbgmhaaDoor.QS
open Go.RowKit Go.Proofs.YtlooelfkkbgmhaaDoorW.PrintWords Go.Proofs.YtlooelfkkbgmhaaDoorW.PrintLast
set_option linter.unusedVariables false
set_option linter.unusedSimpArgs false

/-! ### laws_FnSemverMostCompares: function 8 -/
def laws_FnSemverMostCompares.j0 : Nat → Bool → Int → Int → Int → ByteArray → ByteArray → Int → Int → Int → ByteArray → ByteArray → Option (Bool)
  | 0, _, _, _, _, _, _, _, _, _, _, _ => none
  | k + 1, x12, x189000, x189001, x189002, x189003, x189004, x190000, x190001, x190002, x190003, x190004 => if x12 = true then (some true) else ((laws_svGood.f k (([(⟨x189000, x189001, x189002, x189003, x189004⟩ : S24), (⟨x190000, x190001, x190002, x190003, x190004⟩ : S24)] : List (S24)))).bind fun t195 => (if t195 = true then ((laws_stTerm.f 0 x190000 x190001 x190002 x190003 x190004 3).bind fun bt196 => ((impl_MostHolds.f k bt196.1 bt196.2.1 bt196.2.2.1 bt196.2.2.2.1 bt196.2.2.2.2.1 bt196.2.2.2.2.2 x189000 x189001 x189002 x189003 x189004 true).bind fun t202 => ((impl_VersionLessEqual.f k x189000 x189001 x189002 x189003 x189004 x190000 x190001 x190002 x190003 x190004).bind fun t203 => (if (t202 == t203) = true then ((laws_stTerm.f 0 x189000 x189001 x189002 x189003 x189004 3).bind fun bt204 => ((impl_MostHolds.f k bt204.1 bt204.2.1 bt204.2.2.1 bt204.2.2.2.1 bt204.2.2.2.2.1 bt204.2.2.2.2.2 x189000 x189001 x189002 x189003 x189004 true).bind fun t210 => (some t210))) else (some false))))) else (some true)))
def laws_FnSemverMostCompares.f (k : Nat) (a0_0 : Int) (a0_1 : Int) (a0_2 : Int) (a0_3 : ByteArray) (a0_4 : ByteArray) (a1_0 : Int) (a1_1 : Int) (a1_2 : Int) (a1_3 : ByteArray) (a1_4 : ByteArray) : Option (Bool) := (laws_zzFits14.f a0_0 a0_1 a0_2 a0_3 a0_4).bind fun t190 => (if t190 = true then ((laws_zzFits14.f a1_0 a1_1 a1_2 a1_3 a1_4).bind fun t191 => (laws_FnSemverMostCompares.j0 k (!t191) a0_0 a0_1 a0_2 a0_3 a0_4 a1_0 a1_1 a1_2 a1_3 a1_4)) else (laws_FnSemverMostCompares.j0 k true a0_0 a0_1 a0_2 a0_3 a0_4 a1_0 a1_1 a1_2 a1_3 a1_4))
theorem laws_FnSemverMostCompares.mono_l : ∀ k, (∀ y0 y1 y2 y3 y4 y5 y6 y7 y8 y9 y10, LeO (laws_FnSemverMostCompares.j0 k y0 y1 y2 y3 y4 y5 y6 y7 y8 y9 y10) (laws_FnSemverMostCompares.j0 (k + 1) y0 y1 y2 y3 y4 y5 y6 y7 y8 y9 y10))
  | 0 => fun _ _ _ _ _ _ _ _ _ _ _ r h => by simp [laws_FnSemverMostCompares.j0] at h
  | k + 1 => by
    have ih0 := laws_FnSemverMostCompares.mono_l k
    · intro y0 y1 y2 y3 y4 y5 y6 y7 y8 y9 y10
      unfold laws_FnSemverMostCompares.j0
      repeat' first
      | (with_reducible exact ih0 _ _ _ _ _ _ _ _ _ _ _)
      | (with_reducible exact impl_MostHolds.mono _ _ _ _ _ _ _ _ _ _ _ _ _)
      | (with_reducible exact impl_VersionLessEqual.mono _ _ _ _ _ _ _ _ _ _ _)
      | (with_reducible exact laws_svGood.mono _ _)
      | (with_reducible exact LeO.refl _)
      | (with_reducible exact LeO.none _)
      | (with_reducible refine LeO.ite ?_ ?_)
      | (with_reducible refine LeO.bind ?_ (fun _ => ?_))
      | exact ih0 _ _ _ _ _ _ _ _ _ _ _
      | exact impl_MostHolds.mono _ _ _ _ _ _ _ _ _ _ _ _ _
      | exact impl_VersionLessEqual.mono _ _ _ _ _ _ _ _ _ _ _
      | exact laws_svGood.mono _ _
      | exact LeO.none _
      | refine LeO.ite ?_ ?_
      | refine LeO.bind ?_ (fun _ => ?_)
theorem laws_FnSemverMostCompares.mono : ∀ a0 a1 a2 a3 a4 a5 a6 a7 a8 a9 k, LeO (laws_FnSemverMostCompares.f k a0 a1 a2 a3 a4 a5 a6 a7 a8 a9) (laws_FnSemverMostCompares.f (k + 1) a0 a1 a2 a3 a4 a5 a6 a7 a8 a9) := by
  intro a0 a1 a2 a3 a4 a5 a6 a7 a8 a9 k
  have ih0 := laws_FnSemverMostCompares.mono_l k
  unfold laws_FnSemverMostCompares.f
  repeat' first
      | (with_reducible exact ih0 _ _ _ _ _ _ _ _ _ _ _)
      | (with_reducible exact impl_MostHolds.mono _ _ _ _ _ _ _ _ _ _ _ _ _)
      | (with_reducible exact impl_VersionLessEqual.mono _ _ _ _ _ _ _ _ _ _ _)
      | (with_reducible exact laws_svGood.mono _ _)
      | (with_reducible exact LeO.refl _)
      | (with_reducible exact LeO.none _)
      | (with_reducible refine LeO.ite ?_ ?_)
      | (with_reducible refine LeO.bind ?_ (fun _ => ?_))
      | exact ih0 _ _ _ _ _ _ _ _ _ _ _
      | exact impl_MostHolds.mono _ _ _ _ _ _ _ _ _ _ _ _ _
      | exact impl_VersionLessEqual.mono _ _ _ _ _ _ _ _ _ _ _
      | exact laws_svGood.mono _ _
      | exact LeO.none _
      | refine LeO.ite ?_ ?_
      | refine LeO.bind ?_ (fun _ => ?_)
def laws_FnSemverMostCompares.T5 : Bool × List (List Nat × List Nat) := (true, [([], []), ([0], [0]), ([], []), ([1, 2, 1], [1, 2]), ([], []), ([], []), ([4, 5, 3], [4, 5]), ([3, 6], [3, 6]), ([7, 6], [7]), ([8], [8]), ([9, 8, 8], [8, 9]), ([8], [8]), ([10, 11, 10, 8], [8, 10, 11]), ([8, 12], [8, 12]), ([13, 12, 0, 1, 2, 3, 4, 5, 6, 7, 8, 9, 10, 11, 12, 13], [13])])
def laws_FnSemverMostCompares.B5 : List Nat := [0, 1, 0, 7, 0, 0, 63, 127, 255, 511, 1023, 511, 4095, 8191, 16383]
theorem laws_FnSemverMostCompares.tab5 : rtab .any (opsOf Tryd.f8 5) = laws_FnSemverMostCompares.T5 := by kernel_rfl
theorem laws_FnSemverMostCompares.bits5 : waitsOk laws_FnSemverMostCompares.T5.2 laws_FnSemverMostCompares.B5 = true := by kernel_rfl
set_option maxHeartbeats 8000000 in
set_option maxRecDepth 100000 in
theorem laws_FnSemverMostCompares.calls (k : Nat) (a0_0 : Int) (a0_1 : Int) (a0_2 : Int) (a0_3 : ByteArray) (a0_4 : ByteArray) (a1_0 : Int) (a1_1 : Int) (a1_2 : Int) (a1_3 : ByteArray) (a1_4 : ByteArray) (r : Bool) (w : World) (hGE : GlobE w) (h : laws_FnSemverMostCompares.f k a0_0 a0_1 a0_2 a0_3 a0_4 a1_0 a1_1 a1_2 a1_3 a1_4 = some r) :
    Calls Tryd.prog 8 #[.agg #[.int .u64 a0_0, .int .u64 a0_1, .int .u64 a0_2, .string a0_3, .string a0_4], .agg #[.int .u64 a1_0, .int .u64 a1_1, .int .u64 a1_2, .string a1_3, .string a1_4]] w fun e w' => e = .returned (.bool r) ∧ Below w.heap.size w w' := by
  have hu24 := Tryd.underlying24
  have HGE := Aside0.mk hGE
  clear hGE
  have HB := Aside0.mk (Below.refl w.heap.size w)
  have H : ((laws_zzFits14.f a0_0 a0_1 a0_2 a0_3 a0_4).bind fun t190 => (if t190 = true then ((laws_zzFits14.f a1_0 a1_1 a1_2 a1_3 a1_4).bind fun t191 => (laws_FnSemverMostCompares.j0 k (!t191) a0_0 a0_1 a0_2 a0_3 a0_4 a1_0 a1_1 a1_2 a1_3 a1_4)) else (laws_FnSemverMostCompares.j0 k true a0_0 a0_1 a0_2 a0_3 a0_4 a1_0 a1_1 a1_2 a1_3 a1_4))) = some r := h
  clear h
  have HC3 := Aside0.mk H
  clear H
  go_enter Tryd.func8, Tryd.ntmps8
  go_upto_region 1 with (first | ((with_reducible refine gate_dst (N := 2) rfl ?_); refine box_event ?hg (N := 2) ?hd (cs := #[.int .u64 a0_0, .int .u64 a0_1, .int .u64 a0_2, .string a0_3, .string a0_4]) (t := 24) ?hr ?_; (case hd => rfl); (case hg => rfl); (case hr => first | (go_simp; done) | (go_simp; rfl)); intro gb188 hg w4 hbox hb; have n0_ := Aside0.mk (below_step (by repeat (first | (with_reducible first | exact HB.out | apply below_alloc | apply pw_below_drewN | apply below_drew1) | exact HB.out)) hb); have n1_ := Aside0.mk (hbox); have n2_ := Aside0.mk ((by rw [hg]; exact (below_size (by repeat (first | (with_reducible first | exact HB.out | apply below_alloc | apply pw_below_drewN | apply below_drew1) | exact HB.out))) : w.heap.size ≤ gb188)); have n3_ := Aside0.mk ((by rw [hg]; exact (below_size (by repeat (first | (with_reducible first | exact HB.out | apply below_alloc | apply pw_below_drewN | apply below_drew1) | exact HB.out))) : w.heap.size ≤ gb188)); clear HB; have HB := n0_; have BK188 := n1_; have GW188 := n2_; have GE188 := n3_; clear n0_ n1_ n2_ n3_; clear hb hbox hg) | ((with_reducible refine gate_dst (N := 3) rfl ?_); refine box_event ?hg (N := 3) ?hd (cs := #[.int .u64 a1_0, .int .u64 a1_1, .int .u64 a1_2, .string a1_3, .string a1_4]) (t := 24) ?hr ?_; (case hd => rfl); (case hg => rfl); (case hr => first | (go_simp; done) | (go_simp; rfl)); intro gb189 hg w5 hbox hb; have n0_ := Aside0.mk (blk_below (g := gb188) (o := .cells #[.int .u64 a0_0, .int .u64 a0_1, .int .u64 a0_2, .string a0_3, .string a0_4] 24 (0, 0)) (by (with_reducible repeat (first | refine blk_drewN ?_ _ | refine blk_drew ?_ | refine blk_alloc ?_ _)); exact BK188.out) hb); have n1_ := Aside0.mk (below_step (by repeat (first | (with_reducible first | exact HB.out | apply below_alloc | apply pw_below_drewN | apply below_drew1 | refine below_set ?_ GE188.out) | exact HB.out)) hb); have n2_ := Aside0.mk (hbox); have n3_ := Aside0.mk ((by rw [hg]; exact (below_size (by repeat (first | (with_reducible first | exact HB.out | apply below_alloc | apply pw_below_drewN | apply below_drew1 | refine below_set ?_ GE188.out) | exact HB.out))) : w.heap.size ≤ gb189)); have n4_ := Aside0.mk ((by rw [hg]; exact (below_size (by repeat (first | (with_reducible first | exact HB.out | apply below_alloc | apply pw_below_drewN | apply below_drew1 | refine below_set ?_ GE188.out) | exact HB.out))) : w.heap.size ≤ gb189)); have n5_ := Aside0.mk ((by rw [hg]; exact Nat.ne_of_lt (blk_lt (g := gb188) (o := .cells #[.int .u64 a0_0, .int .u64 a0_1, .int .u64 a0_2, .string a0_3, .string a0_4] 24 (0, 0)) (by (with_reducible repeat (first | refine blk_drewN ?_ _ | refine blk_drew ?_ | refine blk_alloc ?_ _)); exact BK188.out)) : gb188 ≠ gb189)); have n6_ := Aside0.mk ((by rw [hg]; exact Nat.ne_of_gt (blk_lt (g := gb188) (o := .cells #[.int .u64 a0_0, .int .u64 a0_1, .int .u64 a0_2, .string a0_3, .string a0_4] 24 (0, 0)) (by (with_reducible repeat (first | refine blk_drewN ?_ _ | refine blk_drew ?_ | refine blk_alloc ?_ _)); exact BK188.out)) : gb189 ≠ gb188)); clear BK188; clear HB; have BK188 := n0_; have HB := n1_; have BK189 := n2_; have GW189 := n3_; have GE189 := n4_; have NB188_189 := n5_; have NB189_188 := n6_; clear n0_ n1_ n2_ n3_ n4_ n5_ n6_; clear hb hbox hg))
  (try simp only [Act.put, List.setIfInBounds_toArray, List.set_cons_zero, List.set_cons_succ])
  go_cut [12] (fun v12 wc => ∃ (kq : Nat) (x12_2 : Bool), v12 = .bool x12_2 ∧ Aside0 (laws_FnSemverMostCompares.j0 kq x12_2 a0_0 a0_1 a0_2 a0_3 a0_4 a1_0 a1_1 a1_2 a1_3 a1_4 = some r) ∧ Aside0 (kq ≤ k) ∧ Aside0 (wc.heap[gb188]? = some (.cells #[.int .u64 a0_0, .int .u64 a0_1, .int .u64 a0_2, .string a0_3, .string a0_4] 24 (0, 0))) ∧ Aside0 (wc.heap[gb189]? = some (.cells #[.int .u64 a1_0, .int .u64 a1_1, .int .u64 a1_2, .string a1_3, .string a1_4] 24 (0, 0))) ∧ Aside0 (Below w.heap.size w wc))
  case first =>
    have H := HC3.out
    clear HC3
    replace H := Option.bind_eq_some_iff.mp H
    obtain ⟨t190, A60, H⟩ := H
    replace H : (if t190 = true then ((laws_zzFits14.f a1_0 a1_1 a1_2 a1_3 a1_4).bind fun t191 => (laws_FnSemverMostCompares.j0 k (!t191) a0_0 a0_1 a0_2 a0_3 a0_4 a1_0 a1_1 a1_2 a1_3 a1_4)) else (laws_FnSemverMostCompares.j0 k true a0_0 a0_1 a0_2 a0_3 a0_4 a1_0 a1_1 a1_2 a1_3 a1_4)) = some r := H
    have A6 := Aside0.mk A60
    clear A60
    by_cases c7 : t190 = true
    · subst c7
      have H1 : ((laws_zzFits14.f a1_0 a1_1 a1_2 a1_3 a1_4).bind fun t191 => (laws_FnSemverMostCompares.j0 k (!t191) a0_0 a0_1 a0_2 a0_3 a0_4 a1_0 a1_1 a1_2 a1_3 a1_4)) = some r := by rw [if_pos rfl] at H; exact H
      clear H
      have H := H1
      clear H1
      replace H := Option.bind_eq_some_iff.mp H
      obtain ⟨t191, A80, H⟩ := H
      replace H : (laws_FnSemverMostCompares.j0 k (!t191) a0_0 a0_1 a0_2 a0_3 a0_4 a1_0 a1_1 a1_2 a1_3 a1_4) = some r := H
      have A8 := Aside0.mk A80
      clear A80
      have H' := Aside0.mk H
      clear H
      have hnb9 := NB188_189.out
      have hnc9 := NB189_188.out
      have hcz10_0 : w5.cell? ⟨gb188, 0, none⟩ = some (.int .u64 a0_0) := (blk_cell BK188.out 0).trans rfl
      have hcz10_1 : w5.cell? ⟨gb188, 1, none⟩ = some (.int .u64 a0_1) := (blk_cell BK188.out 1).trans rfl
      have hcz10_2 : w5.cell? ⟨gb188, 2, none⟩ = some (.int .u64 a0_2) := (blk_cell BK188.out 2).trans rfl
      have hcz10_3 : w5.cell? ⟨gb188, 3, none⟩ = some (.string a0_3) := (blk_cell BK188.out 3).trans rfl
      have hcz10_4 : w5.cell? ⟨gb188, 4, none⟩ = some (.string a0_4) := (blk_cell BK188.out 4).trans rfl
      have hfz10_0 := blk_frozen BK188.out 0
      have hfz10_1 := blk_frozen BK188.out 1
      have hfz10_2 := blk_frozen BK188.out 2
      have hfz10_3 := blk_frozen BK188.out 3
      have hfz10_4 := blk_frozen BK188.out 4
      go_wp2_with (first | ((with_reducible refine only_callee (f := 17) rfl ?_); refine goesL_ (some 6) rfl rfl Tryd.func17 (by kernel_rfl) rfl #[.agg #[.int .u64 a0_0, .int .u64 a0_1, .int .u64 a0_2, .string a0_3, .string a0_4]] rfl (by (try simp only [List.map_toArray, List.map_cons, List.map_nil]); first | done | rfl | (simp only [List.length_drop, List.length_take]; rfl)) ?_; (with_reducible refine (laws_zzFits14.calls a0_0 a0_1 a0_2 a0_3 a0_4 true _ A6.out).mono ?_); rintro e w11 ⟨rfl, hb⟩; refine ⟨_, rfl, ?_⟩; have n0_ := Aside0.mk (blk_below (g := gb188) (o := .cells #[.int .u64 a0_0, .int .u64 a0_1, .int .u64 a0_2, .string a0_3, .string a0_4] 24 (0, 0)) (by (with_reducible repeat (first | refine blk_drewN ?_ _ | refine blk_drew ?_ | refine blk_alloc ?_ _)); exact BK188.out) hb); have n1_ := Aside0.mk (blk_below (g := gb189) (o := .cells #[.int .u64 a1_0, .int .u64 a1_1, .int .u64 a1_2, .string a1_3, .string a1_4] 24 (0, 0)) (by (with_reducible repeat (first | refine blk_drewN ?_ _ | refine blk_drew ?_ | refine blk_alloc ?_ _)); exact BK189.out) hb); have n2_ := Aside0.mk (below_step (by repeat (first | (with_reducible first | exact HB.out | apply below_alloc | apply pw_below_drewN | apply below_drew1 | refine below_set ?_ GE188.out | refine below_set ?_ GE189.out) | exact HB.out)) hb); clear BK188; clear BK189; clear HB; have BK188 := n0_; have BK189 := n1_; have HB := n2_; clear n0_ n1_ n2_; (try clear hb); (try clear hb2); (try clear hk); (try clear hi); have hcz12_0 : w11.cell? ⟨gb189, 0, none⟩ = some (.int .u64 a1_0) := (blk_cell BK189.out 0).trans rfl; have hcz12_1 : w11.cell? ⟨gb189, 1, none⟩ = some (.int .u64 a1_1) := (blk_cell BK189.out 1).trans rfl; have hcz12_2 : w11.cell? ⟨gb189, 2, none⟩ = some (.int .u64 a1_2) := (blk_cell BK189.out 2).trans rfl; have hcz12_3 : w11.cell? ⟨gb189, 3, none⟩ = some (.string a1_3) := (blk_cell BK189.out 3).trans rfl; have hcz12_4 : w11.cell? ⟨gb189, 4, none⟩ = some (.string a1_4) := (blk_cell BK189.out 4).trans rfl; have hfz12_0 := blk_frozen BK189.out 0; have hfz12_1 := blk_frozen BK189.out 1; have hfz12_2 := blk_frozen BK189.out 2; have hfz12_3 := blk_frozen BK189.out 3; have hfz12_4 := blk_frozen BK189.out 4) | (go_at_call 17; (with_reducible refine (laws_zzFits14.calls a1_0 a1_1 a1_2 a1_3 a1_4 t191 _ A8.out).mono ?_); rintro e w13 ⟨rfl, hb⟩; have n0_ := Aside0.mk (blk_below (g := gb188) (o := .cells #[.int .u64 a0_0, .int .u64 a0_1, .int .u64 a0_2, .string a0_3, .string a0_4] 24 (0, 0)) (by (with_reducible repeat (first | refine blk_drewN ?_ _ | refine blk_drew ?_ | refine blk_alloc ?_ _)); exact BK188.out) hb); have n1_ := Aside0.mk (blk_below (g := gb189) (o := .cells #[.int .u64 a1_0, .int .u64 a1_1, .int .u64 a1_2, .string a1_3, .string a1_4] 24 (0, 0)) (by (with_reducible repeat (first | refine blk_drewN ?_ _ | refine blk_drew ?_ | refine blk_alloc ?_ _)); exact BK189.out) hb); have n2_ := Aside0.mk (below_step (by repeat (first | (with_reducible first | exact HB.out | apply below_alloc | apply pw_below_drewN | apply below_drew1 | refine below_set ?_ GE188.out | refine below_set ?_ GE189.out) | exact HB.out)) hb); clear BK188; clear BK189; clear HB; have BK188 := n0_; have BK189 := n1_; have HB := n2_; clear n0_ n1_ n2_; (try clear hb); (try clear hb2); (try clear hk); (try clear hi)))
      go_meet
      case rel => exact ⟨_, (!t191), (by first | rfl | (simp; done) | (simp [*]; done) | (simp [nil_bne]; done)), H', ⟨by first | omega | exact Nat.le_refl _⟩, ⟨by (with_reducible repeat (first | refine blk_drewN ?_ _ | refine blk_drew ?_ | refine blk_alloc ?_ _)); exact BK188.out⟩, ⟨by (with_reducible repeat (first | refine blk_drewN ?_ _ | refine blk_drew ?_ | refine blk_alloc ?_ _)); exact BK189.out⟩, ⟨by repeat (first | (with_reducible first | exact HB.out | apply below_alloc | apply pw_below_drewN | apply below_drew1 | refine below_set ?_ GE188.out | refine below_set ?_ GE189.out) | exact HB.out)⟩⟩
    · replace c7 := Bool.eq_false_iff.mpr c7
      subst c7
      have H1 : (laws_FnSemverMostCompares.j0 k true a0_0 a0_1 a0_2 a0_3 a0_4 a1_0 a1_1 a1_2 a1_3 a1_4) = some r := by rw [if_neg (show ¬ (false = true) by decide)] at H; exact H
      clear H
      have H := H1
      clear H1
      have H' := Aside0.mk H
      clear H
      have hnb14 := NB188_189.out
      have hnc14 := NB189_188.out
      have hcz15_0 : w5.cell? ⟨gb188, 0, none⟩ = some (.int .u64 a0_0) := (blk_cell BK188.out 0).trans rfl
      have hcz15_1 : w5.cell? ⟨gb188, 1, none⟩ = some (.int .u64 a0_1) := (blk_cell BK188.out 1).trans rfl
      have hcz15_2 : w5.cell? ⟨gb188, 2, none⟩ = some (.int .u64 a0_2) := (blk_cell BK188.out 2).trans rfl
      have hcz15_3 : w5.cell? ⟨gb188, 3, none⟩ = some (.string a0_3) := (blk_cell BK188.out 3).trans rfl
      have hcz15_4 : w5.cell? ⟨gb188, 4, none⟩ = some (.string a0_4) := (blk_cell BK188.out 4).trans rfl
      have hfz15_0 := blk_frozen BK188.out 0
      have hfz15_1 := blk_frozen BK188.out 1
      have hfz15_2 := blk_frozen BK188.out 2
      have hfz15_3 := blk_frozen BK188.out 3
      have hfz15_4 := blk_frozen BK188.out 4
      go_wp2_with (first | ((with_reducible refine only_callee (f := 17) rfl ?_); refine goesL_ (some 6) rfl rfl Tryd.func17 (by kernel_rfl) rfl #[.agg #[.int .u64 a0_0, .int .u64 a0_1, .int .u64 a0_2, .string a0_3, .string a0_4]] rfl (by (try simp only [List.map_toArray, List.map_cons, List.map_nil]); first | done | rfl | (simp only [List.length_drop, List.length_take]; rfl)) ?_; (with_reducible refine (laws_zzFits14.calls a0_0 a0_1 a0_2 a0_3 a0_4 false _ A6.out).mono ?_); rintro e w16 ⟨rfl, hb⟩; refine ⟨_, rfl, ?_⟩; have n0_ := Aside0.mk (blk_below (g := gb188) (o := .cells #[.int .u64 a0_0, .int .u64 a0_1, .int .u64 a0_2, .string a0_3, .string a0_4] 24 (0, 0)) (by (with_reducible repeat (first | refine blk_drewN ?_ _ | refine blk_drew ?_ | refine blk_alloc ?_ _)); exact BK188.out) hb); have n1_ := Aside0.mk (blk_below (g := gb189) (o := .cells #[.int .u64 a1_0, .int .u64 a1_1, .int .u64 a1_2, .string a1_3, .string a1_4] 24 (0, 0)) (by (with_reducible repeat (first | refine blk_drewN ?_ _ | refine blk_drew ?_ | refine blk_alloc ?_ _)); exact BK189.out) hb); have n2_ := Aside0.mk (below_step (by repeat (first | (with_reducible first | exact HB.out | apply below_alloc | apply pw_below_drewN | apply below_drew1 | refine below_set ?_ GE188.out | refine below_set ?_ GE189.out) | exact HB.out)) hb); clear BK188; clear BK189; clear HB; have BK188 := n0_; have BK189 := n1_; have HB := n2_; clear n0_ n1_ n2_; (try clear hb); (try clear hb2); (try clear hk); (try clear hi)))
      go_meet
      case rel => exact ⟨_, (true), (by first | rfl | (simp; done) | (simp [*]; done) | (simp [nil_bne]; done)), H', ⟨by first | omega | exact Nat.le_refl _⟩, ⟨by (with_reducible repeat (first | refine blk_drewN ?_ _ | refine blk_drew ?_ | refine blk_alloc ?_ _)); exact BK188.out⟩, ⟨by (with_reducible repeat (first | refine blk_drewN ?_ _ | refine blk_drew ?_ | refine blk_alloc ?_ _)); exact BK189.out⟩, ⟨by repeat (first | (with_reducible first | exact HB.out | apply below_alloc | apply pw_below_drewN | apply below_drew1 | refine below_set ?_ GE188.out | refine below_set ?_ GE189.out) | exact HB.out)⟩⟩
  case rest =>
    clear HC3
    try clear c1
    try clear p2
    try clear c7
    try clear c8
    try clear c9
    try clear c14
    try clear hcz10_0
    try clear hcz10_1
    try clear hcz10_2
    try clear hcz10_3
    try clear hcz10_4
    try clear hcz12_0
    try clear hcz12_1
    try clear hcz12_2
    try clear hcz12_3
    try clear hcz12_4
    try clear hcz15_0
    try clear hcz15_1
    try clear hcz15_2
    try clear hcz15_3
    try clear hcz15_4
    try clear hfz10_0
    try clear hfz10_1
    try clear hfz10_2
    try clear hfz10_3
    try clear hfz10_4
    try clear hfz12_0
    try clear hfz12_1
    try clear hfz12_2
    try clear hfz12_3
    try clear hfz12_4
    try clear hfz15_0
    try clear hfz15_1
    try clear hfz15_2
    try clear hfz15_3
    try clear hfz15_4
    obtain ⟨kq, x12_2, rfl, HA, HJ2, BK188, BK189, HB⟩ := hcut
    cases kq with
    | zero => exact absurd HA.out (by simp [laws_FnSemverMostCompares.j0])
    | succ kj2 =>
      have H := HA.out
      clear HA
      simp only [laws_FnSemverMostCompares.j0] at H
      by_cases c17 : x12_2 = true
      · subst c17
        have H1 : (some true) = some r := by rw [if_pos rfl] at H; exact H
        clear H
        have H := H1
        clear H1
        obtain rfl := Option.some.inj H
        go_wp2
        go_ret
        exact ⟨by first | rfl | (simp [errW_none, errW_some] <;> rfl) | (simp [*, errW_none, errW_some] <;> rfl), by repeat (first | (with_reducible first | exact HB.out | apply below_alloc | apply pw_below_drewN | apply below_drew1 | refine below_set ?_ GE188.out | refine below_set ?_ GE189.out) | exact HB.out)⟩
      · replace c17 := Bool.eq_false_iff.mpr c17
        subst c17
        have H1 : ((laws_svGood.f kj2 (([(⟨a0_0, a0_1, a0_2, a0_3, a0_4⟩ : S24), (⟨a1_0, a1_1, a1_2, a1_3, a1_4⟩ : S24)] : List (S24)))).bind fun t195 => (if t195 = true then ((laws_stTerm.f 0 a1_0 a1_1 a1_2 a1_3 a1_4 3).bind fun bt196 => ((impl_MostHolds.f kj2 bt196.1 bt196.2.1 bt196.2.2.1 bt196.2.2.2.1 bt196.2.2.2.2.1 bt196.2.2.2.2.2 a0_0 a0_1 a0_2 a0_3 a0_4 true).bind fun t202 => ((impl_VersionLessEqual.f kj2 a0_0 a0_1 a0_2 a0_3 a0_4 a1_0 a1_1 a1_2 a1_3 a1_4).bind fun t203 => (if (t202 == t203) = true then ((laws_stTerm.f 0 a0_0 a0_1 a0_2 a0_3 a0_4 3).bind fun bt204 => ((impl_MostHolds.f kj2 bt204.1 bt204.2.1 bt204.2.2.1 bt204.2.2.2.1 bt204.2.2.2.2.1 bt204.2.2.2.2.2 a0_0 a0_1 a0_2 a0_3 a0_4 true).bind fun t210 => (some t210))) else (some false))))) else (some true))) = some r := by rw [if_neg (show ¬ (false = true) by decide)] at H; exact H
        clear H
        have H := H1
        clear H1
        obtain ⟨y192, hy192⟩ : ∃ y_ : List (S24), y_ = (([(⟨a0_0, a0_1, a0_2, a0_3, a0_4⟩ : S24), (⟨a1_0, a1_1, a1_2, a1_3, a1_4⟩ : S24)] : List (S24))) := ⟨_, rfl⟩
        replace H : ((laws_svGood.f kj2 y192).bind fun t195 => (if t195 = true then ((laws_stTerm.f 0 a1_0 a1_1 a1_2 a1_3 a1_4 3).bind fun bt196 => ((impl_MostHolds.f kj2 bt196.1 bt196.2.1 bt196.2.2.1 bt196.2.2.2.1 bt196.2.2.2.2.1 bt196.2.2.2.2.2 a0_0 a0_1 a0_2 a0_3 a0_4 true).bind fun t202 => ((impl_VersionLessEqual.f kj2 a0_0 a0_1 a0_2 a0_3 a0_4 a1_0 a1_1 a1_2 a1_3 a1_4).bind fun t203 => (if (t202 == t203) = true then ((laws_stTerm.f 0 a0_0 a0_1 a0_2 a0_3 a0_4 3).bind fun bt204 => ((impl_MostHolds.f kj2 bt204.1 bt204.2.1 bt204.2.2.1 bt204.2.2.2.1 bt204.2.2.2.2.1 bt204.2.2.2.2.2 a0_0 a0_1 a0_2 a0_3 a0_4 true).bind fun t210 => (some t210))) else (some false))))) else (some true))) = some r := by first | (rw [hy192]; with_reducible exact H) | (have H2_ := (Option.bind_some _ _).symm.trans H; rw [hy192]; with_reducible exact H2_) | (have H2_ := (Option.bind_some _ _).symm.trans H; with_reducible exact H2_) | with_reducible exact H | (rw [hy192]; exact H) | exact H
        have Ny192 := Aside0.mk hy192
        clear hy192
        replace H := Option.bind_eq_some_iff.mp H
        obtain ⟨t195, A180, H⟩ := H
        replace H : (if t195 = true then ((laws_stTerm.f 0 a1_0 a1_1 a1_2 a1_3 a1_4 3).bind fun bt196 => ((impl_MostHolds.f kj2 bt196.1 bt196.2.1 bt196.2.2.1 bt196.2.2.2.1 bt196.2.2.2.2.1 bt196.2.2.2.2.2 a0_0 a0_1 a0_2 a0_3 a0_4 true).bind fun t202 => ((impl_VersionLessEqual.f kj2 a0_0 a0_1 a0_2 a0_3 a0_4 a1_0 a1_1 a1_2 a1_3 a1_4).bind fun t203 => (if (t202 == t203) = true then ((laws_stTerm.f 0 a0_0 a0_1 a0_2 a0_3 a0_4 3).bind fun bt204 => ((impl_MostHolds.f kj2 bt204.1 bt204.2.1 bt204.2.2.1 bt204.2.2.2.1 bt204.2.2.2.2.1 bt204.2.2.2.2.2 a0_0 a0_1 a0_2 a0_3 a0_4 true).bind fun t210 => (some t210))) else (some false))))) else (some true)) = some r := H
        have A18 := Aside0.mk A180
        clear A180
        by_cases c19 : t195 = true
        · subst c19
          have H1 : ((laws_stTerm.f 0 a1_0 a1_1 a1_2 a1_3 a1_4 3).bind fun bt196 => ((impl_MostHolds.f kj2 bt196.1 bt196.2.1 bt196.2.2.1 bt196.2.2.2.1 bt196.2.2.2.2.1 bt196.2.2.2.2.2 a0_0 a0_1 a0_2 a0_3 a0_4 true).bind fun t202 => ((impl_VersionLessEqual.f kj2 a0_0 a0_1 a0_2 a0_3 a0_4 a1_0 a1_1 a1_2 a1_3 a1_4).bind fun t203 => (if (t202 == t203) = true then ((laws_stTerm.f 0 a0_0 a0_1 a0_2 a0_3 a0_4 3).bind fun bt204 => ((impl_MostHolds.f kj2 bt204.1 bt204.2.1 bt204.2.2.1 bt204.2.2.2.1 bt204.2.2.2.2.1 bt204.2.2.2.2.2 a0_0 a0_1 a0_2 a0_3 a0_4 true).bind fun t210 => (some t210))) else (some false))))) = some r := by rw [if_pos rfl] at H; exact H
          clear H
          have H := H1
          clear H1
          replace H := Option.bind_eq_some_iff.mp H
          obtain ⟨⟨t196, t197, t198, t199, t200, t201⟩, A200, H⟩ := H
          replace H : ((impl_MostHolds.f kj2 t196 t197 t198 t199 t200 t201 a0_0 a0_1 a0_2 a0_3 a0_4 true).bind fun t202 => ((impl_VersionLessEqual.f kj2 a0_0 a0_1 a0_2 a0_3 a0_4 a1_0 a1_1 a1_2 a1_3 a1_4).bind fun t203 => (if (t202 == t203) = true then ((laws_stTerm.f 0 a0_0 a0_1 a0_2 a0_3 a0_4 3).bind fun bt204 => ((impl_MostHolds.f kj2 bt204.1 bt204.2.1 bt204.2.2.1 bt204.2.2.2.1 bt204.2.2.2.2.1 bt204.2.2.2.2.2 a0_0 a0_1 a0_2 a0_3 a0_4 true).bind fun t210 => (some t210))) else (some false)))) = some r := H
          have A20 := Aside0.mk A200
          clear A200
          replace H := Option.bind_eq_some_iff.mp H
          obtain ⟨t202, A210, H⟩ := H
          replace H : ((impl_VersionLessEqual.f kj2 a0_0 a0_1 a0_2 a0_3 a0_4 a1_0 a1_1 a1_2 a1_3 a1_4).bind fun t203 => (if (t202 == t203) = true then ((laws_stTerm.f 0 a0_0 a0_1 a0_2 a0_3 a0_4 3).bind fun bt204 => ((impl_MostHolds.f kj2 bt204.1 bt204.2.1 bt204.2.2.1 bt204.2.2.2.1 bt204.2.2.2.2.1 bt204.2.2.2.2.2 a0_0 a0_1 a0_2 a0_3 a0_4 true).bind fun t210 => (some t210))) else (some false))) = some r := H
          have A21 := Aside0.mk A210
          clear A210
          replace H := Option.bind_eq_some_iff.mp H
          obtain ⟨t203, A220, H⟩ := H
          replace H : (if (t202 == t203) = true then ((laws_stTerm.f 0 a0_0 a0_1 a0_2 a0_3 a0_4 3).bind fun bt204 => ((impl_MostHolds.f kj2 bt204.1 bt204.2.1 bt204.2.2.1 bt204.2.2.2.1 bt204.2.2.2.2.1 bt204.2.2.2.2.2 a0_0 a0_1 a0_2 a0_3 a0_4 true).bind fun t210 => (some t210))) else (some false)) = some r := H
          have A22 := Aside0.mk A220
          clear A220
          by_cases c23 : (t202 == t203) = true
          · rw [if_pos c23] at H
            have c23b0 : (t202 == t203) = true := c23
            (try (have c23b1 : decide (t202 = t203) = true := by simpa using c23))
            (try (have c23b2 : (t202 == t203) = true := by simpa using c23))
            clear c23
            replace H := Option.bind_eq_some_iff.mp H
            obtain ⟨⟨t204, t205, t206, t207, t208, t209⟩, A240, H⟩ := H
            replace H : ((impl_MostHolds.f kj2 t204 t205 t206 t207 t208 t209 a0_0 a0_1 a0_2 a0_3 a0_4 true).bind fun t210 => (some t210)) = some r := H
            have A24 := Aside0.mk A240
            clear A240
            replace H := Option.bind_eq_some_iff.mp H
            obtain ⟨t210, A250, H⟩ := H
            replace H : (some t210) = some r := H
            have A25 := Aside0.mk A250
            clear A250
            obtain rfl := Option.some.inj H
            have hnb26 := NB188_189.out
            have hnc26 := NB189_188.out
            have hcz27_0 : wc.cell? ⟨gb188, 0, none⟩ = some (.int .u64 a0_0) := (blk_cell BK188.out 0).trans rfl
            have hcz27_1 : wc.cell? ⟨gb188, 1, none⟩ = some (.int .u64 a0_1) := (blk_cell BK188.out 1).trans rfl
            have hcz27_2 : wc.cell? ⟨gb188, 2, none⟩ = some (.int .u64 a0_2) := (blk_cell BK188.out 2).trans rfl
            have hcz27_3 : wc.cell? ⟨gb188, 3, none⟩ = some (.string a0_3) := (blk_cell BK188.out 3).trans rfl
            have hcz27_4 : wc.cell? ⟨gb188, 4, none⟩ = some (.string a0_4) := (blk_cell BK188.out 4).trans rfl
            have hfz27_0 := blk_frozen BK188.out 0
            have hfz27_1 := blk_frozen BK188.out 1
            have hfz27_2 := blk_frozen BK188.out 2
            have hfz27_3 := blk_frozen BK188.out 3
            have hfz27_4 := blk_frozen BK188.out 4
            have hcz28_0 : wc.cell? ⟨gb189, 0, none⟩ = some (.int .u64 a1_0) := (blk_cell BK189.out 0).trans rfl
            have hcz28_1 : wc.cell? ⟨gb189, 1, none⟩ = some (.int .u64 a1_1) := (blk_cell BK189.out 1).trans rfl
            have hcz28_2 : wc.cell? ⟨gb189, 2, none⟩ = some (.int .u64 a1_2) := (blk_cell BK189.out 2).trans rfl
            have hcz28_3 : wc.cell? ⟨gb189, 3, none⟩ = some (.string a1_3) := (blk_cell BK189.out 3).trans rfl
            have hcz28_4 : wc.cell? ⟨gb189, 4, none⟩ = some (.string a1_4) := (blk_cell BK189.out 4).trans rfl
            have hfz28_0 := blk_frozen BK189.out 0
            have hfz28_1 := blk_frozen BK189.out 1
            have hfz28_2 := blk_frozen BK189.out 2
            have hfz28_3 := blk_frozen BK189.out 3
            have hfz28_4 := blk_frozen BK189.out 4
            try go_wp2_with (first | ((with_reducible refine gate_dst (N := 15) rfl ?_); refine Kd.R_lit k24 _ 24 ?hg (N := 15) ?hd (xs := ([(⟨a0_0, a0_1, a0_2, a0_3, a0_4⟩ : S24), (⟨a1_0, a1_1, a1_2, a1_3, a1_4⟩ : S24)] : List (S24))) (inner := [.int .u64 a0_0, .int .u64 a0_1, .int .u64 a0_2, .string a0_3, .string a0_4, .int .u64 a1_0, .int .u64 a1_1, .int .u64 a1_2, .string a1_3, .string a1_4]) (ok := fun _ => True) (okp := fun _ => True) ?hr ?hp (fun _ hk => hk) trivial (Below.refl _ _) (Nat.le_refl _) (by simp) ?_; (case hd => rfl); (case hg => rfl); (case hr => first | (go_simp; done) | (go_simp; rfl)); (case hp => exact (Reps.c5 (show Kd.M k24 _ _ _ (⟨a0_0, a0_1, a0_2, a0_3, a0_4⟩ : S24) [.int .u64 a0_0, .int .u64 a0_1, .int .u64 a0_2, .string a0_3, .string a0_4] from (k24_mkM _ _ _ (⟨a0_0, a0_1, a0_2, a0_3, a0_4⟩ : S24) )) (Reps.c5 (show Kd.M k24 _ _ _ (⟨a1_0, a1_1, a1_2, a1_3, a1_4⟩ : S24) [.int .u64 a1_0, .int .u64 a1_1, .int .u64 a1_2, .string a1_3, .string a1_4] from (k24_mkM _ _ _ (⟨a1_0, a1_1, a1_2, a1_3, a1_4⟩ : S24) )) (Reps.none _ _)))); intro v193 w29 ho30 hb hg_ hnew_; clear hg_ hnew_; (first | rw [← Ny192.out] at ho30 | (simp only [Int.reduceToNat] at ho30; rw [← Ny192.out] at ho30)); have n0_ := Aside0.mk (Kd.R_lower (Kd.R_newB (Kd.R_newB ho30 (g := gb188) (o := .cells #[.int .u64 a0_0, .int .u64 a0_1, .int .u64 a0_2, .string a0_3, .string a0_4] 24 (0, 0)) (by (with_reducible repeat (first | refine blk_drewN ?_ _ | refine blk_drew ?_ | refine blk_alloc ?_ _)); exact BK188.out)) (g := gb189) (o := .cells #[.int .u64 a1_0, .int .u64 a1_1, .int .u64 a1_2, .string a1_3, .string a1_4] 24 (0, 0)) (by (with_reducible repeat (first | refine blk_drewN ?_ _ | refine blk_drew ?_ | refine blk_alloc ?_ _)); exact BK189.out)) (below_size (by repeat (first | (with_reducible first | exact HB.out | apply below_alloc | apply pw_below_drewN | apply below_drew1 | refine below_set ?_ GE188.out | refine below_set ?_ GE189.out) | exact HB.out)))); have n1_ := Aside0.mk (blk_below (g := gb188) (o := .cells #[.int .u64 a0_0, .int .u64 a0_1, .int .u64 a0_2, .string a0_3, .string a0_4] 24 (0, 0)) (by (with_reducible repeat (first | refine blk_drewN ?_ _ | refine blk_drew ?_ | refine blk_alloc ?_ _)); exact BK188.out) hb); have n2_ := Aside0.mk (blk_below (g := gb189) (o := .cells #[.int .u64 a1_0, .int .u64 a1_1, .int .u64 a1_2, .string a1_3, .string a1_4] 24 (0, 0)) (by (with_reducible repeat (first | refine blk_drewN ?_ _ | refine blk_drew ?_ | refine blk_alloc ?_ _)); exact BK189.out) hb); have n3_ := Aside0.mk (below_step (by repeat (first | (with_reducible first | exact HB.out | apply below_alloc | apply pw_below_drewN | apply below_drew1 | refine below_set ?_ GE188.out | refine below_set ?_ GE189.out) | exact HB.out)) hb); clear BK188; clear BK189; clear HB; have HO194 := n0_; have BK188 := n1_; have BK189 := n2_; have HB := n3_; clear n0_ n1_ n2_ n3_; clear hb ho30; obtain ⟨Ao31, co31, eo31⟩ := Kd.R_slice HO194.out; subst eo31) | ((with_reducible refine only_callee (f := 18) rfl ?_); refine goesL_ (some 16) rfl rfl Tryd.func18 (by kernel_rfl) rfl #[.slice Ao31 y192.length co31] rfl (by (try simp only [List.map_toArray, List.map_cons, List.map_nil]); first | done | rfl | (simp only [List.length_drop, List.length_take]; rfl)) ?_; (with_reducible refine (laws_svGood.calls kj2 _ _ y192 true _ ?side1 ?side2 A18.out).mono ?_); (case side1 => repeat (first | exact (Kd.R_reads' HO194.out).2.2 | (with_reducible refine Kd.C_alloc ?_ _) | (with_reducible refine Kd.C_drewN ?_ _) | (with_reducible refine Kd.C_drew ?_))); (case side2 => exact (Kd.R_reads' HO194.out).2.1); rintro e w32 ⟨rfl, hb⟩; refine ⟨_, rfl, ?_⟩; have n0_ := Aside0.mk (Kd.R_below (by (with_reducible repeat (first | apply Kd.R_alloc | apply Kd.R_drewN | apply Kd.R_drew)); exact HO194.out) hb); have n1_ := Aside0.mk (blk_below (g := gb188) (o := .cells #[.int .u64 a0_0, .int .u64 a0_1, .int .u64 a0_2, .string a0_3, .string a0_4] 24 (0, 0)) (by (with_reducible repeat (first | refine blk_drewN ?_ _ | refine blk_drew ?_ | refine blk_alloc ?_ _)); exact BK188.out) hb); have n2_ := Aside0.mk (blk_below (g := gb189) (o := .cells #[.int .u64 a1_0, .int .u64 a1_1, .int .u64 a1_2, .string a1_3, .string a1_4] 24 (0, 0)) (by (with_reducible repeat (first | refine blk_drewN ?_ _ | refine blk_drew ?_ | refine blk_alloc ?_ _)); exact BK189.out) hb); have n3_ := Aside0.mk (below_step (by repeat (first | (with_reducible first | exact HB.out | apply below_alloc | apply pw_below_drewN | apply below_drew1 | refine below_set ?_ GE188.out | refine below_set ?_ GE189.out) | exact HB.out)) hb); clear HO194; clear BK188; clear BK189; clear HB; have HO194 := n0_; have BK188 := n1_; have BK189 := n2_; have HB := n3_; clear n0_ n1_ n2_ n3_; (try clear hb); (try clear hb2); (try clear hk); (try clear hi)))
            have n0_ := Aside0.mk (Kd.R_drew HO194.out)
            have n1_ := Aside0.mk (blk_drew BK188.out)
            have n2_ := Aside0.mk (blk_drew BK189.out)
            have n3_ := Aside0.mk (below_drew1 HB.out)
            clear HO194
            clear BK188
            clear BK189
            clear HB
            have HO194 := n0_
            have BK188 := n1_
            have BK189 := n2_
            have HB := n3_
            clear n0_ n1_ n2_ n3_
            refine start_ (n := 15) (S := fun w' => w'.cell? ⟨gb189, 0, none⟩ = some (.int .u64 a1_0) ∧ w'.cell? ⟨gb189, 1, none⟩ = some (.int .u64 a1_1) ∧ w'.cell? ⟨gb189, 2, none⟩ = some (.int .u64 a1_2) ∧ w'.cell? ⟨gb189, 3, none⟩ = some (.string a1_3) ∧ w'.cell? ⟨gb189, 4, none⟩ = some (.string a1_4) ∧ w'.cell? ⟨gb188, 0, none⟩ = some (.int .u64 a0_0) ∧ w'.cell? ⟨gb188, 1, none⟩ = some (.int .u64 a0_1) ∧ w'.cell? ⟨gb188, 2, none⟩ = some (.int .u64 a0_2) ∧ w'.cell? ⟨gb188, 3, none⟩ = some (.string a0_3) ∧ w'.cell? ⟨gb188, 4, none⟩ = some (.string a0_4)) (ds := []) #[false, false, false, false, false, false, false, false, false, false, false, false, false, false, false] (by kernel_rfl) rfl rfl ⟨(blk_cell BK189.out 0).trans rfl, (blk_cell BK189.out 1).trans rfl, (blk_cell BK189.out 2).trans rfl, (blk_cell BK189.out 3).trans rfl, (blk_cell BK189.out 4).trans rfl, (blk_cell BK188.out 0).trans rfl, (blk_cell BK188.out 1).trans rfl, (blk_cell BK188.out 2).trans rfl, (blk_cell BK188.out 3).trans rfl, (blk_cell BK188.out 4).trans rfl⟩ (fun hHeld => ?_); refine with_tabW laws_FnSemverMostCompares.tab5 laws_FnSemverMostCompares.bits5 (fun HT_ HW_ => ?_)
            generalize w32.drew = w33 at HO194 BK188 BK189 HB hHeld ⊢
            refine take_ (i := 0) (N := some 18) (v := ?_) (a' := ?_) #[true, false, false, false, false, false, false, false, false, false, false, false, false, false, false] rfl rfl (take_ofW HT_.out HW_.out (by kernel_rfl)) (fun _ _ _ h => h) (Or.inl ⟨by rfl, ?_⟩) hHeld ?_ ?_
            rotate_left
            · rintro w' ⟨s0, s1, s2, s3, s4, s5, s6, s7, s8, s9⟩
              go_simp
              with_reducible rfl
            rotate_left
            · simp only [Act.put, List.setIfInBounds_toArray, List.set_cons_zero, List.set_cons_succ, i64_w, i32_w]
              rfl
            refine take_ (i := 2) (N := some 20) (v := ?_) (a' := ?_) #[true, false, true, false, false, false, false, false, false, false, false, false, false, false, false] rfl rfl (take_ofW HT_.out HW_.out (by kernel_rfl)) (fun _ _ _ h => h) (Or.inl ⟨by rfl, ?_⟩) hHeld ?_ ?_
            rotate_left
            · rintro w' ⟨s0, s1, s2, s3, s4, s5, s6, s7, s8, s9⟩
              go_simp
              with_reducible rfl
            rotate_left
            · simp only [Act.put, List.setIfInBounds_toArray, List.set_cons_zero, List.set_cons_succ, i64_w, i32_w]
              rfl
            refine take_ (i := 4) (N := some 22) (v := ?_) (a' := ?_) #[true, false, true, false, true, false, false, false, false, false, false, false, false, false, false] rfl rfl (take_ofW HT_.out HW_.out (by kernel_rfl)) (fun _ _ _ h => h) (Or.inl ⟨by rfl, ?_⟩) hHeld ?_ ?_
            rotate_left
            · rintro w' ⟨s0, s1, s2, s3, s4, s5, s6, s7, s8, s9⟩
              go_simp
              with_reducible rfl
            rotate_left
            · simp only [Act.put, List.setIfInBounds_toArray, List.set_cons_zero, List.set_cons_succ, i64_w, i32_w]
              rfl
            refine take_ (i := 5) (N := some 23) (v := ?_) (a' := ?_) #[true, false, true, false, true, true, false, false, false, false, false, false, false, false, false] rfl rfl (take_ofW HT_.out HW_.out (by kernel_rfl)) (fun _ _ _ h => h) (Or.inl ⟨by rfl, ?_⟩) hHeld ?_ ?_
            rotate_left
            · rintro w' ⟨s0, s1, s2, s3, s4, s5, s6, s7, s8, s9⟩
              go_simp
              with_reducible rfl
            rotate_left
            · simp only [Act.put, List.setIfInBounds_toArray, List.set_cons_zero, List.set_cons_succ, i64_w, i32_w]
              rfl
            refine one_ (i := 1) (N := some 19) #[true, true, true, false, true, true, false, false, false, false, false, false, false, false, false] rfl rfl (one_of HT_.out (by kernel_rfl)) (by decide) (fun K hK => ?_)
            refine goes_ Tryd.func37 (by kernel_rfl) rfl #[.int .i64 0, .agg #[.int .u64 a1_0, .int .u64 a1_1, .int .u64 a1_2, .string a1_3, .string a1_4], .int .i64 3] (by rfl) rfl rfl (by (try simp only [List.map_toArray, List.map_cons, List.map_nil]); first | done | rfl | (simp only [List.length_drop, List.length_take]; rfl)) ?_
            with_reducible refine (laws_stTerm.calls 0 a1_0 a1_1 a1_2 a1_3 a1_4 3 t196 t197 t198 t199 t200 t201 _ A20.out).mono ?_
            rintro e w34 ⟨rfl, hb⟩
            refine ⟨_, rfl, ?_⟩
            have n0_ := Aside0.mk (Kd.R_below (by (with_reducible repeat (first | apply Kd.R_alloc | apply Kd.R_drewN | apply Kd.R_drew)); exact HO194.out) hb)
            have n1_ := Aside0.mk (blk_below (g := gb188) (o := .cells #[.int .u64 a0_0, .int .u64 a0_1, .int .u64 a0_2, .string a0_3, .string a0_4] 24 (0, 0)) (by (with_reducible repeat (first | refine blk_drewN ?_ _ | refine blk_drew ?_ | refine blk_alloc ?_ _)); exact BK188.out) hb)
            have n2_ := Aside0.mk (blk_below (g := gb189) (o := .cells #[.int .u64 a1_0, .int .u64 a1_1, .int .u64 a1_2, .string a1_3, .string a1_4] 24 (0, 0)) (by (with_reducible repeat (first | refine blk_drewN ?_ _ | refine blk_drew ?_ | refine blk_alloc ?_ _)); exact BK189.out) hb)
            have n3_ := Aside0.mk (below_step (by repeat (first | (with_reducible first | exact HB.out | apply below_alloc | apply pw_below_drewN | apply below_drew1 | refine below_set ?_ GE188.out | refine below_set ?_ GE189.out) | exact HB.out)) hb)
            clear HO194
            clear BK188
            clear BK189
            clear HB
            have HO194 := n0_
            have BK188 := n1_
            have BK189 := n2_
            have HB := n3_
            clear n0_ n1_ n2_ n3_
            (try clear hb)
            (try clear hb2)
            (try clear hk)
            (try clear hi)
            refine hK.out _ _ ⟨(blk_cell BK189.out 0).trans rfl, (blk_cell BK189.out 1).trans rfl, (blk_cell BK189.out 2).trans rfl, (blk_cell BK189.out 3).trans rfl, (blk_cell BK189.out 4).trans rfl, (blk_cell BK188.out 0).trans rfl, (blk_cell BK188.out 1).trans rfl, (blk_cell BK188.out 2).trans rfl, (blk_cell BK188.out 3).trans rfl, (blk_cell BK188.out 4).trans rfl⟩ (fun hHeld => ?_)
            clear hK K
            refine norm_ (a' := ?_) ?_ ?_
            rotate_left
            · show Act.put _ (some 19) _ = _
              simp only [Act.put, List.setIfInBounds_toArray, List.set_cons_zero, List.set_cons_succ, i64_w, i32_w]
              rfl
            refine one_ (i := 3) (N := some 21) #[true, true, true, true, true, true, false, false, false, false, false, false, false, false, false] rfl rfl (one_of HT_.out (by kernel_rfl)) (by decide) (fun K hK => ?_)
            refine goes_ Tryd.func35 (by kernel_rfl) rfl #[.agg #[.int .i64 t196, .int .i64 t197, .int .u64 t198, .int .u64 t199, .int .u64 t200, .string t201], .agg #[.int .u64 a0_0, .int .u64 a0_1, .int .u64 a0_2, .string a0_3, .string a0_4], .bool true] (by rfl) rfl rfl (by (try simp only [List.map_toArray, List.map_cons, List.map_nil]); first | done | rfl | (simp only [List.length_drop, List.length_take]; rfl)) ?_
            with_reducible refine (impl_MostHolds.calls kj2 t196 t197 t198 t199 t200 t201 a0_0 a0_1 a0_2 a0_3 a0_4 true t202 _ ?side1 A21.out).mono ?_
            (case side1 => exact globE_below HGE.out (by repeat (first | (with_reducible first | exact HB.out | apply below_alloc | apply pw_below_drewN | apply below_drew1 | refine below_set ?_ GE188.out | refine below_set ?_ GE189.out) | exact HB.out)))
            rintro e w35 ⟨rfl, hb⟩
            refine ⟨_, rfl, ?_⟩
            have n0_ := Aside0.mk (Kd.R_below (by (with_reducible repeat (first | apply Kd.R_alloc | apply Kd.R_drewN | apply Kd.R_drew)); exact HO194.out) hb)
            have n1_ := Aside0.mk (blk_below (g := gb188) (o := .cells #[.int .u64 a0_0, .int .u64 a0_1, .int .u64 a0_2, .string a0_3, .string a0_4] 24 (0, 0)) (by (with_reducible repeat (first | refine blk_drewN ?_ _ | refine blk_drew ?_ | refine blk_alloc ?_ _)); exact BK188.out) hb)
            have n2_ := Aside0.mk (blk_below (g := gb189) (o := .cells #[.int .u64 a1_0, .int .u64 a1_1, .int .u64 a1_2, .string a1_3, .string a1_4] 24 (0, 0)) (by (with_reducible repeat (first | refine blk_drewN ?_ _ | refine blk_drew ?_ | refine blk_alloc ?_ _)); exact BK189.out) hb)
            have n3_ := Aside0.mk (below_step (by repeat (first | (with_reducible first | exact HB.out | apply below_alloc | apply pw_below_drewN | apply below_drew1 | refine below_set ?_ GE188.out | refine below_set ?_ GE189.out) | exact HB.out)) hb)
            clear HO194
            clear BK188
            clear BK189
            clear HB
            have HO194 := n0_
            have BK188 := n1_
            have BK189 := n2_
            have HB := n3_
            clear n0_ n1_ n2_ n3_
            (try clear hb)
            (try clear hb2)
            (try clear hk)
            (try clear hi)
            refine hK.out _ _ ⟨(blk_cell BK189.out 0).trans rfl, (blk_cell BK189.out 1).trans rfl, (blk_cell BK189.out 2).trans rfl, (blk_cell BK189.out 3).trans rfl, (blk_cell BK189.out 4).trans rfl, (blk_cell BK188.out 0).trans rfl, (blk_cell BK188.out 1).trans rfl, (blk_cell BK188.out 2).trans rfl, (blk_cell BK188.out 3).trans rfl, (blk_cell BK188.out 4).trans rfl⟩ (fun hHeld => ?_)
            clear hK K
            refine norm_ (a' := ?_) ?_ ?_
            rotate_left
            · show Act.put _ (some 21) _ = _
              simp only [Act.put, List.setIfInBounds_toArray, List.set_cons_zero, List.set_cons_succ, i64_w, i32_w]
              rfl
            refine one_ (i := 6) (N := some 24) #[true, true, true, true, true, true, true, false, false, false, false, false, false, false, false] rfl rfl (one_of HT_.out (by kernel_rfl)) (by decide) (fun K hK => ?_)
            refine goes_ Tryd.func30 (by kernel_rfl) rfl #[.agg #[.int .u64 a0_0, .int .u64 a0_1, .int .u64 a0_2, .string a0_3, .string a0_4], .agg #[.int .u64 a1_0, .int .u64 a1_1, .int .u64 a1_2, .string a1_3, .string a1_4]] (by rfl) rfl rfl (by (try simp only [List.map_toArray, List.map_cons, List.map_nil]); first | done | rfl | (simp only [List.length_drop, List.length_take]; rfl)) ?_
            with_reducible refine (impl_VersionLessEqual.calls kj2 a0_0 a0_1 a0_2 a0_3 a0_4 a1_0 a1_1 a1_2 a1_3 a1_4 t203 _ ?side1 A22.out).mono ?_
            (case side1 => exact globE_below HGE.out (by repeat (first | (with_reducible first | exact HB.out | apply below_alloc | apply pw_below_drewN | apply below_drew1 | refine below_set ?_ GE188.out | refine below_set ?_ GE189.out) | exact HB.out)))
            rintro e w36 ⟨rfl, hb⟩
            refine ⟨_, rfl, ?_⟩
            have n0_ := Aside0.mk (Kd.R_below (by (with_reducible repeat (first | apply Kd.R_alloc | apply Kd.R_drewN | apply Kd.R_drew)); exact HO194.out) hb)
            have n1_ := Aside0.mk (blk_below (g := gb188) (o := .cells #[.int .u64 a0_0, .int .u64 a0_1, .int .u64 a0_2, .string a0_3, .string a0_4] 24 (0, 0)) (by (with_reducible repeat (first | refine blk_drewN ?_ _ | refine blk_drew ?_ | refine blk_alloc ?_ _)); exact BK188.out) hb)
            have n2_ := Aside0.mk (blk_below (g := gb189) (o := .cells #[.int .u64 a1_0, .int .u64 a1_1, .int .u64 a1_2, .string a1_3, .string a1_4] 24 (0, 0)) (by (with_reducible repeat (first | refine blk_drewN ?_ _ | refine blk_drew ?_ | refine blk_alloc ?_ _)); exact BK189.out) hb)
            have n3_ := Aside0.mk (below_step (by repeat (first | (with_reducible first | exact HB.out | apply below_alloc | apply pw_below_drewN | apply below_drew1 | refine below_set ?_ GE188.out | refine below_set ?_ GE189.out) | exact HB.out)) hb)
            clear HO194
            clear BK188
            clear BK189
            clear HB
            have HO194 := n0_
            have BK188 := n1_
            have BK189 := n2_
            have HB := n3_
            clear n0_ n1_ n2_ n3_
            (try clear hb)
            (try clear hb2)
            (try clear hk)
            (try clear hi)
            refine hK.out _ _ ⟨(blk_cell BK189.out 0).trans rfl, (blk_cell BK189.out 1).trans rfl, (blk_cell BK189.out 2).trans rfl, (blk_cell BK189.out 3).trans rfl, (blk_cell BK189.out 4).trans rfl, (blk_cell BK188.out 0).trans rfl, (blk_cell BK188.out 1).trans rfl, (blk_cell BK188.out 2).trans rfl, (blk_cell BK188.out 3).trans rfl, (blk_cell BK188.out 4).trans rfl⟩ (fun hHeld => ?_)
            clear hK K
            refine norm_ (a' := ?_) ?_ ?_
            rotate_left
            · show Act.put _ (some 24) _ = _
              simp only [Act.put, List.setIfInBounds_toArray, List.set_cons_zero, List.set_cons_succ, i64_w, i32_w]
              rfl
            refine pure_ (i := 7) (N := some 25) (v := ?_) (a' := ?_) #[true, true, true, true, true, true, true, true, false, false, false, false, false, false, false] rfl rfl (any_of HT_.out (by kernel_rfl)) (fun _ _ _ h => h) (Or.inl ⟨by rfl, ?_⟩) ?_ ?_
            rotate_left
            · intro w'
              go_simp
              with_reducible rfl
            rotate_left
            · simp only [Act.put, List.setIfInBounds_toArray, List.set_cons_zero, List.set_cons_succ, i64_w, i32_w]
              rfl
            refine pure_ (i := 8) (N := some 26) (v := ?_) (a' := ?_) #[true, true, true, true, true, true, true, true, true, false, false, false, false, false, false] rfl rfl (any_of HT_.out (by kernel_rfl)) (fun _ _ _ h => h) (Or.inl ⟨by rfl, ?_⟩) ?_ ?_
            rotate_left
            · intro w'
              go_simp
              with_reducible rfl
            rotate_left
            · simp only [Act.put, List.setIfInBounds_toArray, List.set_cons_zero, List.set_cons_succ, i64_w, i32_w]
              rfl
            refine take_ (i := 9) (N := some 27) (v := ?_) (a' := ?_) #[true, true, true, true, true, true, true, true, true, true, false, false, false, false, false] rfl rfl (take_ofW HT_.out HW_.out (by kernel_rfl)) (fun _ _ _ h => h) (Or.inl ⟨by rfl, ?_⟩) hHeld ?_ ?_
            rotate_left
            · rintro w' ⟨s0, s1, s2, s3, s4, s5, s6, s7, s8, s9⟩
              go_simp
              with_reducible rfl
            rotate_left
            · simp only [Act.put, List.setIfInBounds_toArray, List.set_cons_zero, List.set_cons_succ, i64_w, i32_w]
              rfl
            refine take_ (i := 11) (N := some 29) (v := ?_) (a' := ?_) #[true, true, true, true, true, true, true, true, true, true, false, true, false, false, false] rfl rfl (take_ofW HT_.out HW_.out (by kernel_rfl)) (fun _ _ _ h => h) (Or.inl ⟨by rfl, ?_⟩) hHeld ?_ ?_
            rotate_left
            · rintro w' ⟨s0, s1, s2, s3, s4, s5, s6, s7, s8, s9⟩
              go_simp
              with_reducible rfl
            rotate_left
            · simp only [Act.put, List.setIfInBounds_toArray, List.set_cons_zero, List.set_cons_succ, i64_w, i32_w]
              rfl
            refine one_ (i := 10) (N := some 28) #[true, true, true, true, true, true, true, true, true, true, true, true, false, false, false] rfl rfl (one_of HT_.out (by kernel_rfl)) (by decide) (fun K hK => ?_)
            refine goes_ Tryd.func37 (by kernel_rfl) rfl #[.int .i64 0, .agg #[.int .u64 a0_0, .int .u64 a0_1, .int .u64 a0_2, .string a0_3, .string a0_4], .int .i64 3] (by rfl) rfl rfl (by (try simp only [List.map_toArray, List.map_cons, List.map_nil]); first | done | rfl | (simp only [List.length_drop, List.length_take]; rfl)) ?_
            with_reducible refine (laws_stTerm.calls 0 a0_0 a0_1 a0_2 a0_3 a0_4 3 t204 t205 t206 t207 t208 t209 _ A24.out).mono ?_
            rintro e w37 ⟨rfl, hb⟩
            refine ⟨_, rfl, ?_⟩
            have n0_ := Aside0.mk (Kd.R_below (by (with_reducible repeat (first | apply Kd.R_alloc | apply Kd.R_drewN | apply Kd.R_drew)); exact HO194.out) hb)
            have n1_ := Aside0.mk (blk_below (g := gb188) (o := .cells #[.int .u64 a0_0, .int .u64 a0_1, .int .u64 a0_2, .string a0_3, .string a0_4] 24 (0, 0)) (by (with_reducible repeat (first | refine blk_drewN ?_ _ | refine blk_drew ?_ | refine blk_alloc ?_ _)); exact BK188.out) hb)
            have n2_ := Aside0.mk (blk_below (g := gb189) (o := .cells #[.int .u64 a1_0, .int .u64 a1_1, .int .u64 a1_2, .string a1_3, .string a1_4] 24 (0, 0)) (by (with_reducible repeat (first | refine blk_drewN ?_ _ | refine blk_drew ?_ | refine blk_alloc ?_ _)); exact BK189.out) hb)
            have n3_ := Aside0.mk (below_step (by repeat (first | (with_reducible first | exact HB.out | apply below_alloc | apply pw_below_drewN | apply below_drew1 | refine below_set ?_ GE188.out | refine below_set ?_ GE189.out) | exact HB.out)) hb)
            clear HO194
            clear BK188
            clear BK189
            clear HB
            have HO194 := n0_
            have BK188 := n1_
            have BK189 := n2_
            have HB := n3_
            clear n0_ n1_ n2_ n3_
            (try clear hb)
            (try clear hb2)
            (try clear hk)
            (try clear hi)
            refine hK.out _ _ ⟨(blk_cell BK189.out 0).trans rfl, (blk_cell BK189.out 1).trans rfl, (blk_cell BK189.out 2).trans rfl, (blk_cell BK189.out 3).trans rfl, (blk_cell BK189.out 4).trans rfl, (blk_cell BK188.out 0).trans rfl, (blk_cell BK188.out 1).trans rfl, (blk_cell BK188.out 2).trans rfl, (blk_cell BK188.out 3).trans rfl, (blk_cell BK188.out 4).trans rfl⟩ (fun hHeld => ?_)
            clear hK K
            refine norm_ (a' := ?_) ?_ ?_
            rotate_left
            · show Act.put _ (some 28) _ = _
              simp only [Act.put, List.setIfInBounds_toArray, List.set_cons_zero, List.set_cons_succ, i64_w, i32_w]
              rfl
            refine one_ (i := 12) (N := some 30) #[true, true, true, true, true, true, true, true, true, true, true, true, true, false, false] rfl rfl (one_of HT_.out (by kernel_rfl)) (by decide) (fun K hK => ?_)
            refine goes_ Tryd.func35 (by kernel_rfl) rfl #[.agg #[.int .i64 t204, .int .i64 t205, .int .u64 t206, .int .u64 t207, .int .u64 t208, .string t209], .agg #[.int .u64 a0_0, .int .u64 a0_1, .int .u64 a0_2, .string a0_3, .string a0_4], .bool true] (by rfl) rfl rfl (by (try simp only [List.map_toArray, List.map_cons, List.map_nil]); first | done | rfl | (simp only [List.length_drop, List.length_take]; rfl)) ?_
            with_reducible refine (impl_MostHolds.calls kj2 t204 t205 t206 t207 t208 t209 a0_0 a0_1 a0_2 a0_3 a0_4 true t210 _ ?side1 A25.out).mono ?_
            (case side1 => exact globE_below HGE.out (by repeat (first | (with_reducible first | exact HB.out | apply below_alloc | apply pw_below_drewN | apply below_drew1 | refine below_set ?_ GE188.out | refine below_set ?_ GE189.out) | exact HB.out)))
            rintro e w38 ⟨rfl, hb⟩
            refine ⟨_, rfl, ?_⟩
            have n0_ := Aside0.mk (Kd.R_below (by (with_reducible repeat (first | apply Kd.R_alloc | apply Kd.R_drewN | apply Kd.R_drew)); exact HO194.out) hb)
            have n1_ := Aside0.mk (blk_below (g := gb188) (o := .cells #[.int .u64 a0_0, .int .u64 a0_1, .int .u64 a0_2, .string a0_3, .string a0_4] 24 (0, 0)) (by (with_reducible repeat (first | refine blk_drewN ?_ _ | refine blk_drew ?_ | refine blk_alloc ?_ _)); exact BK188.out) hb)
            have n2_ := Aside0.mk (blk_below (g := gb189) (o := .cells #[.int .u64 a1_0, .int .u64 a1_1, .int .u64 a1_2, .string a1_3, .string a1_4] 24 (0, 0)) (by (with_reducible repeat (first | refine blk_drewN ?_ _ | refine blk_drew ?_ | refine blk_alloc ?_ _)); exact BK189.out) hb)
            have n3_ := Aside0.mk (below_step (by repeat (first | (with_reducible first | exact HB.out | apply below_alloc | apply pw_below_drewN | apply below_drew1 | refine below_set ?_ GE188.out | refine below_set ?_ GE189.out) | exact HB.out)) hb)
            clear HO194
            clear BK188
            clear BK189
            clear HB
            have HO194 := n0_
            have BK188 := n1_
            have BK189 := n2_
            have HB := n3_
            clear n0_ n1_ n2_ n3_
            (try clear hb)
            (try clear hb2)
            (try clear hk)
            (try clear hi)
            refine hK.out _ _ ⟨(blk_cell BK189.out 0).trans rfl, (blk_cell BK189.out 1).trans rfl, (blk_cell BK189.out 2).trans rfl, (blk_cell BK189.out 3).trans rfl, (blk_cell BK189.out 4).trans rfl, (blk_cell BK188.out 0).trans rfl, (blk_cell BK188.out 1).trans rfl, (blk_cell BK188.out 2).trans rfl, (blk_cell BK188.out 3).trans rfl, (blk_cell BK188.out 4).trans rfl⟩ (fun hHeld => ?_)
            clear hK K
            refine norm_ (a' := ?_) ?_ ?_
            rotate_left
            · show Act.put _ (some 30) _ = _
              simp only [Act.put, List.setIfInBounds_toArray, List.set_cons_zero, List.set_cons_succ, i64_w, i32_w]
              rfl
            refine pure_ (i := 13) (N := some 31) (v := ?_) (a' := ?_) #[true, true, true, true, true, true, true, true, true, true, true, true, true, true, false] rfl rfl (any_of HT_.out (by kernel_rfl)) (fun _ _ _ h => h) (Or.inl ⟨by rfl, ?_⟩) ?_ ?_
            rotate_left
            · intro w'
              go_simp
              with_reducible rfl
            rotate_left
            · simp only [Act.put, List.setIfInBounds_toArray, List.set_cons_zero, List.set_cons_succ, i64_w, i32_w]
              rfl
            refine pure_ (i := 14) (N := some 4) (v := ?_) (a' := ?_) #[true, true, true, true, true, true, true, true, true, true, true, true, true, true, true] rfl rfl (any_of HT_.out (by kernel_rfl)) (fun _ _ _ h => h) (Or.inl ⟨by rfl, ?_⟩) ?_ ?_
            rotate_left
            · intro w'
              go_simp
              with_reducible rfl
            rotate_left
            · simp only [Act.put, List.setIfInBounds_toArray, List.set_cons_zero, List.set_cons_succ, i64_w, i32_w]
              rfl
            refine done_ (done_of HT_.out (by kernel_rfl)) ?_
            try go_wp2
            go_ret
            exact ⟨by first | rfl | (simp [errW_none, errW_some] <;> rfl) | (simp [*, errW_none, errW_some] <;> rfl), by repeat (first | (with_reducible first | exact HB.out | apply below_alloc | apply pw_below_drewN | apply below_drew1 | refine below_set ?_ GE188.out | refine below_set ?_ GE189.out) | exact HB.out)⟩
          · rw [if_neg c23] at H
            have c23b0 : (t202 == t203) = false := by simpa using c23
            (try (have c23b1 : decide (t202 = t203) = false := by simpa using c23))
            (try (have c23b2 : (t202 == t203) = false := by simpa using c23))
            (try (have c23b3 : ¬ (t202 = t203) := by simpa using c23))
            clear c23
            obtain rfl := Option.some.inj H
            have hnb39 := NB188_189.out
            have hnc39 := NB189_188.out
            have hcz40_0 : wc.cell? ⟨gb188, 0, none⟩ = some (.int .u64 a0_0) := (blk_cell BK188.out 0).trans rfl
            have hcz40_1 : wc.cell? ⟨gb188, 1, none⟩ = some (.int .u64 a0_1) := (blk_cell BK188.out 1).trans rfl
            have hcz40_2 : wc.cell? ⟨gb188, 2, none⟩ = some (.int .u64 a0_2) := (blk_cell BK188.out 2).trans rfl
            have hcz40_3 : wc.cell? ⟨gb188, 3, none⟩ = some (.string a0_3) := (blk_cell BK188.out 3).trans rfl
            have hcz40_4 : wc.cell? ⟨gb188, 4, none⟩ = some (.string a0_4) := (blk_cell BK188.out 4).trans rfl
            have hfz40_0 := blk_frozen BK188.out 0
            have hfz40_1 := blk_frozen BK188.out 1
            have hfz40_2 := blk_frozen BK188.out 2
            have hfz40_3 := blk_frozen BK188.out 3
            have hfz40_4 := blk_frozen BK188.out 4
            have hcz41_0 : wc.cell? ⟨gb189, 0, none⟩ = some (.int .u64 a1_0) := (blk_cell BK189.out 0).trans rfl
            have hcz41_1 : wc.cell? ⟨gb189, 1, none⟩ = some (.int .u64 a1_1) := (blk_cell BK189.out 1).trans rfl
            have hcz41_2 : wc.cell? ⟨gb189, 2, none⟩ = some (.int .u64 a1_2) := (blk_cell BK189.out 2).trans rfl
            have hcz41_3 : wc.cell? ⟨gb189, 3, none⟩ = some (.string a1_3) := (blk_cell BK189.out 3).trans rfl
            have hcz41_4 : wc.cell? ⟨gb189, 4, none⟩ = some (.string a1_4) := (blk_cell BK189.out 4).trans rfl
            have hfz41_0 := blk_frozen BK189.out 0
            have hfz41_1 := blk_frozen BK189.out 1
            have hfz41_2 := blk_frozen BK189.out 2
            have hfz41_3 := blk_frozen BK189.out 3
            have hfz41_4 := blk_frozen BK189.out 4
            try go_wp2_with (first | ((with_reducible refine gate_dst (N := 15) rfl ?_); refine Kd.R_lit k24 _ 24 ?hg (N := 15) ?hd (xs := ([(⟨a0_0, a0_1, a0_2, a0_3, a0_4⟩ : S24), (⟨a1_0, a1_1, a1_2, a1_3, a1_4⟩ : S24)] : List (S24))) (inner := [.int .u64 a0_0, .int .u64 a0_1, .int .u64 a0_2, .string a0_3, .string a0_4, .int .u64 a1_0, .int .u64 a1_1, .int .u64 a1_2, .string a1_3, .string a1_4]) (ok := fun _ => True) (okp := fun _ => True) ?hr ?hp (fun _ hk => hk) trivial (Below.refl _ _) (Nat.le_refl _) (by simp) ?_; (case hd => rfl); (case hg => rfl); (case hr => first | (go_simp; done) | (go_simp; rfl)); (case hp => exact (Reps.c5 (show Kd.M k24 _ _ _ (⟨a0_0, a0_1, a0_2, a0_3, a0_4⟩ : S24) [.int .u64 a0_0, .int .u64 a0_1, .int .u64 a0_2, .string a0_3, .string a0_4] from (k24_mkM _ _ _ (⟨a0_0, a0_1, a0_2, a0_3, a0_4⟩ : S24) )) (Reps.c5 (show Kd.M k24 _ _ _ (⟨a1_0, a1_1, a1_2, a1_3, a1_4⟩ : S24) [.int .u64 a1_0, .int .u64 a1_1, .int .u64 a1_2, .string a1_3, .string a1_4] from (k24_mkM _ _ _ (⟨a1_0, a1_1, a1_2, a1_3, a1_4⟩ : S24) )) (Reps.none _ _)))); intro v193 w42 ho43 hb hg_ hnew_; clear hg_ hnew_; (first | rw [← Ny192.out] at ho43 | (simp only [Int.reduceToNat] at ho43; rw [← Ny192.out] at ho43)); have n0_ := Aside0.mk (Kd.R_lower (Kd.R_newB (Kd.R_newB ho43 (g := gb188) (o := .cells #[.int .u64 a0_0, .int .u64 a0_1, .int .u64 a0_2, .string a0_3, .string a0_4] 24 (0, 0)) (by (with_reducible repeat (first | refine blk_drewN ?_ _ | refine blk_drew ?_ | refine blk_alloc ?_ _)); exact BK188.out)) (g := gb189) (o := .cells #[.int .u64 a1_0, .int .u64 a1_1, .int .u64 a1_2, .string a1_3, .string a1_4] 24 (0, 0)) (by (with_reducible repeat (first | refine blk_drewN ?_ _ | refine blk_drew ?_ | refine blk_alloc ?_ _)); exact BK189.out)) (below_size (by repeat (first | (with_reducible first | exact HB.out | apply below_alloc | apply pw_below_drewN | apply below_drew1 | refine below_set ?_ GE188.out | refine below_set ?_ GE189.out) | exact HB.out)))); have n1_ := Aside0.mk (blk_below (g := gb188) (o := .cells #[.int .u64 a0_0, .int .u64 a0_1, .int .u64 a0_2, .string a0_3, .string a0_4] 24 (0, 0)) (by (with_reducible repeat (first | refine blk_drewN ?_ _ | refine blk_drew ?_ | refine blk_alloc ?_ _)); exact BK188.out) hb); have n2_ := Aside0.mk (blk_below (g := gb189) (o := .cells #[.int .u64 a1_0, .int .u64 a1_1, .int .u64 a1_2, .string a1_3, .string a1_4] 24 (0, 0)) (by (with_reducible repeat (first | refine blk_drewN ?_ _ | refine blk_drew ?_ | refine blk_alloc ?_ _)); exact BK189.out) hb); have n3_ := Aside0.mk (below_step (by repeat (first | (with_reducible first | exact HB.out | apply below_alloc | apply pw_below_drewN | apply below_drew1 | refine below_set ?_ GE188.out | refine below_set ?_ GE189.out) | exact HB.out)) hb); clear BK188; clear BK189; clear HB; have HO194 := n0_; have BK188 := n1_; have BK189 := n2_; have HB := n3_; clear n0_ n1_ n2_ n3_; clear hb ho43; obtain ⟨Ao44, co44, eo44⟩ := Kd.R_slice HO194.out; subst eo44) | ((with_reducible refine only_callee (f := 18) rfl ?_); refine goesL_ (some 16) rfl rfl Tryd.func18 (by kernel_rfl) rfl #[.slice Ao44 y192.length co44] rfl (by (try simp only [List.map_toArray, List.map_cons, List.map_nil]); first | done | rfl | (simp only [List.length_drop, List.length_take]; rfl)) ?_; (with_reducible refine (laws_svGood.calls kj2 _ _ y192 true _ ?side1 ?side2 A18.out).mono ?_); (case side1 => repeat (first | exact (Kd.R_reads' HO194.out).2.2 | (with_reducible refine Kd.C_alloc ?_ _) | (with_reducible refine Kd.C_drewN ?_ _) | (with_reducible refine Kd.C_drew ?_))); (case side2 => exact (Kd.R_reads' HO194.out).2.1); rintro e w45 ⟨rfl, hb⟩; refine ⟨_, rfl, ?_⟩; have n0_ := Aside0.mk (Kd.R_below (by (with_reducible repeat (first | apply Kd.R_alloc | apply Kd.R_drewN | apply Kd.R_drew)); exact HO194.out) hb); have n1_ := Aside0.mk (blk_below (g := gb188) (o := .cells #[.int .u64 a0_0, .int .u64 a0_1, .int .u64 a0_2, .string a0_3, .string a0_4] 24 (0, 0)) (by (with_reducible repeat (first | refine blk_drewN ?_ _ | refine blk_drew ?_ | refine blk_alloc ?_ _)); exact BK188.out) hb); have n2_ := Aside0.mk (blk_below (g := gb189) (o := .cells #[.int .u64 a1_0, .int .u64 a1_1, .int .u64 a1_2, .string a1_3, .string a1_4] 24 (0, 0)) (by (with_reducible repeat (first | refine blk_drewN ?_ _ | refine blk_drew ?_ | refine blk_alloc ?_ _)); exact BK189.out) hb); have n3_ := Aside0.mk (below_step (by repeat (first | (with_reducible first | exact HB.out | apply below_alloc | apply pw_below_drewN | apply below_drew1 | refine below_set ?_ GE188.out | refine below_set ?_ GE189.out) | exact HB.out)) hb); clear HO194; clear BK188; clear BK189; clear HB; have HO194 := n0_; have BK188 := n1_; have BK189 := n2_; have HB := n3_; clear n0_ n1_ n2_ n3_; (try clear hb); (try clear hb2); (try clear hk); (try clear hi)))
            have n0_ := Aside0.mk (Kd.R_drew HO194.out)
            have n1_ := Aside0.mk (blk_drew BK188.out)
            have n2_ := Aside0.mk (blk_drew BK189.out)
            have n3_ := Aside0.mk (below_drew1 HB.out)
            clear HO194
            clear BK188
            clear BK189
            clear HB
            have HO194 := n0_
            have BK188 := n1_
            have BK189 := n2_
            have HB := n3_
            clear n0_ n1_ n2_ n3_
            refine start_ (n := 15) (S := fun w' => w'.cell? ⟨gb189, 0, none⟩ = some (.int .u64 a1_0) ∧ w'.cell? ⟨gb189, 1, none⟩ = some (.int .u64 a1_1) ∧ w'.cell? ⟨gb189, 2, none⟩ = some (.int .u64 a1_2) ∧ w'.cell? ⟨gb189, 3, none⟩ = some (.string a1_3) ∧ w'.cell? ⟨gb189, 4, none⟩ = some (.string a1_4) ∧ w'.cell? ⟨gb188, 0, none⟩ = some (.int .u64 a0_0) ∧ w'.cell? ⟨gb188, 1, none⟩ = some (.int .u64 a0_1) ∧ w'.cell? ⟨gb188, 2, none⟩ = some (.int .u64 a0_2) ∧ w'.cell? ⟨gb188, 3, none⟩ = some (.string a0_3) ∧ w'.cell? ⟨gb188, 4, none⟩ = some (.string a0_4)) (ds := []) #[false, false, false, false, false, false, false, false, false, false, false, false, false, false, false] (by kernel_rfl) rfl rfl ⟨(blk_cell BK189.out 0).trans rfl, (blk_cell BK189.out 1).trans rfl, (blk_cell BK189.out 2).trans rfl, (blk_cell BK189.out 3).trans rfl, (blk_cell BK189.out 4).trans rfl, (blk_cell BK188.out 0).trans rfl, (blk_cell BK188.out 1).trans rfl, (blk_cell BK188.out 2).trans rfl, (blk_cell BK188.out 3).trans rfl, (blk_cell BK188.out 4).trans rfl⟩ (fun hHeld => ?_); refine with_tabW laws_FnSemverMostCompares.tab5 laws_FnSemverMostCompares.bits5 (fun HT_ HW_ => ?_)
            generalize w45.drew = w46 at HO194 BK188 BK189 HB hHeld ⊢
            refine take_ (i := 0) (N := some 18) (v := ?_) (a' := ?_) #[true, false, false, false, false, false, false, false, false, false, false, false, false, false, false] rfl rfl (take_ofW HT_.out HW_.out (by kernel_rfl)) (fun _ _ _ h => h) (Or.inl ⟨by rfl, ?_⟩) hHeld ?_ ?_
            rotate_left
            · rintro w' ⟨s0, s1, s2, s3, s4, s5, s6, s7, s8, s9⟩
              go_simp
              with_reducible rfl
            rotate_left
            · simp only [Act.put, List.setIfInBounds_toArray, List.set_cons_zero, List.set_cons_succ, i64_w, i32_w]
              rfl
            refine take_ (i := 2) (N := some 20) (v := ?_) (a' := ?_) #[true, false, true, false, false, false, false, false, false, false, false, false, false, false, false] rfl rfl (take_ofW HT_.out HW_.out (by kernel_rfl)) (fun _ _ _ h => h) (Or.inl ⟨by rfl, ?_⟩) hHeld ?_ ?_
            rotate_left
            · rintro w' ⟨s0, s1, s2, s3, s4, s5, s6, s7, s8, s9⟩
              go_simp
              with_reducible rfl
            rotate_left
            · simp only [Act.put, List.setIfInBounds_toArray, List.set_cons_zero, List.set_cons_succ, i64_w, i32_w]
              rfl
            refine take_ (i := 4) (N := some 22) (v := ?_) (a' := ?_) #[true, false, true, false, true, false, false, false, false, false, false, false, false, false, false] rfl rfl (take_ofW HT_.out HW_.out (by kernel_rfl)) (fun _ _ _ h => h) (Or.inl ⟨by rfl, ?_⟩) hHeld ?_ ?_
            rotate_left
            · rintro w' ⟨s0, s1, s2, s3, s4, s5, s6, s7, s8, s9⟩
              go_simp
              with_reducible rfl
            rotate_left
            · simp only [Act.put, List.setIfInBounds_toArray, List.set_cons_zero, List.set_cons_succ, i64_w, i32_w]
              rfl
            refine take_ (i := 5) (N := some 23) (v := ?_) (a' := ?_) #[true, false, true, false, true, true, false, false, false, false, false, false, false, false, false] rfl rfl (take_ofW HT_.out HW_.out (by kernel_rfl)) (fun _ _ _ h => h) (Or.inl ⟨by rfl, ?_⟩) hHeld ?_ ?_
            rotate_left
            · rintro w' ⟨s0, s1, s2, s3, s4, s5, s6, s7, s8, s9⟩
              go_simp
              with_reducible rfl
            rotate_left
            · simp only [Act.put, List.setIfInBounds_toArray, List.set_cons_zero, List.set_cons_succ, i64_w, i32_w]
              rfl
            refine one_ (i := 1) (N := some 19) #[true, true, true, false, true, true, false, false, false, false, false, false, false, false, false] rfl rfl (one_of HT_.out (by kernel_rfl)) (by decide) (fun K hK => ?_)
            refine goes_ Tryd.func37 (by kernel_rfl) rfl #[.int .i64 0, .agg #[.int .u64 a1_0, .int .u64 a1_1, .int .u64 a1_2, .string a1_3, .string a1_4], .int .i64 3] (by rfl) rfl rfl (by (try simp only [List.map_toArray, List.map_cons, List.map_nil]); first | done | rfl | (simp only [List.length_drop, List.length_take]; rfl)) ?_
            with_reducible refine (laws_stTerm.calls 0 a1_0 a1_1 a1_2 a1_3 a1_4 3 t196 t197 t198 t199 t200 t201 _ A20.out).mono ?_
            rintro e w47 ⟨rfl, hb⟩
            refine ⟨_, rfl, ?_⟩
            have n0_ := Aside0.mk (Kd.R_below (by (with_reducible repeat (first | apply Kd.R_alloc | apply Kd.R_drewN | apply Kd.R_drew)); exact HO194.out) hb)
            have n1_ := Aside0.mk (blk_below (g := gb188) (o := .cells #[.int .u64 a0_0, .int .u64 a0_1, .int .u64 a0_2, .string a0_3, .string a0_4] 24 (0, 0)) (by (with_reducible repeat (first | refine blk_drewN ?_ _ | refine blk_drew ?_ | refine blk_alloc ?_ _)); exact BK188.out) hb)
            have n2_ := Aside0.mk (blk_below (g := gb189) (o := .cells #[.int .u64 a1_0, .int .u64 a1_1, .int .u64 a1_2, .string a1_3, .string a1_4] 24 (0, 0)) (by (with_reducible repeat (first | refine blk_drewN ?_ _ | refine blk_drew ?_ | refine blk_alloc ?_ _)); exact BK189.out) hb)
            have n3_ := Aside0.mk (below_step (by repeat (first | (with_reducible first | exact HB.out | apply below_alloc | apply pw_below_drewN | apply below_drew1 | refine below_set ?_ GE188.out | refine below_set ?_ GE189.out) | exact HB.out)) hb)
            clear HO194
            clear BK188
            clear BK189
            clear HB
            have HO194 := n0_
            have BK188 := n1_
            have BK189 := n2_
            have HB := n3_
            clear n0_ n1_ n2_ n3_
            (try clear hb)
            (try clear hb2)
            (try clear hk)
            (try clear hi)
            refine hK.out _ _ ⟨(blk_cell BK189.out 0).trans rfl, (blk_cell BK189.out 1).trans rfl, (blk_cell BK189.out 2).trans rfl, (blk_cell BK189.out 3).trans rfl, (blk_cell BK189.out 4).trans rfl, (blk_cell BK188.out 0).trans rfl, (blk_cell BK188.out 1).trans rfl, (blk_cell BK188.out 2).trans rfl, (blk_cell BK188.out 3).trans rfl, (blk_cell BK188.out 4).trans rfl⟩ (fun hHeld => ?_)
            clear hK K
            refine norm_ (a' := ?_) ?_ ?_
            rotate_left
            · show Act.put _ (some 19) _ = _
              simp only [Act.put, List.setIfInBounds_toArray, List.set_cons_zero, List.set_cons_succ, i64_w, i32_w]
              rfl
            refine one_ (i := 3) (N := some 21) #[true, true, true, true, true, true, false, false, false, false, false, false, false, false, false] rfl rfl (one_of HT_.out (by kernel_rfl)) (by decide) (fun K hK => ?_)
            refine goes_ Tryd.func35 (by kernel_rfl) rfl #[.agg #[.int .i64 t196, .int .i64 t197, .int .u64 t198, .int .u64 t199, .int .u64 t200, .string t201], .agg #[.int .u64 a0_0, .int .u64 a0_1, .int .u64 a0_2, .string a0_3, .string a0_4], .bool true] (by rfl) rfl rfl (by (try simp only [List.map_toArray, List.map_cons, List.map_nil]); first | done | rfl | (simp only [List.length_drop, List.length_take]; rfl)) ?_
            with_reducible refine (impl_MostHolds.calls kj2 t196 t197 t198 t199 t200 t201 a0_0 a0_1 a0_2 a0_3 a0_4 true t202 _ ?side1 A21.out).mono ?_
            (case side1 => exact globE_below HGE.out (by repeat (first | (with_reducible first | exact HB.out | apply below_alloc | apply pw_below_drewN | apply below_drew1 | refine below_set ?_ GE188.out | refine below_set ?_ GE189.out) | exact HB.out)))
            rintro e w48 ⟨rfl, hb⟩
            refine ⟨_, rfl, ?_⟩
            have n0_ := Aside0.mk (Kd.R_below (by (with_reducible repeat (first | apply Kd.R_alloc | apply Kd.R_drewN | apply Kd.R_drew)); exact HO194.out) hb)
            have n1_ := Aside0.mk (blk_below (g := gb188) (o := .cells #[.int .u64 a0_0, .int .u64 a0_1, .int .u64 a0_2, .string a0_3, .string a0_4] 24 (0, 0)) (by (with_reducible repeat (first | refine blk_drewN ?_ _ | refine blk_drew ?_ | refine blk_alloc ?_ _)); exact BK188.out) hb)
            have n2_ := Aside0.mk (blk_below (g := gb189) (o := .cells #[.int .u64 a1_0, .int .u64 a1_1, .int .u64 a1_2, .string a1_3, .string a1_4] 24 (0, 0)) (by (with_reducible repeat (first | refine blk_drewN ?_ _ | refine blk_drew ?_ | refine blk_alloc ?_ _)); exact BK189.out) hb)
            have n3_ := Aside0.mk (below_step (by repeat (first | (with_reducible first | exact HB.out | apply below_alloc | apply pw_below_drewN | apply below_drew1 | refine below_set ?_ GE188.out | refine below_set ?_ GE189.out) | exact HB.out)) hb)
            clear HO194
            clear BK188
            clear BK189
            clear HB
            have HO194 := n0_
            have BK188 := n1_
            have BK189 := n2_
            have HB := n3_
            clear n0_ n1_ n2_ n3_
            (try clear hb)
            (try clear hb2)
            (try clear hk)
            (try clear hi)
            refine hK.out _ _ ⟨(blk_cell BK189.out 0).trans rfl, (blk_cell BK189.out 1).trans rfl, (blk_cell BK189.out 2).trans rfl, (blk_cell BK189.out 3).trans rfl, (blk_cell BK189.out 4).trans rfl, (blk_cell BK188.out 0).trans rfl, (blk_cell BK188.out 1).trans rfl, (blk_cell BK188.out 2).trans rfl, (blk_cell BK188.out 3).trans rfl, (blk_cell BK188.out 4).trans rfl⟩ (fun hHeld => ?_)
            clear hK K
            refine norm_ (a' := ?_) ?_ ?_
            rotate_left
            · show Act.put _ (some 21) _ = _
              simp only [Act.put, List.setIfInBounds_toArray, List.set_cons_zero, List.set_cons_succ, i64_w, i32_w]
              rfl
            refine one_ (i := 6) (N := some 24) #[true, true, true, true, true, true, true, false, false, false, false, false, false, false, false] rfl rfl (one_of HT_.out (by kernel_rfl)) (by decide) (fun K hK => ?_)
            refine goes_ Tryd.func30 (by kernel_rfl) rfl #[.agg #[.int .u64 a0_0, .int .u64 a0_1, .int .u64 a0_2, .string a0_3, .string a0_4], .agg #[.int .u64 a1_0, .int .u64 a1_1, .int .u64 a1_2, .string a1_3, .string a1_4]] (by rfl) rfl rfl (by (try simp only [List.map_toArray, List.map_cons, List.map_nil]); first | done | rfl | (simp only [List.length_drop, List.length_take]; rfl)) ?_
            with_reducible refine (impl_VersionLessEqual.calls kj2 a0_0 a0_1 a0_2 a0_3 a0_4 a1_0 a1_1 a1_2 a1_3 a1_4 t203 _ ?side1 A22.out).mono ?_
            (case side1 => exact globE_below HGE.out (by repeat (first | (with_reducible first | exact HB.out | apply below_alloc | apply pw_below_drewN | apply below_drew1 | refine below_set ?_ GE188.out | refine below_set ?_ GE189.out) | exact HB.out)))
            rintro e w49 ⟨rfl, hb⟩
            refine ⟨_, rfl, ?_⟩
            have n0_ := Aside0.mk (Kd.R_below (by (with_reducible repeat (first | apply Kd.R_alloc | apply Kd.R_drewN | apply Kd.R_drew)); exact HO194.out) hb)
            have n1_ := Aside0.mk (blk_below (g := gb188) (o := .cells #[.int .u64 a0_0, .int .u64 a0_1, .int .u64 a0_2, .string a0_3, .string a0_4] 24 (0, 0)) (by (with_reducible repeat (first | refine blk_drewN ?_ _ | refine blk_drew ?_ | refine blk_alloc ?_ _)); exact BK188.out) hb)
            have n2_ := Aside0.mk (blk_below (g := gb189) (o := .cells #[.int .u64 a1_0, .int .u64 a1_1, .int .u64 a1_2, .string a1_3, .string a1_4] 24 (0, 0)) (by (with_reducible repeat (first | refine blk_drewN ?_ _ | refine blk_drew ?_ | refine blk_alloc ?_ _)); exact BK189.out) hb)
            have n3_ := Aside0.mk (below_step (by repeat (first | (with_reducible first | exact HB.out | apply below_alloc | apply pw_below_drewN | apply below_drew1 | refine below_set ?_ GE188.out | refine below_set ?_ GE189.out) | exact HB.out)) hb)
            clear HO194
            clear BK188
            clear BK189
            clear HB
            have HO194 := n0_
            have BK188 := n1_
            have BK189 := n2_
            have HB := n3_
            clear n0_ n1_ n2_ n3_
            (try clear hb)
            (try clear hb2)
            (try clear hk)
            (try clear hi)
            refine hK.out _ _ ⟨(blk_cell BK189.out 0).trans rfl, (blk_cell BK189.out 1).trans rfl, (blk_cell BK189.out 2).trans rfl, (blk_cell BK189.out 3).trans rfl, (blk_cell BK189.out 4).trans rfl, (blk_cell BK188.out 0).trans rfl, (blk_cell BK188.out 1).trans rfl, (blk_cell BK188.out 2).trans rfl, (blk_cell BK188.out 3).trans rfl, (blk_cell BK188.out 4).trans rfl⟩ (fun hHeld => ?_)
            clear hK K
            refine norm_ (a' := ?_) ?_ ?_
            rotate_left
            · show Act.put _ (some 24) _ = _
              simp only [Act.put, List.setIfInBounds_toArray, List.set_cons_zero, List.set_cons_succ, i64_w, i32_w]
              rfl
            refine pure_ (i := 7) (N := some 25) (v := ?_) (a' := ?_) #[true, true, true, true, true, true, true, true, false, false, false, false, false, false, false] rfl rfl (any_of HT_.out (by kernel_rfl)) (fun _ _ _ h => h) (Or.inl ⟨by rfl, ?_⟩) ?_ ?_
            rotate_left
            · intro w'
              go_simp
              with_reducible rfl
            rotate_left
            · simp only [Act.put, List.setIfInBounds_toArray, List.set_cons_zero, List.set_cons_succ, i64_w, i32_w]
              rfl
            refine pure_ (i := 8) (N := some 26) (v := ?_) (a' := ?_) #[true, true, true, true, true, true, true, true, true, false, false, false, false, false, false] rfl rfl (any_of HT_.out (by kernel_rfl)) (fun _ _ _ h => h) (Or.inl ⟨by rfl, ?_⟩) ?_ ?_
            rotate_left
            · intro w'
              go_simp
              with_reducible rfl
            rotate_left
            · simp only [Act.put, List.setIfInBounds_toArray, List.set_cons_zero, List.set_cons_succ, i64_w, i32_w]
              rfl
            refine pure_ (i := 9) (N := some 27) (v := undef) (a' := ?_) #[true, true, true, true, true, true, true, true, true, true, false, false, false, false, false] rfl rfl (any_of HT_.out (by kernel_rfl)) (fun _ _ _ h => h) (Or.inr ⟨by rfl, rfl⟩) ?_ ?_
            rotate_left
            · simp only [Act.put, List.setIfInBounds_toArray, List.set_cons_zero, List.set_cons_succ, i64_w, i32_w]
              rfl
            refine pure_ (i := 10) (N := some 28) (v := undef) (a' := ?_) #[true, true, true, true, true, true, true, true, true, true, true, false, false, false, false] rfl rfl (any_of HT_.out (by kernel_rfl)) (fun _ _ _ h => h) (Or.inr ⟨by rfl, rfl⟩) ?_ ?_
            rotate_left
            · simp only [Act.put, List.setIfInBounds_toArray, List.set_cons_zero, List.set_cons_succ, i64_w, i32_w]
              rfl
            refine pure_ (i := 11) (N := some 29) (v := undef) (a' := ?_) #[true, true, true, true, true, true, true, true, true, true, true, true, false, false, false] rfl rfl (any_of HT_.out (by kernel_rfl)) (fun _ _ _ h => h) (Or.inr ⟨by rfl, rfl⟩) ?_ ?_
            rotate_left
            · simp only [Act.put, List.setIfInBounds_toArray, List.set_cons_zero, List.set_cons_succ, i64_w, i32_w]
              rfl
            refine pure_ (i := 12) (N := some 30) (v := undef) (a' := ?_) #[true, true, true, true, true, true, true, true, true, true, true, true, true, false, false] rfl rfl (any_of HT_.out (by kernel_rfl)) (fun _ _ _ h => h) (Or.inr ⟨by rfl, rfl⟩) ?_ ?_
            rotate_left
            · simp only [Act.put, List.setIfInBounds_toArray, List.set_cons_zero, List.set_cons_succ, i64_w, i32_w]
              rfl
            refine pure_ (i := 13) (N := some 31) (v := ?_) (a' := ?_) #[true, true, true, true, true, true, true, true, true, true, true, true, true, true, false] rfl rfl (any_of HT_.out (by kernel_rfl)) (fun _ _ _ h => h) (Or.inl ⟨by rfl, ?_⟩) ?_ ?_
            rotate_left
            · intro w'
              go_simp
              with_reducible rfl
            rotate_left
            · simp only [Act.put, List.setIfInBounds_toArray, List.set_cons_zero, List.set_cons_succ, i64_w, i32_w]
              rfl
            refine pure_ (i := 14) (N := some 4) (v := ?_) (a' := ?_) #[true, true, true, true, true, true, true, true, true, true, true, true, true, true, true] rfl rfl (any_of HT_.out (by kernel_rfl)) (fun _ _ _ h => h) (Or.inl ⟨by rfl, ?_⟩) ?_ ?_
            rotate_left
            · intro w'
              go_simp
              with_reducible rfl
            rotate_left
            · simp only [Act.put, List.setIfInBounds_toArray, List.set_cons_zero, List.set_cons_succ, i64_w, i32_w]
              rfl
            refine done_ (done_of HT_.out (by kernel_rfl)) ?_
            try go_wp2
            go_ret
            exact ⟨by first | rfl | (simp [errW_none, errW_some] <;> rfl) | (simp [*, errW_none, errW_some] <;> rfl), by repeat (first | (with_reducible first | exact HB.out | apply below_alloc | apply pw_below_drewN | apply below_drew1 | refine below_set ?_ GE188.out | refine below_set ?_ GE189.out) | exact HB.out)⟩
        · replace c19 := Bool.eq_false_iff.mpr c19
          subst c19
          have H1 : (some true) = some r := by rw [if_neg (show ¬ (false = true) by decide)] at H; exact H
          clear H
          have H := H1
          clear H1
          obtain rfl := Option.some.inj H
          have hnb50 := NB188_189.out
          have hnc50 := NB189_188.out
          have hcz51_0 : wc.cell? ⟨gb188, 0, none⟩ = some (.int .u64 a0_0) := (blk_cell BK188.out 0).trans rfl
          have hcz51_1 : wc.cell? ⟨gb188, 1, none⟩ = some (.int .u64 a0_1) := (blk_cell BK188.out 1).trans rfl
          have hcz51_2 : wc.cell? ⟨gb188, 2, none⟩ = some (.int .u64 a0_2) := (blk_cell BK188.out 2).trans rfl
          have hcz51_3 : wc.cell? ⟨gb188, 3, none⟩ = some (.string a0_3) := (blk_cell BK188.out 3).trans rfl
          have hcz51_4 : wc.cell? ⟨gb188, 4, none⟩ = some (.string a0_4) := (blk_cell BK188.out 4).trans rfl
          have hfz51_0 := blk_frozen BK188.out 0
          have hfz51_1 := blk_frozen BK188.out 1
          have hfz51_2 := blk_frozen BK188.out 2
          have hfz51_3 := blk_frozen BK188.out 3
          have hfz51_4 := blk_frozen BK188.out 4
          have hcz52_0 : wc.cell? ⟨gb189, 0, none⟩ = some (.int .u64 a1_0) := (blk_cell BK189.out 0).trans rfl
          have hcz52_1 : wc.cell? ⟨gb189, 1, none⟩ = some (.int .u64 a1_1) := (blk_cell BK189.out 1).trans rfl
          have hcz52_2 : wc.cell? ⟨gb189, 2, none⟩ = some (.int .u64 a1_2) := (blk_cell BK189.out 2).trans rfl
          have hcz52_3 : wc.cell? ⟨gb189, 3, none⟩ = some (.string a1_3) := (blk_cell BK189.out 3).trans rfl
          have hcz52_4 : wc.cell? ⟨gb189, 4, none⟩ = some (.string a1_4) := (blk_cell BK189.out 4).trans rfl
          have hfz52_0 := blk_frozen BK189.out 0
          have hfz52_1 := blk_frozen BK189.out 1
          have hfz52_2 := blk_frozen BK189.out 2
          have hfz52_3 := blk_frozen BK189.out 3
          have hfz52_4 := blk_frozen BK189.out 4
          go_wp2_with (first | ((with_reducible refine gate_dst (N := 15) rfl ?_); refine Kd.R_lit k24 _ 24 ?hg (N := 15) ?hd (xs := ([(⟨a0_0, a0_1, a0_2, a0_3, a0_4⟩ : S24), (⟨a1_0, a1_1, a1_2, a1_3, a1_4⟩ : S24)] : List (S24))) (inner := [.int .u64 a0_0, .int .u64 a0_1, .int .u64 a0_2, .string a0_3, .string a0_4, .int .u64 a1_0, .int .u64 a1_1, .int .u64 a1_2, .string a1_3, .string a1_4]) (ok := fun _ => True) (okp := fun _ => True) ?hr ?hp (fun _ hk => hk) trivial (Below.refl _ _) (Nat.le_refl _) (by simp) ?_; (case hd => rfl); (case hg => rfl); (case hr => first | (go_simp; done) | (go_simp; rfl)); (case hp => exact (Reps.c5 (show Kd.M k24 _ _ _ (⟨a0_0, a0_1, a0_2, a0_3, a0_4⟩ : S24) [.int .u64 a0_0, .int .u64 a0_1, .int .u64 a0_2, .string a0_3, .string a0_4] from (k24_mkM _ _ _ (⟨a0_0, a0_1, a0_2, a0_3, a0_4⟩ : S24) )) (Reps.c5 (show Kd.M k24 _ _ _ (⟨a1_0, a1_1, a1_2, a1_3, a1_4⟩ : S24) [.int .u64 a1_0, .int .u64 a1_1, .int .u64 a1_2, .string a1_3, .string a1_4] from (k24_mkM _ _ _ (⟨a1_0, a1_1, a1_2, a1_3, a1_4⟩ : S24) )) (Reps.none _ _)))); intro v193 w53 ho54 hb hg_ hnew_; clear hg_ hnew_; (first | rw [← Ny192.out] at ho54 | (simp only [Int.reduceToNat] at ho54; rw [← Ny192.out] at ho54)); have n0_ := Aside0.mk (Kd.R_lower (Kd.R_newB (Kd.R_newB ho54 (g := gb188) (o := .cells #[.int .u64 a0_0, .int .u64 a0_1, .int .u64 a0_2, .string a0_3, .string a0_4] 24 (0, 0)) (by (with_reducible repeat (first | refine blk_drewN ?_ _ | refine blk_drew ?_ | refine blk_alloc ?_ _)); exact BK188.out)) (g := gb189) (o := .cells #[.int .u64 a1_0, .int .u64 a1_1, .int .u64 a1_2, .string a1_3, .string a1_4] 24 (0, 0)) (by (with_reducible repeat (first | refine blk_drewN ?_ _ | refine blk_drew ?_ | refine blk_alloc ?_ _)); exact BK189.out)) (below_size (by repeat (first | (with_reducible first | exact HB.out | apply below_alloc | apply pw_below_drewN | apply below_drew1 | refine below_set ?_ GE188.out | refine below_set ?_ GE189.out) | exact HB.out)))); have n1_ := Aside0.mk (blk_below (g := gb188) (o := .cells #[.int .u64 a0_0, .int .u64 a0_1, .int .u64 a0_2, .string a0_3, .string a0_4] 24 (0, 0)) (by (with_reducible repeat (first | refine blk_drewN ?_ _ | refine blk_drew ?_ | refine blk_alloc ?_ _)); exact BK188.out) hb); have n2_ := Aside0.mk (blk_below (g := gb189) (o := .cells #[.int .u64 a1_0, .int .u64 a1_1, .int .u64 a1_2, .string a1_3, .string a1_4] 24 (0, 0)) (by (with_reducible repeat (first | refine blk_drewN ?_ _ | refine blk_drew ?_ | refine blk_alloc ?_ _)); exact BK189.out) hb); have n3_ := Aside0.mk (below_step (by repeat (first | (with_reducible first | exact HB.out | apply below_alloc | apply pw_below_drewN | apply below_drew1 | refine below_set ?_ GE188.out | refine below_set ?_ GE189.out) | exact HB.out)) hb); clear BK188; clear BK189; clear HB; have HO194 := n0_; have BK188 := n1_; have BK189 := n2_; have HB := n3_; clear n0_ n1_ n2_ n3_; clear hb ho54; obtain ⟨Ao55, co55, eo55⟩ := Kd.R_slice HO194.out; subst eo55) | ((with_reducible refine only_callee (f := 18) rfl ?_); refine goesL_ (some 16) rfl rfl Tryd.func18 (by kernel_rfl) rfl #[.slice Ao55 y192.length co55] rfl (by (try simp only [List.map_toArray, List.map_cons, List.map_nil]); first | done | rfl | (simp only [List.length_drop, List.length_take]; rfl)) ?_; (with_reducible refine (laws_svGood.calls kj2 _ _ y192 false _ ?side1 ?side2 A18.out).mono ?_); (case side1 => repeat (first | exact (Kd.R_reads' HO194.out).2.2 | (with_reducible refine Kd.C_alloc ?_ _) | (with_reducible refine Kd.C_drewN ?_ _) | (with_reducible refine Kd.C_drew ?_))); (case side2 => exact (Kd.R_reads' HO194.out).2.1); rintro e w56 ⟨rfl, hb⟩; refine ⟨_, rfl, ?_⟩; have n0_ := Aside0.mk (Kd.R_below (by (with_reducible repeat (first | apply Kd.R_alloc | apply Kd.R_drewN | apply Kd.R_drew)); exact HO194.out) hb); have n1_ := Aside0.mk (blk_below (g := gb188) (o := .cells #[.int .u64 a0_0, .int .u64 a0_1, .int .u64 a0_2, .string a0_3, .string a0_4] 24 (0, 0)) (by (with_reducible repeat (first | refine blk_drewN ?_ _ | refine blk_drew ?_ | refine blk_alloc ?_ _)); exact BK188.out) hb); have n2_ := Aside0.mk (blk_below (g := gb189) (o := .cells #[.int .u64 a1_0, .int .u64 a1_1, .int .u64 a1_2, .string a1_3, .string a1_4] 24 (0, 0)) (by (with_reducible repeat (first | refine blk_drewN ?_ _ | refine blk_drew ?_ | refine blk_alloc ?_ _)); exact BK189.out) hb); have n3_ := Aside0.mk (below_step (by repeat (first | (with_reducible first | exact HB.out | apply below_alloc | apply pw_below_drewN | apply below_drew1 | refine below_set ?_ GE188.out | refine below_set ?_ GE189.out) | exact HB.out)) hb); clear HO194; clear BK188; clear BK189; clear HB; have HO194 := n0_; have BK188 := n1_; have BK189 := n2_; have HB := n3_; clear n0_ n1_ n2_ n3_; (try clear hb); (try clear hb2); (try clear hk); (try clear hi)))
          go_ret
          exact ⟨by first | rfl | (simp [errW_none, errW_some] <;> rfl) | (simp [*, errW_none, errW_some] <;> rfl), by repeat (first | (with_reducible first | exact HB.out | apply below_alloc | apply pw_below_drewN | apply below_drew1 | refine below_set ?_ GE188.out | refine below_set ?_ GE189.out) | exact HB.out)⟩

end Go.Proofs.YtlooelfkkbgmhaaDoor.QS
