-- written by a program of mine (wip/tools/myprint.py, gather.py) for this claim. Not trusted: Lean checks it.
import Derived.Below
import Derived.Deep.Draws
import Derived.Deep.AppendLies
import Derived.Maps.AppendAt
import Derived.OwnWalk
import Derived.Laws.BytesArg
import Derived.Laws.MakeOwn
import Derived.Laws.OwnMore
import Derived.Deep.OwnRows
import Derived.Tactics
import Derived.Lib.ConvBytes
import Derived.Laws.Slices
import Derived.WalkKit
import Derived.KernelRfl
import Derived.RowKit3
import Derived.Deep.LoopGhost
import Derived.Deep.QuietTactic
import Derived.BigQuiet
import Derived.WideLaws
import Derived.Deep.DeepCutAuto
import Derived.Deep.CutBlock
import Derived.Deep.RegionHeld3
import Derived.Laws.Rows
import Derived.Lib.AppendStr
import Derived.ArgAppend
import Derived.Laws.IdiomCopy
import Derived.OrdersHeld
import Derived.Laws.BitsLemmas
import Derived.RowKit
import Derived.Test.YtlooelfkkbgmhaaDoorQS3
import Derived.Test.YtlooelfkkbgmhaaDoorQS1
import Derived.Test.YtlooelfkkbgmhaaDoorConCheck
namespace Go.Proofs.YtlooelfkkbgmhaaDoor.QS
open Go.RowKit Go.Proofs.YtlooelfkkbgmhaaDoorW.PrintWords Go.Proofs.YtlooelfkkbgmhaaDoorW.PrintLast

end Go.Proofs.YtlooelfkkbgmhaaDoor.QS
namespace Go.Proofs.YtlooelfkkbgmhaaDoor.QS
open Go.RowKit Go.Proofs.YtlooelfkkbgmhaaDoorW.PrintWords Go.Proofs.YtlooelfkkbgmhaaDoorW.PrintLast

set_option linter.unusedVariables false
set_option linter.unusedSimpArgs false

/-! ### laws_FnSemverExcluded: function 14 -/
mutual
def laws_FnSemverExcluded.j0 : Nat → List (List (S36)) → Bool → Int → Int → Int → ByteArray → ByteArray → Option (Bool)
 | 0, _, _, _, _, _, _, _ => none
 | k + 1, x0, x15, x563000, x563001, x563002, x563003, x563004 => if x15 = true then (some true) else ((spec_Bare.f x563000 x563001 x563002 x563003 x563004).bind fun bt565 => ((laws_siGood.f k (([x0] : List (List (List (S36)))))).bind fun t573 => (if t573 = true then ((spec_Complement.f k x0).bind fun bt574 => (if bt574.2 = true then (laws_FnSemverExcluded.j1 k x0 bt574.1 (decide ((bt574.1.length : Int) > 64)) bt565.1 bt565.2.1 bt565.2.2.1 bt565.2.2.2.1 bt565.2.2.2.2) else (laws_FnSemverExcluded.j1 k x0 bt574.1 true bt565.1 bt565.2.1 bt565.2.2.1 bt565.2.2.2.1 bt565.2.2.2.2))) else (some true))))
def laws_FnSemverExcluded.j1 : Nat → List (List (S36)) → List (List (S36)) → Bool → Int → Int → Int → ByteArray → ByteArray → Option (Bool)
 | 0, _, _, _, _, _, _, _, _ => none
 | k + 1, x0, x5, x33, x563000, x563001, x563002, x563003, x563004 => if x33 = true then (some true) else ((some (([] : List (List (S36))) : List (List (S36)))).bind fun y578 => (if y578.length + x0.length < 5864062014805 then ((some (y578 ++ x0 : List (List (S36)))).bind fun y581 => (if y581.length + x5.length < 5864062014805 then ((impl_TermsHold.f k (y581 ++ x5) x563000 x563001 x563002 x563003 x563004 false).bind fun t587 => (if t587 = true then ((spec_Cross.f k x0 x5).bind fun t588 => ((impl_TermsHold.f k t588 x563000 x563001 x563002 x563003 x563004 false).bind fun t591 => (some (!t591)))) else (some false))) else (none))) else (none)))
end
def laws_FnSemverExcluded.f (k : Nat) (l0 : List (List (S36))) (a1_0 : Int) (a1_1 : Int) (a1_2 : Int) (a1_3 : ByteArray) (a1_4 : ByteArray) : Option (Bool) := (laws_zzFits11.f k l0).bind fun t563 => (if t563 = true then ((laws_zzFits14.f a1_0 a1_1 a1_2 a1_3 a1_4).bind fun t564 => (laws_FnSemverExcluded.j0 k l0 (!t564) a1_0 a1_1 a1_2 a1_3 a1_4)) else (laws_FnSemverExcluded.j0 k l0 true a1_0 a1_1 a1_2 a1_3 a1_4))
theorem laws_FnSemverExcluded.mono_l : ∀ k, (∀ y0 y1 y2 y3 y4 y5 y6, LeO (laws_FnSemverExcluded.j0 k y0 y1 y2 y3 y4 y5 y6) (laws_FnSemverExcluded.j0 (k + 1) y0 y1 y2 y3 y4 y5 y6)) ∧ (∀ y0 y1 y2 y3 y4 y5 y6 y7, LeO (laws_FnSemverExcluded.j1 k y0 y1 y2 y3 y4 y5 y6 y7) (laws_FnSemverExcluded.j1 (k + 1) y0 y1 y2 y3 y4 y5 y6 y7))
 | 0 => ⟨fun _ _ _ _ _ _ _ r h => by simp [laws_FnSemverExcluded.j0] at h, fun _ _ _ _ _ _ _ _ r h => by simp [laws_FnSemverExcluded.j1] at h⟩
 | k + 1 => by
  obtain ⟨ih0, ih1⟩ := laws_FnSemverExcluded.mono_l k
  refine ⟨?_, ?_⟩
  ·intro y0 y1 y2 y3 y4 y5 y6
   unfold laws_FnSemverExcluded.j0
   repeat' first
   | (with_reducible exact ih0 _ _ _ _ _ _ _)
   | (with_reducible exact ih1 _ _ _ _ _ _ _ _)
   | (with_reducible exact impl_TermsHold.mono _ _ _ _ _ _ _ _)
   | (with_reducible exact laws_siGood.mono _ _)
   | (with_reducible exact laws_zzFits11.mono _ _)
   | (with_reducible exact spec_Complement.mono _ _)
   | (with_reducible exact spec_Cross.mono _ _ _)
   | (with_reducible exact LeO.refl _)
   | (with_reducible exact LeO.none _)
   | (with_reducible refine LeO.ite ?_ ?_)
   | (with_reducible refine LeO.bind ?_ (fun _ => ?_))
   | exact ih0 _ _ _ _ _ _ _
   | exact ih1 _ _ _ _ _ _ _ _
   | exact impl_TermsHold.mono _ _ _ _ _ _ _ _
   | exact laws_siGood.mono _ _
   | exact laws_zzFits11.mono _ _
   | exact spec_Complement.mono _ _
   | exact spec_Cross.mono _ _ _
   | exact LeO.none _
   | refine LeO.ite ?_ ?_
   | refine LeO.bind ?_ (fun _ => ?_)
  ·intro y0 y1 y2 y3 y4 y5 y6 y7
   unfold laws_FnSemverExcluded.j1
   repeat' first
   | (with_reducible exact ih0 _ _ _ _ _ _ _)
   | (with_reducible exact ih1 _ _ _ _ _ _ _ _)
   | (with_reducible exact impl_TermsHold.mono _ _ _ _ _ _ _ _)
   | (with_reducible exact laws_siGood.mono _ _)
   | (with_reducible exact laws_zzFits11.mono _ _)
   | (with_reducible exact spec_Complement.mono _ _)
   | (with_reducible exact spec_Cross.mono _ _ _)
   | (with_reducible exact LeO.refl _)
   | (with_reducible exact LeO.none _)
   | (with_reducible refine LeO.ite ?_ ?_)
   | (with_reducible refine LeO.bind ?_ (fun _ => ?_))
   | exact ih0 _ _ _ _ _ _ _
   | exact ih1 _ _ _ _ _ _ _ _
   | exact impl_TermsHold.mono _ _ _ _ _ _ _ _
   | exact laws_siGood.mono _ _
   | exact laws_zzFits11.mono _ _
   | exact spec_Complement.mono _ _
   | exact spec_Cross.mono _ _ _
   | exact LeO.none _
   | refine LeO.ite ?_ ?_
   | refine LeO.bind ?_ (fun _ => ?_)
theorem laws_FnSemverExcluded.mono : ∀ a0 a1 a2 a3 a4 a5 k, LeO (laws_FnSemverExcluded.f k a0 a1 a2 a3 a4 a5) (laws_FnSemverExcluded.f (k + 1) a0 a1 a2 a3 a4 a5) := by
 intro a0 a1 a2 a3 a4 a5 k
 obtain ⟨ih0, ih1⟩ := laws_FnSemverExcluded.mono_l k
 unfold laws_FnSemverExcluded.f
 repeat' first
   | (with_reducible exact ih0 _ _ _ _ _ _ _)
   | (with_reducible exact ih1 _ _ _ _ _ _ _ _)
   | (with_reducible exact impl_TermsHold.mono _ _ _ _ _ _ _ _)
   | (with_reducible exact laws_siGood.mono _ _)
   | (with_reducible exact laws_zzFits11.mono _ _)
   | (with_reducible exact spec_Complement.mono _ _)
   | (with_reducible exact spec_Cross.mono _ _ _)
   | (with_reducible exact LeO.refl _)
   | (with_reducible exact LeO.none _)
   | (with_reducible refine LeO.ite ?_ ?_)
   | (with_reducible refine LeO.bind ?_ (fun _ => ?_))
   | exact ih0 _ _ _ _ _ _ _
   | exact ih1 _ _ _ _ _ _ _ _
   | exact impl_TermsHold.mono _ _ _ _ _ _ _ _
   | exact laws_siGood.mono _ _
   | exact laws_zzFits11.mono _ _
   | exact spec_Complement.mono _ _
   | exact spec_Cross.mono _ _ _
   | exact LeO.none _
   | refine LeO.ite ?_ ?_
   | refine LeO.bind ?_ (fun _ => ?_)
def laws_FnSemverExcluded.T10 : Bool × List (List Nat × List Nat) := (true, [([], []), ([], []), ([0, 1], [0, 1]), ([2, 2], [2]), ([3], [3]), ([3], [3]), ([4, 5, 3, 3], [3, 4, 5]), ([3], [3]), ([6, 7, 6, 3], [3, 6, 7]), ([8, 3], [3, 8]), ([3, 9], [3, 9]), ([10, 8, 0, 1, 2, 3, 4, 5, 6, 7, 8, 9, 10], [10])])
def laws_FnSemverExcluded.B10 : List Nat := [0, 0, 3, 7, 15, 15, 63, 15, 255, 511, 1023, 2047]
theorem laws_FnSemverExcluded.tab10 : rtab .any (opsOf Tryd.f14 10) = laws_FnSemverExcluded.T10 := by kernel_rfl
theorem laws_FnSemverExcluded.bits10 : waitsOk laws_FnSemverExcluded.T10.2 laws_FnSemverExcluded.B10 = true := by kernel_rfl
set_option maxHeartbeats 8000000 in
set_option maxRecDepth 100000 in
theorem laws_FnSemverExcluded.calls (k : Nat) (P0_ : Nat → Prop) (A0 : Option Addr) (c0 : Nat) (l0 : List (List (S36))) (a1_0 : Int) (a1_1 : Int) (a1_2 : Int) (a1_3 : ByteArray) (a1_4 : ByteArray) (r : Bool) (w : World) (hs0 : Kd.V (Kd.slice 36 k36) 65 w w.heap.size (fun k_ => P0_ k_) (.slice A0 l0.length c0) l0) (hGE : GlobE w) (h : laws_FnSemverExcluded.f k l0 a1_0 a1_1 a1_2 a1_3 a1_4 = some r) :
  Calls Tryd.prog 14 #[.slice A0 l0.length c0, .agg #[.int .u64 a1_0, .int .u64 a1_1, .int .u64 a1_2, .string a1_3, .string a1_4]] w fun e w' => e = .returned (.bool r) ∧ Below w.heap.size w w' := by
 have hu24 := Tryd.underlying24
 have HGE := Aside0.mk hGE
 clear hGE
 have HO0 := Aside0.mk (show Kd.V (Kd.slice 36 k36) 65 w w.heap.size (fun k_ => (P0_ k_ ∨ w.heap.size ≤ k_)) (.slice A0 l0.length c0) l0 from Kd.V_mono hs0 (fun k_ hk => .inl hk))
 have HB := Aside0.mk (Below.refl w.heap.size w)
 have H : ((laws_zzFits11.f k l0).bind fun t563 => (if t563 = true then ((laws_zzFits14.f a1_0 a1_1 a1_2 a1_3 a1_4).bind fun t564 => (laws_FnSemverExcluded.j0 k l0 (!t564) a1_0 a1_1 a1_2 a1_3 a1_4)) else (laws_FnSemverExcluded.j0 k l0 true a1_0 a1_1 a1_2 a1_3 a1_4))) = some r := h
 clear h
 have HC3 := Aside0.mk H
 clear H
 go_enter Tryd.func14, Tryd.ntmps14
 go_upto_region 1 with (first | ((with_reducible refine gate_dst (N := 3) rfl ?_); (try (refine gate_guard (by rfl) ?_; dsimp only)); refine box_event ?hg (N := 3) ?hd (cs := #[.int .u64 a1_0, .int .u64 a1_1, .int .u64 a1_2, .string a1_3, .string a1_4]) (t := 24) ?hr ?_; (case hd => rfl); (case hg => rfl); (case hr => first | (go_simp; done) | (go_simp; rfl)); intro gb562 hg w4 hbox hb; have n0_ := Aside0.mk (Kd.V_below (Kd.V_elderB (by (with_reducible repeat (first | apply Kd.V_alloc | apply Kd.V_drewN | apply Kd.V_drew)); exact HO0.out) gb562 (Nat.le_of_eq hg.symm)) hb); have n1_ := Aside0.mk (below_step (by repeat (first | (with_reducible first | exact HB.out | apply below_alloc | apply pw_below_drewN | apply below_drew1) | exact HB.out)) hb); have n2_ := Aside0.mk (hbox); have n3_ := Aside0.mk ((by rw [hg]; exact (below_size (by repeat (first | (with_reducible first | exact HB.out | apply below_alloc | apply pw_below_drewN | apply below_drew1) | exact HB.out))) : w.heap.size ≤ gb562)); have n4_ := Aside0.mk ((by rw [hg]; exact (below_size (by repeat (first | (with_reducible first | exact HB.out | apply below_alloc | apply pw_below_drewN | apply below_drew1) | exact HB.out))) : w.heap.size ≤ gb562)); clear HO0; clear HB; have HO0 := n0_; have HB := n1_; have BK562 := n2_; have GW562 := n3_; have GE562 := n4_; clear n0_ n1_ n2_ n3_ n4_; clear hb hbox hg))
 (try simp only [Act.put, List.setIfInBounds_toArray, List.set_cons_zero, List.set_cons_succ])
 go_cut [15] (fun v15 wc => ∃ (kq : Nat) (x15_2 : Bool), v15 = .bool x15_2 ∧ Aside0 (laws_FnSemverExcluded.j0 kq l0 x15_2 a1_0 a1_1 a1_2 a1_3 a1_4 = some r) ∧ Aside0 (kq ≤ k) ∧ Aside0 (Kd.V (Kd.slice 36 k36) 65 wc w.heap.size (fun k_ => (P0_ k_ ∨ w.heap.size ≤ k_) ∧ k_ ≠ gb562) (.slice A0 l0.length c0) l0) ∧ Aside0 (wc.heap[gb562]? = some (.cells #[.int .u64 a1_0, .int .u64 a1_1, .int .u64 a1_2, .string a1_3, .string a1_4] 24 (0, 0))) ∧ Aside0 (Below w.heap.size w wc))
 case first =>
  have H := HC3.out
  clear HC3
  replace H := Option.bind_eq_some_iff.mp H
  obtain ⟨t563, A50, H⟩ := H
  replace H : (if t563 = true then ((laws_zzFits14.f a1_0 a1_1 a1_2 a1_3 a1_4).bind fun t564 => (laws_FnSemverExcluded.j0 k l0 (!t564) a1_0 a1_1 a1_2 a1_3 a1_4)) else (laws_FnSemverExcluded.j0 k l0 true a1_0 a1_1 a1_2 a1_3 a1_4)) = some r := H
  have A5 := Aside0.mk A50
  clear A50
  by_cases c6 : t563 = true
  ·subst c6
   have H1 : ((laws_zzFits14.f a1_0 a1_1 a1_2 a1_3 a1_4).bind fun t564 => (laws_FnSemverExcluded.j0 k l0 (!t564) a1_0 a1_1 a1_2 a1_3 a1_4)) = some r := by rw [if_pos rfl] at H; exact H
   clear H
   have H := H1
   clear H1
   replace H := Option.bind_eq_some_iff.mp H
   obtain ⟨t564, A70, H⟩ := H
   replace H : (laws_FnSemverExcluded.j0 k l0 (!t564) a1_0 a1_1 a1_2 a1_3 a1_4) = some r := H
   have A7 := Aside0.mk A70
   clear A70
   have H' := Aside0.mk H
   clear H
   go_wp2_with (first | ((with_reducible refine only_callee (f := 52) rfl ?_); refine goesL_ (some 9) rfl rfl Tryd.func52 (by kernel_rfl) rfl #[.slice A0 l0.length c0] rfl (by (try simp only [List.map_toArray, List.map_cons, List.map_nil]); first | done | rfl | (simp only [List.length_drop, List.length_take]; rfl)) ?_; (with_reducible refine (laws_zzFits11.calls k _ _ l0 true _ ?side1 ?side2 A5.out).mono ?_); (case side1 => repeat (first | exact (Kd.V_reads' HO0.out).2.2 | (with_reducible refine Kd.C_alloc ?_ _) | (with_reducible refine Kd.C_drewN ?_ _) | (with_reducible refine Kd.C_drew ?_))); (case side2 => exact (Kd.V_reads' HO0.out).2.1); rintro e w8 ⟨rfl, hb⟩; refine ⟨_, rfl, ?_⟩; have n0_ := Aside0.mk (Kd.V_below (by (with_reducible repeat (first | apply Kd.V_alloc | apply Kd.V_drewN | apply Kd.V_drew)); exact HO0.out) hb); have n1_ := Aside0.mk (blk_below (g := gb562) (o := .cells #[.int .u64 a1_0, .int .u64 a1_1, .int .u64 a1_2, .string a1_3, .string a1_4] 24 (0, 0)) (by (with_reducible repeat (first | refine blk_drewN ?_ _ | refine blk_drew ?_ | refine blk_alloc ?_ _)); exact BK562.out) hb); have n2_ := Aside0.mk (below_step (by repeat (first | (with_reducible first | exact HB.out | apply below_alloc | apply pw_below_drewN | apply below_drew1 | refine below_set ?_ GE562.out) | exact HB.out)) hb); clear HO0; clear BK562; clear HB; have HO0 := n0_; have BK562 := n1_; have HB := n2_; clear n0_ n1_ n2_; (try clear hb); (try clear hb2); (try clear hk); (try clear hi); have hcz9_0 : w8.cell? ⟨gb562, 0, none⟩ = some (.int .u64 a1_0) := (blk_cell BK562.out 0).trans rfl; have hcz9_1 : w8.cell? ⟨gb562, 1, none⟩ = some (.int .u64 a1_1) := (blk_cell BK562.out 1).trans rfl; have hcz9_2 : w8.cell? ⟨gb562, 2, none⟩ = some (.int .u64 a1_2) := (blk_cell BK562.out 2).trans rfl; have hcz9_3 : w8.cell? ⟨gb562, 3, none⟩ = some (.string a1_3) := (blk_cell BK562.out 3).trans rfl; have hcz9_4 : w8.cell? ⟨gb562, 4, none⟩ = some (.string a1_4) := (blk_cell BK562.out 4).trans rfl; have hfz9_0 := blk_frozen BK562.out 0; have hfz9_1 := blk_frozen BK562.out 1; have hfz9_2 := blk_frozen BK562.out 2; have hfz9_3 := blk_frozen BK562.out 3; have hfz9_4 := blk_frozen BK562.out 4) | (go_at_call 17; (with_reducible refine (laws_zzFits14.calls a1_0 a1_1 a1_2 a1_3 a1_4 t564 _ A7.out).mono ?_); rintro e w10 ⟨rfl, hb⟩; have n0_ := Aside0.mk (Kd.V_below (by (with_reducible repeat (first | apply Kd.V_alloc | apply Kd.V_drewN | apply Kd.V_drew)); exact HO0.out) hb); have n1_ := Aside0.mk (blk_below (g := gb562) (o := .cells #[.int .u64 a1_0, .int .u64 a1_1, .int .u64 a1_2, .string a1_3, .string a1_4] 24 (0, 0)) (by (with_reducible repeat (first | refine blk_drewN ?_ _ | refine blk_drew ?_ | refine blk_alloc ?_ _)); exact BK562.out) hb); have n2_ := Aside0.mk (below_step (by repeat (first | (with_reducible first | exact HB.out | apply below_alloc | apply pw_below_drewN | apply below_drew1 | refine below_set ?_ GE562.out) | exact HB.out)) hb); clear HO0; clear BK562; clear HB; have HO0 := n0_; have BK562 := n1_; have HB := n2_; clear n0_ n1_ n2_; (try clear hb); (try clear hb2); (try clear hk); (try clear hi)))
   go_meet
   case rel => exact ⟨_, (!t564), (by first | rfl | (simp; done) | (simp [*]; done) | (simp [nil_bne]; done)), H', ⟨by first | omega | exact Nat.le_refl _⟩, ⟨by (with_reducible repeat (first | apply Kd.V_alloc | apply Kd.V_drewN | apply Kd.V_drew)); exact HO0.out⟩, ⟨by (with_reducible repeat (first | refine blk_drewN ?_ _ | refine blk_drew ?_ | refine blk_alloc ?_ _)); exact BK562.out⟩, ⟨by repeat (first | (with_reducible first | exact HB.out | apply below_alloc | apply pw_below_drewN | apply below_drew1 | refine below_set ?_ GE562.out) | exact HB.out)⟩⟩
  ·replace c6 := Bool.eq_false_iff.mpr c6
   subst c6
   have H1 : (laws_FnSemverExcluded.j0 k l0 true a1_0 a1_1 a1_2 a1_3 a1_4) = some r := by rw [if_neg (show ¬ (false = true) by decide)] at H; exact H
   clear H
   have H := H1
   clear H1
   have H' := Aside0.mk H
   clear H
   go_wp2_with (first | ((with_reducible refine only_callee (f := 52) rfl ?_); refine goesL_ (some 9) rfl rfl Tryd.func52 (by kernel_rfl) rfl #[.slice A0 l0.length c0] rfl (by (try simp only [List.map_toArray, List.map_cons, List.map_nil]); first | done | rfl | (simp only [List.length_drop, List.length_take]; rfl)) ?_; (with_reducible refine (laws_zzFits11.calls k _ _ l0 false _ ?side1 ?side2 A5.out).mono ?_); (case side1 => repeat (first | exact (Kd.V_reads' HO0.out).2.2 | (with_reducible refine Kd.C_alloc ?_ _) | (with_reducible refine Kd.C_drewN ?_ _) | (with_reducible refine Kd.C_drew ?_))); (case side2 => exact (Kd.V_reads' HO0.out).2.1); rintro e w11 ⟨rfl, hb⟩; refine ⟨_, rfl, ?_⟩; have n0_ := Aside0.mk (Kd.V_below (by (with_reducible repeat (first | apply Kd.V_alloc | apply Kd.V_drewN | apply Kd.V_drew)); exact HO0.out) hb); have n1_ := Aside0.mk (blk_below (g := gb562) (o := .cells #[.int .u64 a1_0, .int .u64 a1_1, .int .u64 a1_2, .string a1_3, .string a1_4] 24 (0, 0)) (by (with_reducible repeat (first | refine blk_drewN ?_ _ | refine blk_drew ?_ | refine blk_alloc ?_ _)); exact BK562.out) hb); have n2_ := Aside0.mk (below_step (by repeat (first | (with_reducible first | exact HB.out | apply below_alloc | apply pw_below_drewN | apply below_drew1 | refine below_set ?_ GE562.out) | exact HB.out)) hb); clear HO0; clear BK562; clear HB; have HO0 := n0_; have BK562 := n1_; have HB := n2_; clear n0_ n1_ n2_; (try clear hb); (try clear hb2); (try clear hk); (try clear hi)))
   go_meet
   case rel => exact ⟨_, (true), (by first | rfl | (simp; done) | (simp [*]; done) | (simp [nil_bne]; done)), H', ⟨by first | omega | exact Nat.le_refl _⟩, ⟨by (with_reducible repeat (first | apply Kd.V_alloc | apply Kd.V_drewN | apply Kd.V_drew)); exact HO0.out⟩, ⟨by (with_reducible repeat (first | refine blk_drewN ?_ _ | refine blk_drew ?_ | refine blk_alloc ?_ _)); exact BK562.out⟩, ⟨by repeat (first | (with_reducible first | exact HB.out | apply below_alloc | apply pw_below_drewN | apply below_drew1 | refine below_set ?_ GE562.out) | exact HB.out)⟩⟩
 case rest =>
  clear HC3
  try clear c1
  try clear p2
  try clear c5
  try clear c6
  try clear hcz9_0
  try clear hcz9_1
  try clear hcz9_2
  try clear hcz9_3
  try clear hcz9_4
  try clear hfz9_0
  try clear hfz9_1
  try clear hfz9_2
  try clear hfz9_3
  try clear hfz9_4
  obtain ⟨kq, x15_2, rfl, HA, HJ2, HO_0, BK562, HB⟩ := hcut
  cases kq with
  | zero => exact absurd HA.out (by simp [laws_FnSemverExcluded.j0])
  | succ kj2 =>
   have H := HA.out
   clear HA
   simp only [laws_FnSemverExcluded.j0] at H
   by_cases c12 : x15_2 = true
   ·subst c12
    have H1 : (some true) = some r := by rw [if_pos rfl] at H; exact H
    clear H
    have H := H1
    clear H1
    obtain rfl := Option.some.inj H
    go_wp2
    go_ret
    exact ⟨by first | rfl | (simp [errW_none, errW_some] <;> rfl) | (simp [*, errW_none, errW_some] <;> rfl), by repeat (first | (with_reducible first | exact HB.out | apply below_alloc | apply pw_below_drewN | apply below_drew1 | refine below_set ?_ GE562.out) | exact HB.out)⟩
   ·replace c12 := Bool.eq_false_iff.mpr c12
    subst c12
    have H1 : ((spec_Bare.f a1_0 a1_1 a1_2 a1_3 a1_4).bind fun bt565 => ((laws_siGood.f kj2 (([l0] : List (List (List (S36)))))).bind fun t573 => (if t573 = true then ((spec_Complement.f kj2 l0).bind fun bt574 => (if bt574.2 = true then (laws_FnSemverExcluded.j1 kj2 l0 bt574.1 (decide ((bt574.1.length : Int) > 64)) bt565.1 bt565.2.1 bt565.2.2.1 bt565.2.2.2.1 bt565.2.2.2.2) else (laws_FnSemverExcluded.j1 kj2 l0 bt574.1 true bt565.1 bt565.2.1 bt565.2.2.1 bt565.2.2.2.1 bt565.2.2.2.2))) else (some true)))) = some r := by rw [if_neg (show ¬ (false = true) by decide)] at H; exact H
    clear H
    have H := H1
    clear H1
    replace H := Option.bind_eq_some_iff.mp H
    obtain ⟨⟨t565, t566, t567, t568, t569⟩, A130, H⟩ := H
    replace H : ((laws_siGood.f kj2 (([l0] : List (List (List (S36)))))).bind fun t573 => (if t573 = true then ((spec_Complement.f kj2 l0).bind fun bt574 => (if bt574.2 = true then (laws_FnSemverExcluded.j1 kj2 l0 bt574.1 (decide ((bt574.1.length : Int) > 64)) t565 t566 t567 t568 t569) else (laws_FnSemverExcluded.j1 kj2 l0 bt574.1 true t565 t566 t567 t568 t569))) else (some true))) = some r := H
    have A13 := Aside0.mk A130
    clear A130
    obtain ⟨y570, hy570⟩ : ∃ y_ : List (List (List (S36))), y_ = (([l0] : List (List (List (S36))))) := ⟨_, rfl⟩
    replace H : ((laws_siGood.f kj2 y570).bind fun t573 => (if t573 = true then ((spec_Complement.f kj2 l0).bind fun bt574 => (if bt574.2 = true then (laws_FnSemverExcluded.j1 kj2 l0 bt574.1 (decide ((bt574.1.length : Int) > 64)) t565 t566 t567 t568 t569) else (laws_FnSemverExcluded.j1 kj2 l0 bt574.1 true t565 t566 t567 t568 t569))) else (some true))) = some r := by first | (rw [hy570]; with_reducible exact H) | (have H2_ := (Option.bind_some _ _).symm.trans H; rw [hy570]; with_reducible exact H2_) | (have H2_ := (Option.bind_some _ _).symm.trans H; with_reducible exact H2_) | with_reducible exact H | (rw [hy570]; exact H) | exact H
    have Ny570 := Aside0.mk hy570
    clear hy570
    replace H := Option.bind_eq_some_iff.mp H
    obtain ⟨t573, A140, H⟩ := H
    replace H : (if t573 = true then ((spec_Complement.f kj2 l0).bind fun bt574 => (if bt574.2 = true then (laws_FnSemverExcluded.j1 kj2 l0 bt574.1 (decide ((bt574.1.length : Int) > 64)) t565 t566 t567 t568 t569) else (laws_FnSemverExcluded.j1 kj2 l0 bt574.1 true t565 t566 t567 t568 t569))) else (some true)) = some r := H
    have A14 := Aside0.mk A140
    clear A140
    by_cases c15 : t573 = true
    ·subst c15
     have H1 : ((spec_Complement.f kj2 l0).bind fun bt574 => (if bt574.2 = true then (laws_FnSemverExcluded.j1 kj2 l0 bt574.1 (decide ((bt574.1.length : Int) > 64)) t565 t566 t567 t568 t569) else (laws_FnSemverExcluded.j1 kj2 l0 bt574.1 true t565 t566 t567 t568 t569))) = some r := by rw [if_pos rfl] at H; exact H
     clear H
     have H := H1
     clear H1
     replace H := Option.bind_eq_some_iff.mp H
     obtain ⟨⟨t574, t577⟩, A160, H⟩ := H
     replace H : (if t577 = true then (laws_FnSemverExcluded.j1 kj2 l0 t574 (decide ((t574.length : Int) > 64)) t565 t566 t567 t568 t569) else (laws_FnSemverExcluded.j1 kj2 l0 t574 true t565 t566 t567 t568 t569)) = some r := H
     have A16 := Aside0.mk A160
     clear A160
     have HC17 := Aside0.mk H
     clear H
     have hcz18_0 : wc.cell? ⟨gb562, 0, none⟩ = some (.int .u64 a1_0) := (blk_cell BK562.out 0).trans rfl
     have hcz18_1 : wc.cell? ⟨gb562, 1, none⟩ = some (.int .u64 a1_1) := (blk_cell BK562.out 1).trans rfl
     have hcz18_2 : wc.cell? ⟨gb562, 2, none⟩ = some (.int .u64 a1_2) := (blk_cell BK562.out 2).trans rfl
     have hcz18_3 : wc.cell? ⟨gb562, 3, none⟩ = some (.string a1_3) := (blk_cell BK562.out 3).trans rfl
     have hcz18_4 : wc.cell? ⟨gb562, 4, none⟩ = some (.string a1_4) := (blk_cell BK562.out 4).trans rfl
     have hfz18_0 := blk_frozen BK562.out 0
     have hfz18_1 := blk_frozen BK562.out 1
     have hfz18_2 := blk_frozen BK562.out 2
     have hfz18_3 := blk_frozen BK562.out 3
     have hfz18_4 := blk_frozen BK562.out 4
     go_upto_region 7 with (first | ((with_reducible refine only_callee (f := 39) rfl ?_); refine goesL_ (some 17) rfl rfl Tryd.func39 (by kernel_rfl) rfl #[.agg #[.int .u64 a1_0, .int .u64 a1_1, .int .u64 a1_2, .string a1_3, .string a1_4]] rfl (by (try simp only [List.map_toArray, List.map_cons, List.map_nil]); first | done | rfl | (simp only [List.length_drop, List.length_take]; rfl)) ?_; (with_reducible refine (spec_Bare.calls a1_0 a1_1 a1_2 a1_3 a1_4 t565 t566 t567 t568 t569 _ A13.out).mono ?_); rintro e w19 ⟨rfl, hb⟩; refine ⟨_, rfl, ?_⟩; have n0_ := Aside0.mk (Kd.V_below (by (with_reducible repeat (first | apply Kd.V_alloc | apply Kd.V_drewN | apply Kd.V_drew)); exact HO_0.out) hb); have n1_ := Aside0.mk (blk_below (g := gb562) (o := .cells #[.int .u64 a1_0, .int .u64 a1_1, .int .u64 a1_2, .string a1_3, .string a1_4] 24 (0, 0)) (by (with_reducible repeat (first | refine blk_drewN ?_ _ | refine blk_drew ?_ | refine blk_alloc ?_ _)); exact BK562.out) hb); have n2_ := Aside0.mk (below_step (by repeat (first | (with_reducible first | exact HB.out | apply below_alloc | apply pw_below_drewN | apply below_drew1 | refine below_set ?_ GE562.out) | exact HB.out)) hb); clear HO_0; clear BK562; clear HB; have HO_0 := n0_; have BK562 := n1_; have HB := n2_; clear n0_ n1_ n2_; (try clear hb); (try clear hb2); (try clear hk); (try clear hi); have hcz20_0 : w19.cell? ⟨gb562, 0, none⟩ = some (.int .u64 a1_0) := (blk_cell BK562.out 0).trans rfl; have hcz20_1 : w19.cell? ⟨gb562, 1, none⟩ = some (.int .u64 a1_1) := (blk_cell BK562.out 1).trans rfl; have hcz20_2 : w19.cell? ⟨gb562, 2, none⟩ = some (.int .u64 a1_2) := (blk_cell BK562.out 2).trans rfl; have hcz20_3 : w19.cell? ⟨gb562, 3, none⟩ = some (.string a1_3) := (blk_cell BK562.out 3).trans rfl; have hcz20_4 : w19.cell? ⟨gb562, 4, none⟩ = some (.string a1_4) := (blk_cell BK562.out 4).trans rfl; have hfz20_0 := blk_frozen BK562.out 0; have hfz20_1 := blk_frozen BK562.out 1; have hfz20_2 := blk_frozen BK562.out 2; have hfz20_3 := blk_frozen BK562.out 3; have hfz20_4 := blk_frozen BK562.out 4) | ((with_reducible refine gate_store (t := 24) (p := 3) rfl ?_); refine store_event (t := 24) (p := 3) (v := ?vo_w21) (w1 := (((((w19.setCell ⟨gb562, 0, none⟩ (.int .u64 t565)).setCell ⟨gb562, 1, none⟩ (.int .u64 t566)).setCell ⟨gb562, 2, none⟩ (.int .u64 t567)).setCell ⟨gb562, 3, none⟩ (.string t568)).setCell ⟨gb562, 4, none⟩ (.string t569))) ?hg ?ho ?hn ?hr ?_; (case ho => rfl); (case hg => rfl); (case hn => rfl); (case hr => first | (go_simp; done) | (go_simp; rfl)); intro w21 hw; have n0_ : Aside0 (Kd.V (Kd.slice 36 k36) 65 w21 w.heap.size (fun k_ => (P0_ k_ ∨ w.heap.size ≤ k_) ∧ k_ ≠ gb562) (.slice A0 l0.length c0) l0) := ⟨(by rw [hw]; exact (by (with_reducible repeat (first | apply Kd.V_alloc | apply Kd.V_drewN | apply Kd.V_drew)); exact Kd.V_mono (Kd.V_far (p := ⟨gb562, 4, none⟩) (Kd.V_far (p := ⟨gb562, 3, none⟩) (Kd.V_far (p := ⟨gb562, 2, none⟩) (Kd.V_far (p := ⟨gb562, 1, none⟩) (Kd.V_far (p := ⟨gb562, 0, none⟩) (Kd.V_mono HO_0.out (fun k_ hk => (⟨hk, hk.2⟩ : _ ∧ k_ ≠ gb562))) (fun _ hk => hk.2) (.int .u64 t565)) (fun _ hk => hk.2) (.int .u64 t566)) (fun _ hk => hk.2) (.int .u64 t567)) (fun _ hk => hk.2) (.string t568)) (fun _ hk => hk.2) (.string t569)) (fun _ hk => ⟨hk.1.1, hk.1.2⟩)))⟩; have n1_ : Aside0 (w21.heap[gb562]? = some (.cells #[.int .u64 t565, .int .u64 t566, .int .u64 t567, .string t568, .string t569] 24 (0, 0))) := ⟨(by rw [hw]; exact (by (with_reducible repeat (first | refine blk_drewN ?_ _ | refine blk_drew ?_ | refine blk_alloc ?_ _)); refine blk_put (cs := #[.int .u64 t565, .int .u64 t566, .int .u64 t567, .string t568, .string a1_4]) ?_ 4 _ rfl; (with_reducible repeat (first | refine blk_drewN ?_ _ | refine blk_drew ?_ | refine blk_alloc ?_ _)); refine blk_put (cs := #[.int .u64 t565, .int .u64 t566, .int .u64 t567, .string a1_3, .string a1_4]) ?_ 3 _ rfl; (with_reducible repeat (first | refine blk_drewN ?_ _ | refine blk_drew ?_ | refine blk_alloc ?_ _)); refine blk_put (cs := #[.int .u64 t565, .int .u64 t566, .int .u64 a1_2, .string a1_3, .string a1_4]) ?_ 2 _ rfl; (with_reducible repeat (first | refine blk_drewN ?_ _ | refine blk_drew ?_ | refine blk_alloc ?_ _)); refine blk_put (cs := #[.int .u64 t565, .int .u64 a1_1, .int .u64 a1_2, .string a1_3, .string a1_4]) ?_ 1 _ rfl; (with_reducible repeat (first | refine blk_drewN ?_ _ | refine blk_drew ?_ | refine blk_alloc ?_ _)); refine blk_put (cs := #[.int .u64 a1_0, .int .u64 a1_1, .int .u64 a1_2, .string a1_3, .string a1_4]) ?_ 0 _ rfl; (with_reducible repeat (first | refine blk_drewN ?_ _ | refine blk_drew ?_ | refine blk_alloc ?_ _)); exact BK562.out))⟩; have n2_ : Aside0 (Below w.heap.size w w21) := ⟨(by rw [hw]; exact (by repeat (first | (with_reducible first | exact HB.out | apply below_alloc | apply pw_below_drewN | apply below_drew1 | refine below_set ?_ GE562.out) | exact HB.out)))⟩; clear hw; clear HO_0; clear BK562; clear HB; have HO_0 := n0_; have BK562 := n1_; have HB := n2_; clear n0_ n1_ n2_) | ((with_reducible refine gate_dst (N := 19) rfl ?_); (try (refine gate_guard (by rfl) ?_; dsimp only)); refine Kd.N_lit (Kd.slice 65 (Kd.slice 36 k36)) _ 54 ?hg (N' := 19) ?hd (xs := ([l0] : List (List (List (S36))))) (inner := [.slice A0 l0.length c0]) (ok := (fun k_ => (P0_ k_ ∨ w.heap.size ≤ k_) ∧ k_ ≠ gb562)) (okp := (fun k_ => (P0_ k_ ∨ w.heap.size ≤ k_) ∧ k_ ≠ gb562)) ?hr ?hp (fun _ hk => hk) ((show ∀ k_, w21.heap.size ≤ k_ → (fun k_ => (P0_ k_ ∨ w.heap.size ≤ k_) ∧ k_ ≠ gb562) k_ from fun k_ hk => ⟨(.inr (Nat.le_trans (below_size (by repeat (first | (with_reducible first | exact HB.out | apply below_alloc | apply pw_below_drewN | apply below_drew1 | refine below_set ?_ GE562.out) | exact HB.out))) hk)), Kd.freshB (g := gb562) (o := .cells #[.int .u64 t565, .int .u64 t566, .int .u64 t567, .string t568, .string t569] 24 (0, 0)) (by (with_reducible repeat (first | refine blk_drewN ?_ _ | refine blk_drew ?_ | refine blk_alloc ?_ _)); exact BK562.out) k_ hk⟩) _ (Nat.le_refl _)) (Below.refl _ _) (Nat.le_refl _) (by simp) ?_; (case hd => rfl); (case hg => rfl); (case hr => first | (go_simp; done) | (go_simp; rfl)); (case hp => exact (Reps.one (show Kd.FK (Kd.slice 65 (Kd.slice 36 k36)) _ _ l0 [.slice A0 l0.length c0] from (Kd.FK_slice_mk (Kd.V_reads' (Kd.V_mono (ok' := (fun k_ => (P0_ k_ ∨ w.heap.size ≤ k_) ∧ k_ ≠ gb562)) (HO_0.out) (fun k_ hk => ⟨hk.1, hk.2⟩))).2.1 (Kd.V_F (Kd.V_mono (ok' := (fun k_ => (P0_ k_ ∨ w.heap.size ≤ k_) ∧ k_ ≠ gb562)) (HO_0.out) (fun k_ hk => ⟨hk.1, hk.2⟩))))) (Reps.none _ _))); intro v571 w22 ho23 hb hg_ hnew_; clear hg_ hnew_; (first | rw [← Ny570.out] at ho23 | (simp only [Int.reduceToNat] at ho23; rw [← Ny570.out] at ho23)); have n0_ := Aside0.mk (Kd.V_elder' (by (with_reducible repeat (first | apply Kd.V_alloc | apply Kd.V_drewN | apply Kd.V_drew)); exact HO_0.out) (Kd.N_base ho23) hb); have n1_ := Aside0.mk (Kd.N_lower ho23 (below_size (by repeat (first | (with_reducible first | exact HB.out | apply below_alloc | apply pw_below_drewN | apply below_drew1 | refine below_set ?_ GE562.out) | exact HB.out)))); have n2_ := Aside0.mk (blk_below (g := gb562) (o := .cells #[.int .u64 t565, .int .u64 t566, .int .u64 t567, .string t568, .string t569] 24 (0, 0)) (by (with_reducible repeat (first | refine blk_drewN ?_ _ | refine blk_drew ?_ | refine blk_alloc ?_ _)); exact BK562.out) hb); have n3_ := Aside0.mk (below_step (by repeat (first | (with_reducible first | exact HB.out | apply below_alloc | apply pw_below_drewN | apply below_drew1 | refine below_set ?_ GE562.out) | exact HB.out)) hb); clear HO_0; clear BK562; clear HB; have HO_0 := n0_; have HO572 := n1_; have BK562 := n2_; have HB := n3_; clear n0_ n1_ n2_ n3_; clear hb ho23; obtain ⟨Ao24, co24, eo24⟩ := Kd.N_slice HO572.out; subst eo24) | ((with_reducible refine only_callee (f := 53) rfl ?_); refine goesL_ (some 20) rfl rfl Tryd.func53 (by kernel_rfl) rfl #[.slice Ao24 y570.length co24] rfl (by (try simp only [List.map_toArray, List.map_cons, List.map_nil]); first | done | rfl | (simp only [List.length_drop, List.length_take]; rfl)) ?_; (with_reducible refine (laws_siGood.calls kj2 _ _ y570 true _ ?side1 ?side2 A14.out).mono ?_); (case side1 => repeat (first | exact (Kd.N_reads' HO572.out).2.2 | (with_reducible refine Kd.C_alloc ?_ _) | (with_reducible refine Kd.C_drewN ?_ _) | (with_reducible refine Kd.C_drew ?_))); (case side2 => exact (Kd.N_reads' HO572.out).2.1); rintro e w25 ⟨rfl, hb⟩; refine ⟨_, rfl, ?_⟩; have n0_ := Aside0.mk (Kd.V_below (by (with_reducible repeat (first | apply Kd.V_alloc | apply Kd.V_drewN | apply Kd.V_drew)); exact HO_0.out) hb); have n1_ := Aside0.mk (Kd.N_below (by (with_reducible repeat (first | apply Kd.N_alloc | apply Kd.N_drewN | apply Kd.N_drew)); exact HO572.out) hb); have n2_ := Aside0.mk (blk_below (g := gb562) (o := .cells #[.int .u64 t565, .int .u64 t566, .int .u64 t567, .string t568, .string t569] 24 (0, 0)) (by (with_reducible repeat (first | refine blk_drewN ?_ _ | refine blk_drew ?_ | refine blk_alloc ?_ _)); exact BK562.out) hb); have n3_ := Aside0.mk (below_step (by repeat (first | (with_reducible first | exact HB.out | apply below_alloc | apply pw_below_drewN | apply below_drew1 | refine below_set ?_ GE562.out) | exact HB.out)) hb); clear HO_0; clear HO572; clear BK562; clear HB; have HO_0 := n0_; have HO572 := n1_; have BK562 := n2_; have HB := n3_; clear n0_ n1_ n2_ n3_; (try clear hb); (try clear hb2); (try clear hk); (try clear hi)) | ((with_reducible refine only_callee (f := 54) rfl ?_); refine goesL_ (some 24) rfl rfl Tryd.func54 (by kernel_rfl) rfl #[.slice A0 l0.length c0] rfl (by (try simp only [List.map_toArray, List.map_cons, List.map_nil]); first | done | rfl | (simp only [List.length_drop, List.length_take]; rfl)) ?_; (with_reducible refine (spec_Complement.calls kj2 _ _ l0 t574 t577 _ ?side1 ?side2 A16.out).mono ?_); (case side1 => repeat (first | exact (Kd.V_reads' HO_0.out).2.2 | (with_reducible refine Kd.C_alloc ?_ _) | (with_reducible refine Kd.C_drewN ?_ _) | (with_reducible refine Kd.C_drew ?_))); (case side2 => exact (Kd.V_reads' HO_0.out).2.1); rintro e w26 ⟨v575, rfl, ho0, hb⟩; refine ⟨_, rfl, ?_⟩; have n0_ := Aside0.mk (Kd.V_elder' (by (with_reducible repeat (first | apply Kd.V_alloc | apply Kd.V_drewN | apply Kd.V_drew)); exact HO_0.out) (Kd.N_base ho0) hb); have n1_ := Aside0.mk (Kd.N_elder' (by (with_reducible repeat (first | apply Kd.N_alloc | apply Kd.N_drewN | apply Kd.N_drew)); exact HO572.out) (Kd.N_base ho0) hb); have n2_ := Aside0.mk (Kd.N_lower (Kd.N_mono (ok' := fun k_ => (P0_ k_ ∨ w.heap.size ≤ k_) ∧ some k_ ≠ (.slice Ao24 y570.length co24 : Value).ownBlock ∧ k_ ≠ gb562) ho0 (fun k_ hk_ => ⟨(.inr (Nat.le_trans (below_size (by repeat (first | (with_reducible first | exact HB.out | apply below_alloc | apply pw_below_drewN | apply below_drew1 | refine below_set ?_ GE562.out) | exact HB.out))) hk_)), (Kd.fresh' (Kd.N_lt (by (with_reducible repeat (first | apply Kd.N_alloc | apply Kd.N_drewN | apply Kd.N_drew)); exact HO572.out)) k_ hk_), (Kd.freshB (g := gb562) (o := .cells #[.int .u64 t565, .int .u64 t566, .int .u64 t567, .string t568, .string t569] 24 (0, 0)) (by (with_reducible repeat (first | refine blk_drewN ?_ _ | refine blk_drew ?_ | refine blk_alloc ?_ _)); exact BK562.out) k_ hk_)⟩)) (below_size (by repeat (first | (with_reducible first | exact HB.out | apply below_alloc | apply pw_below_drewN | apply below_drew1 | refine below_set ?_ GE562.out) | exact HB.out)))); have n3_ := Aside0.mk (blk_below (g := gb562) (o := .cells #[.int .u64 t565, .int .u64 t566, .int .u64 t567, .string t568, .string t569] 24 (0, 0)) (by (with_reducible repeat (first | refine blk_drewN ?_ _ | refine blk_drew ?_ | refine blk_alloc ?_ _)); exact BK562.out) hb); have n4_ := Aside0.mk (below_step (by repeat (first | (with_reducible first | exact HB.out | apply below_alloc | apply pw_below_drewN | apply below_drew1 | refine below_set ?_ GE562.out) | exact HB.out)) hb); clear HO_0; clear HO572; clear BK562; clear HB; have HO_0 := n0_; have HO572 := n1_; have HO576 := n2_; have BK562 := n3_; have HB := n4_; clear n0_ n1_ n2_ n3_ n4_; (try clear hb); (try clear hb2); (try clear hk); (try clear hi); (try clear ho0)))
     (try simp only [Act.put, List.setIfInBounds_toArray, List.set_cons_zero, List.set_cons_succ])
     go_cut [33] (fun v33 wc => ∃ (kq : Nat) (x33_16 : Bool), v33 = .bool x33_16 ∧ Aside0 (laws_FnSemverExcluded.j1 kq l0 t574 x33_16 t565 t566 t567 t568 t569 = some r) ∧ Aside0 (kq ≤ kj2) ∧ Aside0 (Kd.V (Kd.slice 36 k36) 65 wc w.heap.size (fun k_ => (P0_ k_ ∨ w.heap.size ≤ k_) ∧ some k_ ≠ (v575 : Value).ownBlock ∧ k_ ≠ gb562) (.slice A0 l0.length c0) l0) ∧ Aside0 (Kd.N (Kd.slice 36 k36) 65 wc w.heap.size (fun k_ => (P0_ k_ ∨ w.heap.size ≤ k_) ∧ k_ ≠ gb562) v575 t574) ∧ Aside0 (wc.heap[gb562]? = some (.cells #[.int .u64 t565, .int .u64 t566, .int .u64 t567, .string t568, .string t569] 24 (0, 0))) ∧ Aside0 (Below w.heap.size w wc))
     case first =>
      have H := HC17.out
      clear HC17
      by_cases c27 : t577 = true
      ·subst c27
       have H1 : (laws_FnSemverExcluded.j1 kj2 l0 t574 (decide ((t574.length : Int) > 64)) t565 t566 t567 t568 t569) = some r := by rw [if_pos rfl] at H; exact H
       clear H
       have H := H1
       clear H1
       have H' := Aside0.mk H
       clear H
       obtain ⟨Ao28, co28, eo28⟩ := Kd.N_slice HO576.out
       subst eo28
       go_wp2
       go_meet
       case rel => exact ⟨_, (decide ((t574.length : Int) > 64)), (by first | rfl | (simp; done) | (simp [*]; done) | (simp [nil_bne]; done)), H', ⟨by have := HJ2.out; first | omega | exact Nat.le_refl _⟩, ⟨by (with_reducible repeat (first | apply Kd.V_alloc | apply Kd.V_drewN | apply Kd.V_drew)); exact Kd.V_mono HO_0.out (fun _ hk => ⟨hk.1.1.1, ⟨hk.2, hk.1.1.2⟩⟩)⟩, ⟨by (with_reducible repeat (first | apply Kd.N_alloc | apply Kd.N_drewN | apply Kd.N_drew)); exact Kd.N_mono HO576.out (fun _ hk => ⟨hk.1, hk.2.2⟩)⟩, ⟨by (with_reducible repeat (first | refine blk_drewN ?_ _ | refine blk_drew ?_ | refine blk_alloc ?_ _)); exact BK562.out⟩, ⟨by repeat (first | (with_reducible first | exact HB.out | apply below_alloc | apply pw_below_drewN | apply below_drew1 | refine below_set ?_ GE562.out) | exact HB.out)⟩⟩
      ·replace c27 := Bool.eq_false_iff.mpr c27
       subst c27
       have H1 : (laws_FnSemverExcluded.j1 kj2 l0 t574 true t565 t566 t567 t568 t569) = some r := by rw [if_neg (show ¬ (false = true) by decide)] at H; exact H
       clear H
       have H := H1
       clear H1
       have H' := Aside0.mk H
       clear H
       go_wp2
       go_meet
       case rel => exact ⟨_, (true), (by first | rfl | (simp; done) | (simp [*]; done) | (simp [nil_bne]; done)), H', ⟨by have := HJ2.out; first | omega | exact Nat.le_refl _⟩, ⟨by (with_reducible repeat (first | apply Kd.V_alloc | apply Kd.V_drewN | apply Kd.V_drew)); exact Kd.V_mono HO_0.out (fun _ hk => ⟨hk.1.1.1, ⟨hk.2, hk.1.1.2⟩⟩)⟩, ⟨by (with_reducible repeat (first | apply Kd.N_alloc | apply Kd.N_drewN | apply Kd.N_drew)); exact Kd.N_mono HO576.out (fun _ hk => ⟨hk.1, hk.2.2⟩)⟩, ⟨by (with_reducible repeat (first | refine blk_drewN ?_ _ | refine blk_drew ?_ | refine blk_alloc ?_ _)); exact BK562.out⟩, ⟨by repeat (first | (with_reducible first | exact HB.out | apply below_alloc | apply pw_below_drewN | apply below_drew1 | refine below_set ?_ GE562.out) | exact HB.out)⟩⟩
     case rest =>
      clear HC17
      try clear c1
      try clear c2
      try clear p2
      try clear c3
      try clear c5
      try clear c6
      try clear c12
      try clear c14
      try clear c15
      try clear c27
      try clear hcz18_0
      try clear hcz18_1
      try clear hcz18_2
      try clear hcz18_3
      try clear hcz18_4
      try clear hcz20_0
      try clear hcz20_1
      try clear hcz20_2
      try clear hcz20_3
      try clear hcz20_4
      try clear hcz9_0
      try clear hcz9_1
      try clear hcz9_2
      try clear hcz9_3
      try clear hcz9_4
      try clear hfz18_0
      try clear hfz18_1
      try clear hfz18_2
      try clear hfz18_3
      try clear hfz18_4
      try clear hfz20_0
      try clear hfz20_1
      try clear hfz20_2
      try clear hfz20_3
      try clear hfz20_4
      try clear hfz9_0
      try clear hfz9_1
      try clear hfz9_2
      try clear hfz9_3
      try clear hfz9_4
      try clear p2
      obtain ⟨kq, x33_16, rfl, HA, HJ16, HO_0, HO_5, BK562, HB⟩ := hcut
      cases kq with
      | zero => exact absurd HA.out (by simp [laws_FnSemverExcluded.j1])
      | succ kj16 =>
       have H := HA.out
       clear HA
       simp only [laws_FnSemverExcluded.j1] at H
       by_cases c29 : x33_16 = true
       ·subst c29
        have H1 : (some true) = some r := by rw [if_pos rfl] at H; exact H
        clear H
        have H := H1
        clear H1
        obtain rfl := Option.some.inj H
        go_wp2
        go_ret
        exact ⟨by first | rfl | (simp [errW_none, errW_some] <;> rfl) | (simp [*, errW_none, errW_some] <;> rfl), by repeat (first | (with_reducible first | exact HB.out | apply below_alloc | apply pw_below_drewN | apply below_drew1 | refine below_set ?_ GE562.out) | exact HB.out)⟩
       ·replace c29 := Bool.eq_false_iff.mpr c29
        subst c29
        have H1 : ((some (([] : List (List (S36))) : List (List (S36)))).bind fun y578 => (if y578.length + l0.length < 5864062014805 then ((some (y578 ++ l0 : List (List (S36)))).bind fun y581 => (if y581.length + t574.length < 5864062014805 then ((impl_TermsHold.f kj16 (y581 ++ t574) t565 t566 t567 t568 t569 false).bind fun t587 => (if t587 = true then ((spec_Cross.f kj16 l0 t574).bind fun t588 => ((impl_TermsHold.f kj16 t588 t565 t566 t567 t568 t569 false).bind fun t591 => (some (!t591)))) else (some false))) else (none))) else (none))) = some r := by rw [if_neg (show ¬ (false = true) by decide)] at H; exact H
        clear H
        have H := H1
        clear H1
        obtain ⟨y578, hy578⟩ : ∃ y_ : List (List (S36)), y_ = (([] : List (List (S36)))) := ⟨_, rfl⟩
        replace H : (if y578.length + l0.length < 5864062014805 then ((some (y578 ++ l0 : List (List (S36)))).bind fun y581 => (if y581.length + t574.length < 5864062014805 then ((impl_TermsHold.f kj16 (y581 ++ t574) t565 t566 t567 t568 t569 false).bind fun t587 => (if t587 = true then ((spec_Cross.f kj16 l0 t574).bind fun t588 => ((impl_TermsHold.f kj16 t588 t565 t566 t567 t568 t569 false).bind fun t591 => (some (!t591)))) else (some false))) else (none))) else (none)) = some r := by first | (rw [hy578]; with_reducible exact H) | (have H2_ := (Option.bind_some _ _).symm.trans H; rw [hy578]; with_reducible exact H2_) | (have H2_ := (Option.bind_some _ _).symm.trans H; with_reducible exact H2_) | with_reducible exact H | (rw [hy578]; exact H) | exact H
        have Ny578 := Aside0.mk hy578
        clear hy578
        by_cases c30 : y578.length + l0.length < 5864062014805
        ·rw [if_pos c30] at H
         have LMc30 := Aside0.mk c30
         clear c30
         obtain ⟨y581, hy581⟩ : ∃ y_ : List (List (S36)), y_ = (y578 ++ l0) := ⟨_, rfl⟩
         replace H : (if y581.length + t574.length < 5864062014805 then ((impl_TermsHold.f kj16 (y581 ++ t574) t565 t566 t567 t568 t569 false).bind fun t587 => (if t587 = true then ((spec_Cross.f kj16 l0 t574).bind fun t588 => ((impl_TermsHold.f kj16 t588 t565 t566 t567 t568 t569 false).bind fun t591 => (some (!t591)))) else (some false))) else (none)) = some r := by first | (rw [hy581]; with_reducible exact H) | (have H2_ := (Option.bind_some _ _).symm.trans H; rw [hy581]; with_reducible exact H2_) | (have H2_ := (Option.bind_some _ _).symm.trans H; with_reducible exact H2_) | with_reducible exact H | (rw [hy581]; exact H) | exact H
         have Ny581 := Aside0.mk hy581
         clear hy581
         by_cases c31 : y581.length + t574.length < 5864062014805
         ·rw [if_pos c31] at H
          have LMc31 := Aside0.mk c31
          clear c31
          obtain ⟨y584, hy584⟩ : ∃ y_ : List (List (S36)), y_ = (y581 ++ t574) := ⟨_, rfl⟩
          replace H : ((impl_TermsHold.f kj16 y584 t565 t566 t567 t568 t569 false).bind fun t587 => (if t587 = true then ((spec_Cross.f kj16 l0 t574).bind fun t588 => ((impl_TermsHold.f kj16 t588 t565 t566 t567 t568 t569 false).bind fun t591 => (some (!t591)))) else (some false))) = some r := by first | (rw [hy584]; with_reducible exact H) | (have H2_ := (Option.bind_some _ _).symm.trans H; rw [hy584]; with_reducible exact H2_) | (have H2_ := (Option.bind_some _ _).symm.trans H; with_reducible exact H2_) | with_reducible exact H | (rw [hy584]; exact H) | exact H
          have Ny584 := Aside0.mk hy584
          clear hy584
          replace H := Option.bind_eq_some_iff.mp H
          obtain ⟨t587, A320, H⟩ := H
          replace H : (if t587 = true then ((spec_Cross.f kj16 l0 t574).bind fun t588 => ((impl_TermsHold.f kj16 t588 t565 t566 t567 t568 t569 false).bind fun t591 => (some (!t591)))) else (some false)) = some r := H
          have A32 := Aside0.mk A320
          clear A320
          by_cases c33 : t587 = true
          ·subst c33
           have H1 : ((spec_Cross.f kj16 l0 t574).bind fun t588 => ((impl_TermsHold.f kj16 t588 t565 t566 t567 t568 t569 false).bind fun t591 => (some (!t591)))) = some r := by rw [if_pos rfl] at H; exact H
           clear H
           have H := H1
           clear H1
           replace H := Option.bind_eq_some_iff.mp H
           obtain ⟨t588, A340, H⟩ := H
           replace H : ((impl_TermsHold.f kj16 t588 t565 t566 t567 t568 t569 false).bind fun t591 => (some (!t591))) = some r := H
           have A34 := Aside0.mk A340
           clear A340
           replace H := Option.bind_eq_some_iff.mp H
           obtain ⟨t591, A350, H⟩ := H
           replace H : (some (!t591)) = some r := H
           have A35 := Aside0.mk A350
           clear A350
           obtain rfl := Option.some.inj H
           try go_wp2_with (first | ((with_reducible refine gate_dst (N := 34) rfl ?_); (try (refine gate_guard (by rfl) ?_; dsimp only)); refine Kd.N_lit (Kd.slice 36 k36) _ 65 ?hg (N' := 34) ?hd (xs := ([] : List (List (S36)))) (inner := []) (ok := (fun k_ => (P0_ k_ ∨ w.heap.size ≤ k_) ∧ some k_ ≠ (v575 : Value).ownBlock ∧ k_ ≠ gb562)) (okp := (fun k_ => (P0_ k_ ∨ w.heap.size ≤ k_) ∧ some k_ ≠ (v575 : Value).ownBlock ∧ k_ ≠ gb562)) ?hr ?hp (fun _ hk => hk) ((show ∀ k_, wc.heap.size ≤ k_ → (fun k_ => (P0_ k_ ∨ w.heap.size ≤ k_) ∧ some k_ ≠ (v575 : Value).ownBlock ∧ k_ ≠ gb562) k_ from fun k_ hk => ⟨(.inr (Nat.le_trans (below_size (by repeat (first | (with_reducible first | exact HB.out | apply below_alloc | apply pw_below_drewN | apply below_drew1 | refine below_set ?_ GE562.out) | exact HB.out))) hk)), Kd.fresh' (Kd.N_lt (by (with_reducible repeat (first | apply Kd.N_alloc | apply Kd.N_drewN | apply Kd.N_drew)); exact HO_5.out)) k_ hk, Kd.freshB (g := gb562) (o := .cells #[.int .u64 t565, .int .u64 t566, .int .u64 t567, .string t568, .string t569] 24 (0, 0)) (by (with_reducible repeat (first | refine blk_drewN ?_ _ | refine blk_drew ?_ | refine blk_alloc ?_ _)); exact BK562.out) k_ hk⟩) _ (Nat.le_refl _)) (Below.refl _ _) (Nat.le_refl _) (by simp) ?_; (case hd => rfl); (case hg => rfl); (case hr => first | (go_simp; done) | (go_simp; rfl)); (case hp => exact (Reps.none _ _)); intro v579 w36 ho37 hb hg_ hnew_; clear hg_ hnew_; (first | rw [← Ny578.out] at ho37 | (simp only [Int.reduceToNat] at ho37; rw [← Ny578.out] at ho37)); have n0_ := Aside0.mk (Kd.V_elder' (by (with_reducible repeat (first | apply Kd.V_alloc | apply Kd.V_drewN | apply Kd.V_drew)); exact HO_0.out) (Kd.N_base ho37) hb); have n1_ := Aside0.mk (Kd.N_elder' (by (with_reducible repeat (first | apply Kd.N_alloc | apply Kd.N_drewN | apply Kd.N_drew)); exact HO_5.out) (Kd.N_base ho37) hb); have n2_ := Aside0.mk (Kd.N_lower ho37 (below_size (by repeat (first | (with_reducible first | exact HB.out | apply below_alloc | apply pw_below_drewN | apply below_drew1 | refine below_set ?_ GE562.out) | exact HB.out)))); have n3_ := Aside0.mk (blk_below (g := gb562) (o := .cells #[.int .u64 t565, .int .u64 t566, .int .u64 t567, .string t568, .string t569] 24 (0, 0)) (by (with_reducible repeat (first | refine blk_drewN ?_ _ | refine blk_drew ?_ | refine blk_alloc ?_ _)); exact BK562.out) hb); have n4_ := Aside0.mk (below_step (by repeat (first | (with_reducible first | exact HB.out | apply below_alloc | apply pw_below_drewN | apply below_drew1 | refine below_set ?_ GE562.out) | exact HB.out)) hb); clear HO_0; clear HO_5; clear BK562; clear HB; have HO_0 := n0_; have HO_5 := n1_; have HO580 := n2_; have BK562 := n3_; have HB := n4_; clear n0_ n1_ n2_ n3_ n4_; clear hb ho37) | ((with_reducible refine only_builtin (b := .append) (xs := #[.tmp 34, .tmp 35]) rfl ?_); (try (refine gate_guard (by rfl) ?_; dsimp only)); at_builtin; refine Kd.N_append_rows (Kd.slice 36 k36) (w0 := w) w.heap.size rfl (.tmp 34) (.tmp 35) 54 65 (.slice none 0 0) 24 rfl Tryd.underlying54 info65 rfl (by decide) (by omega) v579 y578 l0 _ _ _ (fun k_ => (P0_ k_ ∨ w.heap.size ≤ k_) ∧ some k_ ≠ (v575 : Value).ownBlock ∧ k_ ≠ gb562) (fun k_ => ((fun k_ => (P0_ k_ ∨ w.heap.size ≤ k_) ∧ some k_ ≠ (v575 : Value).ownBlock ∧ k_ ≠ gb562)) k_ ∧ some k_ ≠ (v579 : Value).ownBlock) rfl rfl ?aO ?aR (fun _ hk => hk) ?aF ?aB ?aS ?aL ?_; (case aR => exact (by skip; exact Kd.V_F (Kd.V_mono (ok' := (fun k_ => ((fun k_ => (P0_ k_ ∨ w.heap.size ≤ k_) ∧ some k_ ≠ (v575 : Value).ownBlock ∧ k_ ≠ gb562)) k_ ∧ some k_ ≠ (v579 : Value).ownBlock)) (HO_0.out) (fun k_ hk => ⟨⟨hk.1.1, ⟨hk.1.2.1, hk.1.2.2⟩⟩, hk.2⟩)))); (case aB => exact (by repeat (first | (with_reducible first | exact HB.out | apply below_alloc | apply pw_below_drewN | apply below_drew1 | refine below_set ?_ GE562.out) | exact HB.out))); (case aF => exact (fun k_ hk => ⟨(.inr (Nat.le_trans (below_size (by repeat (first | (with_reducible first | exact HB.out | apply below_alloc | apply pw_below_drewN | apply below_drew1 | refine below_set ?_ GE562.out) | exact HB.out))) hk)), Kd.fresh' (Kd.N_lt (by (with_reducible repeat (first | apply Kd.N_alloc | apply Kd.N_drewN | apply Kd.N_drew)); exact HO_5.out)) k_ hk, Kd.freshB (g := gb562) (o := .cells #[.int .u64 t565, .int .u64 t566, .int .u64 t567, .string t568, .string t569] 24 (0, 0)) (by (with_reducible repeat (first | refine blk_drewN ?_ _ | refine blk_drew ?_ | refine blk_alloc ?_ _)); exact BK562.out) k_ hk⟩)); (case aO => exact (by (with_reducible repeat (first | apply Kd.N_alloc | apply Kd.N_drewN | apply Kd.N_drew)); exact HO580.out)); (case aS => exact (below_size (by repeat (first | (with_reducible first | exact HB.out | apply below_alloc | apply pw_below_drewN | apply below_drew1 | refine below_set ?_ GE562.out) | exact HB.out)))); (case aL => have := LMc30.out; omega); intro v582 w38 ho hb hg hat; rw [← Ny581.out] at ho; have n0_ := Aside0.mk (Kd.V_afterv (ok := (fun k_ => (P0_ k_ ∨ w.heap.size ≤ k_) ∧ some k_ ≠ (v575 : Value).ownBlock ∧ k_ ≠ gb562)) (by (with_reducible repeat (first | apply Kd.V_alloc | apply Kd.V_drewN | apply Kd.V_drew)); exact HO_0.out) hg hat); have n1_ := Aside0.mk (Kd.N_afterv (ok := (fun k_ => (P0_ k_ ∨ w.heap.size ≤ k_) ∧ k_ ≠ gb562)) (by (with_reducible repeat (first | apply Kd.N_alloc | apply Kd.N_drewN | apply Kd.N_drew)); exact HO_5.out) hg hat); have n2_ := Aside0.mk (blk_grown (g := gb562) (o := .cells #[.int .u64 t565, .int .u64 t566, .int .u64 t567, .string t568, .string t569] 24 (0, 0)) (by (with_reducible repeat (first | refine blk_drewN ?_ _ | refine blk_drew ?_ | refine blk_alloc ?_ _)); exact BK562.out) hg (Kd.N_ne HO580.out BK562.out (by decide))); have n3_ := Aside0.mk (hb); have n4_ := Aside0.mk (ho); clear HO_0; clear HO_5; clear BK562; clear HB; clear HO580; have HO_0 := n0_; have HO_5 := n1_; have BK562 := n2_; have HB := n3_; have HO583 := n4_; clear n0_ n1_ n2_ n3_ n4_; clear ho hb hg hat; obtain ⟨Ao40, co40, eo40⟩ := Kd.N_slice HO_5.out; subst eo40) | ((with_reducible refine only_builtin (b := .append) (xs := #[.tmp 36, .tmp 37]) rfl ?_); (try (refine gate_guard (by rfl) ?_; dsimp only)); at_builtin; refine Kd.N_append_rows (Kd.slice 36 k36) (w0 := w) w.heap.size rfl (.tmp 36) (.tmp 37) 54 65 (.slice none 0 0) 24 rfl Tryd.underlying54 info65 rfl (by decide) (by omega) v582 y581 t574 _ _ _ (fun k_ => (P0_ k_ ∨ w.heap.size ≤ k_) ∧ k_ ≠ gb562) (fun k_ => ((fun k_ => (P0_ k_ ∨ w.heap.size ≤ k_) ∧ k_ ≠ gb562)) k_ ∧ some k_ ≠ (v582 : Value).ownBlock) rfl rfl ?aO ?aR (fun _ hk => hk) ?aF ?aB ?aS ?aL ?_; (case aR => exact (by skip; exact Kd.N_F (Kd.N_mono (ok' := (fun k_ => ((fun k_ => (P0_ k_ ∨ w.heap.size ≤ k_) ∧ k_ ≠ gb562)) k_ ∧ some k_ ≠ (v582 : Value).ownBlock)) (HO_5.out) (fun k_ hk => ⟨⟨hk.1.1, hk.1.2⟩, hk.2⟩)))); (case aB => exact (by repeat (first | (with_reducible first | exact HB.out | apply below_alloc | apply pw_below_drewN | apply below_drew1 | refine below_set ?_ GE562.out) | exact HB.out))); (case aF => exact (fun k_ hk => ⟨(.inr (Nat.le_trans (below_size (by repeat (first | (with_reducible first | exact HB.out | apply below_alloc | apply pw_below_drewN | apply below_drew1 | refine below_set ?_ GE562.out) | exact HB.out))) hk)), Kd.freshB (g := gb562) (o := .cells #[.int .u64 t565, .int .u64 t566, .int .u64 t567, .string t568, .string t569] 24 (0, 0)) (by (with_reducible repeat (first | refine blk_drewN ?_ _ | refine blk_drew ?_ | refine blk_alloc ?_ _)); exact BK562.out) k_ hk⟩)); (case aO => exact (by (with_reducible repeat (first | apply Kd.N_alloc | apply Kd.N_drewN | apply Kd.N_drew)); exact Kd.N_mono HO583.out (fun _ hk => ⟨hk.1, hk.2.2⟩))); (case aS => exact (below_size (by repeat (first | (with_reducible first | exact HB.out | apply below_alloc | apply pw_below_drewN | apply below_drew1 | refine below_set ?_ GE562.out) | exact HB.out)))); (case aL => have := LMc31.out; omega); intro v585 w39 ho hb hg hat; rw [← Ny584.out] at ho; have n0_ := Aside0.mk (Kd.V_afterv (ok := (fun k_ => (P0_ k_ ∨ w.heap.size ≤ k_) ∧ some k_ ≠ (.slice Ao40 t574.length co40 : Value).ownBlock ∧ k_ ≠ gb562)) (by (with_reducible repeat (first | apply Kd.V_alloc | apply Kd.V_drewN | apply Kd.V_drew)); exact HO_0.out) hg hat); have n1_ := Aside0.mk (Kd.N_afterv (ok := (fun k_ => (P0_ k_ ∨ w.heap.size ≤ k_) ∧ k_ ≠ gb562)) (by (with_reducible repeat (first | apply Kd.N_alloc | apply Kd.N_drewN | apply Kd.N_drew)); exact HO_5.out) hg hat); have n2_ := Aside0.mk (blk_grown (g := gb562) (o := .cells #[.int .u64 t565, .int .u64 t566, .int .u64 t567, .string t568, .string t569] 24 (0, 0)) (by (with_reducible repeat (first | refine blk_drewN ?_ _ | refine blk_drew ?_ | refine blk_alloc ?_ _)); exact BK562.out) hg (Kd.N_ne HO583.out BK562.out (by decide))); have n3_ := Aside0.mk (hb); have n4_ := Aside0.mk (ho); clear HO_0; clear HO_5; clear BK562; clear HB; clear HO583; have HO_0 := n0_; have HO_5 := n1_; have BK562 := n2_; have HB := n3_; have HO586 := n4_; clear n0_ n1_ n2_ n3_ n4_; clear ho hb hg hat))
           have n0_ := Aside0.mk (Kd.V_drew HO_0.out)
           have n1_ := Aside0.mk (Kd.N_drew HO_5.out)
           have n2_ := Aside0.mk (Kd.N_drew HO586.out)
           have n3_ := Aside0.mk (blk_drew BK562.out)
           have n4_ := Aside0.mk (below_drew1 HB.out)
           clear HO_0
           clear HO_5
           clear HO586
           clear BK562
           clear HB
           have HO_0 := n0_
           have HO_5 := n1_
           have HO586 := n2_
           have BK562 := n3_
           have HB := n4_
           clear n0_ n1_ n2_ n3_ n4_
           obtain ⟨Ao42, co42, eo42⟩ := Kd.N_slice HO586.out
           (first | subst eo42 | (injection eo42 with f1_ f2_ f3_; have f4_ := f1_.symm; have f5_ := f3_.symm; clear f1_ f2_ f3_; subst f4_; subst f5_))
           refine start_ (n := 12) (S := fun w' => w'.cell? ⟨gb562, 0, none⟩ = some (.int .u64 t565) ∧ w'.cell? ⟨gb562, 1, none⟩ = some (.int .u64 t566) ∧ w'.cell? ⟨gb562, 2, none⟩ = some (.int .u64 t567) ∧ w'.cell? ⟨gb562, 3, none⟩ = some (.string t568) ∧ w'.cell? ⟨gb562, 4, none⟩ = some (.string t569)) (ds := []) #[false, false, false, false, false, false, false, false, false, false, false, false] (by kernel_rfl) rfl rfl ⟨(blk_cell BK562.out 0).trans rfl, (blk_cell BK562.out 1).trans rfl, (blk_cell BK562.out 2).trans rfl, (blk_cell BK562.out 3).trans rfl, (blk_cell BK562.out 4).trans rfl⟩ (fun hHeld => ?_); refine with_tabW laws_FnSemverExcluded.tab10 laws_FnSemverExcluded.bits10 (fun HT_ HW_ => ?_)
           generalize w39.drew = w41 at HO_0 HO_5 HO586 BK562 HB hHeld ⊢
           refine pure_ (i := 0) (N := some 39) (v := ?_) (a' := ?_) #[true, false, false, false, false, false, false, false, false, false, false, false] rfl rfl (any_of HT_.out (by kernel_rfl)) (fun _ _ _ h => h) (Or.inl ⟨by rfl, ?_⟩) ?_ ?_
           rotate_left
           ·intro w'
            go_simp
            with_reducible rfl
           rotate_left
           ·simp only [Act.put, List.setIfInBounds_toArray, List.set_cons_zero, List.set_cons_succ, i64_w, i32_w]
            rfl
           refine take_ (i := 1) (N := some 40) (v := ?_) (a' := ?_) #[true, true, false, false, false, false, false, false, false, false, false, false] rfl rfl (take_ofW HT_.out HW_.out (by kernel_rfl)) (fun _ _ _ h => h) (Or.inl ⟨by rfl, ?_⟩) hHeld ?_ ?_
           rotate_left
           ·rintro w' ⟨s0, s1, s2, s3, s4⟩
            go_simp
            with_reducible rfl
           rotate_left
           ·simp only [Act.put, List.setIfInBounds_toArray, List.set_cons_zero, List.set_cons_succ, i64_w, i32_w]
            rfl
           refine one_ (i := 2) (N := some 41) #[true, true, true, false, false, false, false, false, false, false, false, false] rfl rfl (one_of HT_.out (by kernel_rfl)) (by decide) (fun K hK => ?_)
           refine goes_ Tryd.func55 (by kernel_rfl) rfl #[.slice Ao42 y584.length co42, .agg #[.int .u64 t565, .int .u64 t566, .int .u64 t567, .string t568, .string t569], .bool false] (by rfl) rfl rfl (by (try simp only [List.map_toArray, List.map_cons, List.map_nil]); first | done | rfl | (simp only [List.length_drop, List.length_take]; rfl)) ?_
           with_reducible refine (impl_TermsHold.calls kj16 _ _ y584 t565 t566 t567 t568 t569 false true _ ?side1 ?side2 ?side3 A32.out).mono ?_
           (case side1 => repeat (first | exact (Kd.N_reads' HO586.out).2.2 | (with_reducible refine Kd.C_alloc ?_ _) | (with_reducible refine Kd.C_drewN ?_ _) | (with_reducible refine Kd.C_drew ?_)))
           (case side2 => exact (Kd.N_reads' HO586.out).2.1)
           (case side3 => exact globE_below HGE.out (by repeat (first | (with_reducible first | exact HB.out | apply below_alloc | apply pw_below_drewN | apply below_drew1 | refine below_set ?_ GE562.out) | exact HB.out)))
           rintro e w43 ⟨rfl, hb⟩
           refine ⟨_, rfl, ?_⟩
           have n0_ := Aside0.mk (Kd.V_below (by (with_reducible repeat (first | apply Kd.V_alloc | apply Kd.V_drewN | apply Kd.V_drew)); exact HO_0.out) hb)
           have n1_ := Aside0.mk (Kd.N_below (by (with_reducible repeat (first | apply Kd.N_alloc | apply Kd.N_drewN | apply Kd.N_drew)); exact HO_5.out) hb)
           have n2_ := Aside0.mk (Kd.N_below (by (with_reducible repeat (first | apply Kd.N_alloc | apply Kd.N_drewN | apply Kd.N_drew)); exact HO586.out) hb)
           have n3_ := Aside0.mk (blk_below (g := gb562) (o := .cells #[.int .u64 t565, .int .u64 t566, .int .u64 t567, .string t568, .string t569] 24 (0, 0)) (by (with_reducible repeat (first | refine blk_drewN ?_ _ | refine blk_drew ?_ | refine blk_alloc ?_ _)); exact BK562.out) hb)
           have n4_ := Aside0.mk (below_step (by repeat (first | (with_reducible first | exact HB.out | apply below_alloc | apply pw_below_drewN | apply below_drew1 | refine below_set ?_ GE562.out) | exact HB.out)) hb)
           clear HO_0
           clear HO_5
           clear HO586
           clear BK562
           clear HB
           have HO_0 := n0_
           have HO_5 := n1_
           have HO586 := n2_
           have BK562 := n3_
           have HB := n4_
           clear n0_ n1_ n2_ n3_ n4_
           (try clear hb)
           (try clear hb2)
           (try clear hk)
           (try clear hi)
           refine hK.out _ _ ⟨(blk_cell BK562.out 0).trans rfl, (blk_cell BK562.out 1).trans rfl, (blk_cell BK562.out 2).trans rfl, (blk_cell BK562.out 3).trans rfl, (blk_cell BK562.out 4).trans rfl⟩ (fun hHeld => ?_)
           clear hK K
           refine norm_ (a' := ?_) ?_ ?_
           rotate_left
           ·show Act.put _ (some 41) _ = _
            simp only [Act.put, List.setIfInBounds_toArray, List.set_cons_zero, List.set_cons_succ, i64_w, i32_w]
            rfl
           refine pure_ (i := 3) (N := some 42) (v := ?_) (a' := ?_) #[true, true, true, true, false, false, false, false, false, false, false, false] rfl rfl (any_of HT_.out (by kernel_rfl)) (fun _ _ _ h => h) (Or.inl ⟨by rfl, ?_⟩) ?_ ?_
           rotate_left
           ·intro w'
            go_simp
            with_reducible rfl
           rotate_left
           ·simp only [Act.put, List.setIfInBounds_toArray, List.set_cons_zero, List.set_cons_succ, i64_w, i32_w]
            rfl
           refine pure_ (i := 4) (N := some 43) (v := ?_) (a' := ?_) #[true, true, true, true, true, false, false, false, false, false, false, false] rfl rfl (any_of HT_.out (by kernel_rfl)) (fun _ _ _ h => h) (Or.inl ⟨by rfl, ?_⟩) ?_ ?_
           rotate_left
           ·intro w'
            go_simp
            with_reducible rfl
           rotate_left
           ·simp only [Act.put, List.setIfInBounds_toArray, List.set_cons_zero, List.set_cons_succ, i64_w, i32_w]
            rfl
           refine pure_ (i := 5) (N := some 44) (v := ?_) (a' := ?_) #[true, true, true, true, true, true, false, false, false, false, false, false] rfl rfl (any_of HT_.out (by kernel_rfl)) (fun _ _ _ h => h) (Or.inl ⟨by rfl, ?_⟩) ?_ ?_
           rotate_left
           ·intro w'
            go_simp
            with_reducible rfl
           rotate_left
           ·simp only [Act.put, List.setIfInBounds_toArray, List.set_cons_zero, List.set_cons_succ, i64_w, i32_w]
            rfl
           refine take_ (i := 7) (N := some 46) (v := ?_) (a' := ?_) #[true, true, true, true, true, true, false, true, false, false, false, false] rfl rfl (take_ofW HT_.out HW_.out (by kernel_rfl)) (fun _ _ _ h => h) (Or.inl ⟨by rfl, ?_⟩) hHeld ?_ ?_
           rotate_left
           ·rintro w' ⟨s0, s1, s2, s3, s4⟩
            go_simp
            with_reducible rfl
           rotate_left
           ·simp only [Act.put, List.setIfInBounds_toArray, List.set_cons_zero, List.set_cons_succ, i64_w, i32_w]
            rfl
           refine one_ (i := 6) (N := some 45) #[true, true, true, true, true, true, true, true, false, false, false, false] rfl rfl (one_of HT_.out (by kernel_rfl)) (by decide) (fun K hK => ?_)
           refine goes_ Tryd.func56 (by kernel_rfl) rfl #[.slice A0 l0.length c0, .slice Ao40 t574.length co40] (by rfl) rfl rfl (by (try simp only [List.map_toArray, List.map_cons, List.map_nil]); first | done | rfl | (simp only [List.length_drop, List.length_take]; rfl)) ?_
           with_reducible refine (spec_Cross.calls kj16 _ _ l0 _ _ t574 t588 _ ?side1 ?side2 ?side3 ?side4 A34.out).mono ?_
           (case side1 => repeat (first | exact (Kd.V_reads' HO_0.out).2.2 | (with_reducible refine Kd.C_alloc ?_ _) | (with_reducible refine Kd.C_drewN ?_ _) | (with_reducible refine Kd.C_drew ?_)))
           (case side2 => exact (Kd.V_reads' HO_0.out).2.1)
           (case side3 => repeat (first | exact (Kd.N_reads' HO_5.out).2.2 | (with_reducible refine Kd.C_alloc ?_ _) | (with_reducible refine Kd.C_drewN ?_ _) | (with_reducible refine Kd.C_drew ?_)))
           (case side4 => exact (Kd.N_reads' HO_5.out).2.1)
           rintro e w44 ⟨v589, rfl, ho0, hb⟩
           refine ⟨_, rfl, ?_⟩
           have n0_ := Aside0.mk (Kd.V_elder' (by (with_reducible repeat (first | apply Kd.V_alloc | apply Kd.V_drewN | apply Kd.V_drew)); exact HO_0.out) (Kd.S_base ho0) hb)
           have n1_ := Aside0.mk (Kd.N_elder' (by (with_reducible repeat (first | apply Kd.N_alloc | apply Kd.N_drewN | apply Kd.N_drew)); exact HO_5.out) (Kd.S_base ho0) hb)
           have n2_ := Aside0.mk (Kd.N_elder' (by (with_reducible repeat (first | apply Kd.N_alloc | apply Kd.N_drewN | apply Kd.N_drew)); exact HO586.out) (Kd.S_base ho0) hb)
           have n3_ := Aside0.mk (Kd.N_lower (Kd.N_mono (ok' := fun k_ => (P0_ k_ ∨ w.heap.size ≤ k_) ∧ some k_ ≠ (.slice Ao40 t574.length co40 : Value).ownBlock ∧ some k_ ≠ (.slice Ao42 y584.length co42 : Value).ownBlock ∧ k_ ≠ gb562) (Kd.S_N (Kd.S_bound ho0)) (fun k_ hk_ => ⟨(.inr (Nat.le_trans (below_size (by repeat (first | (with_reducible first | exact HB.out | apply below_alloc | apply pw_below_drewN | apply below_drew1 | refine below_set ?_ GE562.out) | exact HB.out))) hk_.2.1)), (Kd.fresh' (Kd.N_lt (by (with_reducible repeat (first | apply Kd.N_alloc | apply Kd.N_drewN | apply Kd.N_drew)); exact HO_5.out)) k_ hk_.2.1), (Kd.fresh' (Kd.N_lt (by (with_reducible repeat (first | apply Kd.N_alloc | apply Kd.N_drewN | apply Kd.N_drew)); exact HO586.out)) k_ hk_.2.1), (Kd.freshB (g := gb562) (o := .cells #[.int .u64 t565, .int .u64 t566, .int .u64 t567, .string t568, .string t569] 24 (0, 0)) (by (with_reducible repeat (first | refine blk_drewN ?_ _ | refine blk_drew ?_ | refine blk_alloc ?_ _)); exact BK562.out) k_ hk_.2.1)⟩)) (below_size (by repeat (first | (with_reducible first | exact HB.out | apply below_alloc | apply pw_below_drewN | apply below_drew1 | refine below_set ?_ GE562.out) | exact HB.out))))
           have n4_ := Aside0.mk (blk_below (g := gb562) (o := .cells #[.int .u64 t565, .int .u64 t566, .int .u64 t567, .string t568, .string t569] 24 (0, 0)) (by (with_reducible repeat (first | refine blk_drewN ?_ _ | refine blk_drew ?_ | refine blk_alloc ?_ _)); exact BK562.out) hb)
           have n5_ := Aside0.mk (below_step (by repeat (first | (with_reducible first | exact HB.out | apply below_alloc | apply pw_below_drewN | apply below_drew1 | refine below_set ?_ GE562.out) | exact HB.out)) hb)
           clear HO_0
           clear HO_5
           clear HO586
           clear BK562
           clear HB
           have HO_0 := n0_
           have HO_5 := n1_
           have HO586 := n2_
           have HO590 := n3_
           have BK562 := n4_
           have HB := n5_
           clear n0_ n1_ n2_ n3_ n4_ n5_
           (try clear hb)
           (try clear hb2)
           (try clear hk)
           (try clear hi)
           (try clear ho0)
           obtain ⟨Ao45, co45, eo45⟩ := Kd.N_slice HO590.out
           (first | subst eo45 | (injection eo45 with f1_ f2_ f3_; have f4_ := f1_.symm; have f5_ := f3_.symm; clear f1_ f2_ f3_; subst f4_; subst f5_))
           refine hK.out _ _ ⟨(blk_cell BK562.out 0).trans rfl, (blk_cell BK562.out 1).trans rfl, (blk_cell BK562.out 2).trans rfl, (blk_cell BK562.out 3).trans rfl, (blk_cell BK562.out 4).trans rfl⟩ (fun hHeld => ?_)
           clear hK K
           refine norm_ (a' := ?_) ?_ ?_
           rotate_left
           ·show Act.put _ (some 45) _ = _
            simp only [Act.put, List.setIfInBounds_toArray, List.set_cons_zero, List.set_cons_succ, i64_w, i32_w]
            rfl
           refine one_ (i := 8) (N := some 47) #[true, true, true, true, true, true, true, true, true, false, false, false] rfl rfl (one_of HT_.out (by kernel_rfl)) (by decide) (fun K hK => ?_)
           refine goes_ Tryd.func55 (by kernel_rfl) rfl #[.slice Ao45 t588.length co45, .agg #[.int .u64 t565, .int .u64 t566, .int .u64 t567, .string t568, .string t569], .bool false] (by rfl) rfl rfl (by (try simp only [List.map_toArray, List.map_cons, List.map_nil]); first | done | rfl | (simp only [List.length_drop, List.length_take]; rfl)) ?_
           with_reducible refine (impl_TermsHold.calls kj16 _ _ t588 t565 t566 t567 t568 t569 false t591 _ ?side1 ?side2 ?side3 A35.out).mono ?_
           (case side1 => repeat (first | exact (Kd.N_reads' HO590.out).2.2 | (with_reducible refine Kd.C_alloc ?_ _) | (with_reducible refine Kd.C_drewN ?_ _) | (with_reducible refine Kd.C_drew ?_)))
           (case side2 => exact (Kd.N_reads' HO590.out).2.1)
           (case side3 => exact globE_below HGE.out (by repeat (first | (with_reducible first | exact HB.out | apply below_alloc | apply pw_below_drewN | apply below_drew1 | refine below_set ?_ GE562.out) | exact HB.out)))
           rintro e w46 ⟨rfl, hb⟩
           refine ⟨_, rfl, ?_⟩
           have n0_ := Aside0.mk (Kd.V_below (by (with_reducible repeat (first | apply Kd.V_alloc | apply Kd.V_drewN | apply Kd.V_drew)); exact HO_0.out) hb)
           have n1_ := Aside0.mk (Kd.N_below (by (with_reducible repeat (first | apply Kd.N_alloc | apply Kd.N_drewN | apply Kd.N_drew)); exact HO_5.out) hb)
           have n2_ := Aside0.mk (Kd.N_below (by (with_reducible repeat (first | apply Kd.N_alloc | apply Kd.N_drewN | apply Kd.N_drew)); exact HO586.out) hb)
           have n3_ := Aside0.mk (Kd.N_below (by (with_reducible repeat (first | apply Kd.N_alloc | apply Kd.N_drewN | apply Kd.N_drew)); exact HO590.out) hb)
           have n4_ := Aside0.mk (blk_below (g := gb562) (o := .cells #[.int .u64 t565, .int .u64 t566, .int .u64 t567, .string t568, .string t569] 24 (0, 0)) (by (with_reducible repeat (first | refine blk_drewN ?_ _ | refine blk_drew ?_ | refine blk_alloc ?_ _)); exact BK562.out) hb)
           have n5_ := Aside0.mk (below_step (by repeat (first | (with_reducible first | exact HB.out | apply below_alloc | apply pw_below_drewN | apply below_drew1 | refine below_set ?_ GE562.out) | exact HB.out)) hb)
           clear HO_0
           clear HO_5
           clear HO586
           clear HO590
           clear BK562
           clear HB
           have HO_0 := n0_
           have HO_5 := n1_
           have HO586 := n2_
           have HO590 := n3_
           have BK562 := n4_
           have HB := n5_
           clear n0_ n1_ n2_ n3_ n4_ n5_
           (try clear hb)
           (try clear hb2)
           (try clear hk)
           (try clear hi)
           refine hK.out _ _ ⟨(blk_cell BK562.out 0).trans rfl, (blk_cell BK562.out 1).trans rfl, (blk_cell BK562.out 2).trans rfl, (blk_cell BK562.out 3).trans rfl, (blk_cell BK562.out 4).trans rfl⟩ (fun hHeld => ?_)
           clear hK K
           refine norm_ (a' := ?_) ?_ ?_
           rotate_left
           ·show Act.put _ (some 47) _ = _
            simp only [Act.put, List.setIfInBounds_toArray, List.set_cons_zero, List.set_cons_succ, i64_w, i32_w]
            rfl
           refine pure_ (i := 9) (N := some 48) (v := ?_) (a' := ?_) #[true, true, true, true, true, true, true, true, true, true, false, false] rfl rfl (any_of HT_.out (by kernel_rfl)) (fun _ _ _ h => h) (Or.inl ⟨by rfl, ?_⟩) ?_ ?_
           rotate_left
           ·intro w'
            go_simp
            with_reducible rfl
           rotate_left
           ·simp only [Act.put, List.setIfInBounds_toArray, List.set_cons_zero, List.set_cons_succ, i64_w, i32_w]
            rfl
           refine pure_ (i := 10) (N := some 49) (v := ?_) (a' := ?_) #[true, true, true, true, true, true, true, true, true, true, true, false] rfl rfl (any_of HT_.out (by kernel_rfl)) (fun _ _ _ h => h) (Or.inl ⟨by rfl, ?_⟩) ?_ ?_
           rotate_left
           ·intro w'
            go_simp
            with_reducible rfl
           rotate_left
           ·simp only [Act.put, List.setIfInBounds_toArray, List.set_cons_zero, List.set_cons_succ, i64_w, i32_w]
            rfl
           refine pure_ (i := 11) (N := some 4) (v := ?_) (a' := ?_) #[true, true, true, true, true, true, true, true, true, true, true, true] rfl rfl (any_of HT_.out (by kernel_rfl)) (fun _ _ _ h => h) (Or.inl ⟨by rfl, ?_⟩) ?_ ?_
           rotate_left
           ·intro w'
            go_simp
            with_reducible rfl
           rotate_left
           ·simp only [Act.put, List.setIfInBounds_toArray, List.set_cons_zero, List.set_cons_succ, i64_w, i32_w]
            rfl
           refine done_ (done_of HT_.out (by kernel_rfl)) ?_
           try go_wp2
           go_ret
           exact ⟨by first | rfl | (simp [errW_none, errW_some] <;> rfl) | (simp [*, errW_none, errW_some] <;> rfl), by repeat (first | (with_reducible first | exact HB.out | apply below_alloc | apply pw_below_drewN | apply below_drew1 | refine below_set ?_ GE562.out) | exact HB.out)⟩
          ·replace c33 := Bool.eq_false_iff.mpr c33
           subst c33
           have H1 : (some false) = some r := by rw [if_neg (show ¬ (false = true) by decide)] at H; exact H
           clear H
           have H := H1
           clear H1
           obtain rfl := Option.some.inj H
           try go_wp2_with (first | ((with_reducible refine gate_dst (N := 34) rfl ?_); (try (refine gate_guard (by rfl) ?_; dsimp only)); refine Kd.N_lit (Kd.slice 36 k36) _ 65 ?hg (N' := 34) ?hd (xs := ([] : List (List (S36)))) (inner := []) (ok := (fun k_ => (P0_ k_ ∨ w.heap.size ≤ k_) ∧ some k_ ≠ (v575 : Value).ownBlock ∧ k_ ≠ gb562)) (okp := (fun k_ => (P0_ k_ ∨ w.heap.size ≤ k_) ∧ some k_ ≠ (v575 : Value).ownBlock ∧ k_ ≠ gb562)) ?hr ?hp (fun _ hk => hk) ((show ∀ k_, wc.heap.size ≤ k_ → (fun k_ => (P0_ k_ ∨ w.heap.size ≤ k_) ∧ some k_ ≠ (v575 : Value).ownBlock ∧ k_ ≠ gb562) k_ from fun k_ hk => ⟨(.inr (Nat.le_trans (below_size (by repeat (first | (with_reducible first | exact HB.out | apply below_alloc | apply pw_below_drewN | apply below_drew1 | refine below_set ?_ GE562.out) | exact HB.out))) hk)), Kd.fresh' (Kd.N_lt (by (with_reducible repeat (first | apply Kd.N_alloc | apply Kd.N_drewN | apply Kd.N_drew)); exact HO_5.out)) k_ hk, Kd.freshB (g := gb562) (o := .cells #[.int .u64 t565, .int .u64 t566, .int .u64 t567, .string t568, .string t569] 24 (0, 0)) (by (with_reducible repeat (first | refine blk_drewN ?_ _ | refine blk_drew ?_ | refine blk_alloc ?_ _)); exact BK562.out) k_ hk⟩) _ (Nat.le_refl _)) (Below.refl _ _) (Nat.le_refl _) (by simp) ?_; (case hd => rfl); (case hg => rfl); (case hr => first | (go_simp; done) | (go_simp; rfl)); (case hp => exact (Reps.none _ _)); intro v579 w47 ho48 hb hg_ hnew_; clear hg_ hnew_; (first | rw [← Ny578.out] at ho48 | (simp only [Int.reduceToNat] at ho48; rw [← Ny578.out] at ho48)); have n0_ := Aside0.mk (Kd.V_elder' (by (with_reducible repeat (first | apply Kd.V_alloc | apply Kd.V_drewN | apply Kd.V_drew)); exact HO_0.out) (Kd.N_base ho48) hb); have n1_ := Aside0.mk (Kd.N_elder' (by (with_reducible repeat (first | apply Kd.N_alloc | apply Kd.N_drewN | apply Kd.N_drew)); exact HO_5.out) (Kd.N_base ho48) hb); have n2_ := Aside0.mk (Kd.N_lower ho48 (below_size (by repeat (first | (with_reducible first | exact HB.out | apply below_alloc | apply pw_below_drewN | apply below_drew1 | refine below_set ?_ GE562.out) | exact HB.out)))); have n3_ := Aside0.mk (blk_below (g := gb562) (o := .cells #[.int .u64 t565, .int .u64 t566, .int .u64 t567, .string t568, .string t569] 24 (0, 0)) (by (with_reducible repeat (first | refine blk_drewN ?_ _ | refine blk_drew ?_ | refine blk_alloc ?_ _)); exact BK562.out) hb); have n4_ := Aside0.mk (below_step (by repeat (first | (with_reducible first | exact HB.out | apply below_alloc | apply pw_below_drewN | apply below_drew1 | refine below_set ?_ GE562.out) | exact HB.out)) hb); clear HO_0; clear HO_5; clear BK562; clear HB; have HO_0 := n0_; have HO_5 := n1_; have HO580 := n2_; have BK562 := n3_; have HB := n4_; clear n0_ n1_ n2_ n3_ n4_; clear hb ho48) | ((with_reducible refine only_builtin (b := .append) (xs := #[.tmp 34, .tmp 35]) rfl ?_); (try (refine gate_guard (by rfl) ?_; dsimp only)); at_builtin; refine Kd.N_append_rows (Kd.slice 36 k36) (w0 := w) w.heap.size rfl (.tmp 34) (.tmp 35) 54 65 (.slice none 0 0) 24 rfl Tryd.underlying54 info65 rfl (by decide) (by omega) v579 y578 l0 _ _ _ (fun k_ => (P0_ k_ ∨ w.heap.size ≤ k_) ∧ some k_ ≠ (v575 : Value).ownBlock ∧ k_ ≠ gb562) (fun k_ => ((fun k_ => (P0_ k_ ∨ w.heap.size ≤ k_) ∧ some k_ ≠ (v575 : Value).ownBlock ∧ k_ ≠ gb562)) k_ ∧ some k_ ≠ (v579 : Value).ownBlock) rfl rfl ?aO ?aR (fun _ hk => hk) ?aF ?aB ?aS ?aL ?_; (case aR => exact (by skip; exact Kd.V_F (Kd.V_mono (ok' := (fun k_ => ((fun k_ => (P0_ k_ ∨ w.heap.size ≤ k_) ∧ some k_ ≠ (v575 : Value).ownBlock ∧ k_ ≠ gb562)) k_ ∧ some k_ ≠ (v579 : Value).ownBlock)) (HO_0.out) (fun k_ hk => ⟨⟨hk.1.1, ⟨hk.1.2.1, hk.1.2.2⟩⟩, hk.2⟩)))); (case aB => exact (by repeat (first | (with_reducible first | exact HB.out | apply below_alloc | apply pw_below_drewN | apply below_drew1 | refine below_set ?_ GE562.out) | exact HB.out))); (case aF => exact (fun k_ hk => ⟨(.inr (Nat.le_trans (below_size (by repeat (first | (with_reducible first | exact HB.out | apply below_alloc | apply pw_below_drewN | apply below_drew1 | refine below_set ?_ GE562.out) | exact HB.out))) hk)), Kd.fresh' (Kd.N_lt (by (with_reducible repeat (first | apply Kd.N_alloc | apply Kd.N_drewN | apply Kd.N_drew)); exact HO_5.out)) k_ hk, Kd.freshB (g := gb562) (o := .cells #[.int .u64 t565, .int .u64 t566, .int .u64 t567, .string t568, .string t569] 24 (0, 0)) (by (with_reducible repeat (first | refine blk_drewN ?_ _ | refine blk_drew ?_ | refine blk_alloc ?_ _)); exact BK562.out) k_ hk⟩)); (case aO => exact (by (with_reducible repeat (first | apply Kd.N_alloc | apply Kd.N_drewN | apply Kd.N_drew)); exact HO580.out)); (case aS => exact (below_size (by repeat (first | (with_reducible first | exact HB.out | apply below_alloc | apply pw_below_drewN | apply below_drew1 | refine below_set ?_ GE562.out) | exact HB.out)))); (case aL => have := LMc30.out; omega); intro v582 w49 ho hb hg hat; rw [← Ny581.out] at ho; have n0_ := Aside0.mk (Kd.V_afterv (ok := (fun k_ => (P0_ k_ ∨ w.heap.size ≤ k_) ∧ some k_ ≠ (v575 : Value).ownBlock ∧ k_ ≠ gb562)) (by (with_reducible repeat (first | apply Kd.V_alloc | apply Kd.V_drewN | apply Kd.V_drew)); exact HO_0.out) hg hat); have n1_ := Aside0.mk (Kd.N_afterv (ok := (fun k_ => (P0_ k_ ∨ w.heap.size ≤ k_) ∧ k_ ≠ gb562)) (by (with_reducible repeat (first | apply Kd.N_alloc | apply Kd.N_drewN | apply Kd.N_drew)); exact HO_5.out) hg hat); have n2_ := Aside0.mk (blk_grown (g := gb562) (o := .cells #[.int .u64 t565, .int .u64 t566, .int .u64 t567, .string t568, .string t569] 24 (0, 0)) (by (with_reducible repeat (first | refine blk_drewN ?_ _ | refine blk_drew ?_ | refine blk_alloc ?_ _)); exact BK562.out) hg (Kd.N_ne HO580.out BK562.out (by decide))); have n3_ := Aside0.mk (hb); have n4_ := Aside0.mk (ho); clear HO_0; clear HO_5; clear BK562; clear HB; clear HO580; have HO_0 := n0_; have HO_5 := n1_; have BK562 := n2_; have HB := n3_; have HO583 := n4_; clear n0_ n1_ n2_ n3_ n4_; clear ho hb hg hat; obtain ⟨Ao51, co51, eo51⟩ := Kd.N_slice HO_5.out; subst eo51) | ((with_reducible refine only_builtin (b := .append) (xs := #[.tmp 36, .tmp 37]) rfl ?_); (try (refine gate_guard (by rfl) ?_; dsimp only)); at_builtin; refine Kd.N_append_rows (Kd.slice 36 k36) (w0 := w) w.heap.size rfl (.tmp 36) (.tmp 37) 54 65 (.slice none 0 0) 24 rfl Tryd.underlying54 info65 rfl (by decide) (by omega) v582 y581 t574 _ _ _ (fun k_ => (P0_ k_ ∨ w.heap.size ≤ k_) ∧ k_ ≠ gb562) (fun k_ => ((fun k_ => (P0_ k_ ∨ w.heap.size ≤ k_) ∧ k_ ≠ gb562)) k_ ∧ some k_ ≠ (v582 : Value).ownBlock) rfl rfl ?aO ?aR (fun _ hk => hk) ?aF ?aB ?aS ?aL ?_; (case aR => exact (by skip; exact Kd.N_F (Kd.N_mono (ok' := (fun k_ => ((fun k_ => (P0_ k_ ∨ w.heap.size ≤ k_) ∧ k_ ≠ gb562)) k_ ∧ some k_ ≠ (v582 : Value).ownBlock)) (HO_5.out) (fun k_ hk => ⟨⟨hk.1.1, hk.1.2⟩, hk.2⟩)))); (case aB => exact (by repeat (first | (with_reducible first | exact HB.out | apply below_alloc | apply pw_below_drewN | apply below_drew1 | refine below_set ?_ GE562.out) | exact HB.out))); (case aF => exact (fun k_ hk => ⟨(.inr (Nat.le_trans (below_size (by repeat (first | (with_reducible first | exact HB.out | apply below_alloc | apply pw_below_drewN | apply below_drew1 | refine below_set ?_ GE562.out) | exact HB.out))) hk)), Kd.freshB (g := gb562) (o := .cells #[.int .u64 t565, .int .u64 t566, .int .u64 t567, .string t568, .string t569] 24 (0, 0)) (by (with_reducible repeat (first | refine blk_drewN ?_ _ | refine blk_drew ?_ | refine blk_alloc ?_ _)); exact BK562.out) k_ hk⟩)); (case aO => exact (by (with_reducible repeat (first | apply Kd.N_alloc | apply Kd.N_drewN | apply Kd.N_drew)); exact Kd.N_mono HO583.out (fun _ hk => ⟨hk.1, hk.2.2⟩))); (case aS => exact (below_size (by repeat (first | (with_reducible first | exact HB.out | apply below_alloc | apply pw_below_drewN | apply below_drew1 | refine below_set ?_ GE562.out) | exact HB.out)))); (case aL => have := LMc31.out; omega); intro v585 w50 ho hb hg hat; rw [← Ny584.out] at ho; have n0_ := Aside0.mk (Kd.V_afterv (ok := (fun k_ => (P0_ k_ ∨ w.heap.size ≤ k_) ∧ some k_ ≠ (.slice Ao51 t574.length co51 : Value).ownBlock ∧ k_ ≠ gb562)) (by (with_reducible repeat (first | apply Kd.V_alloc | apply Kd.V_drewN | apply Kd.V_drew)); exact HO_0.out) hg hat); have n1_ := Aside0.mk (Kd.N_afterv (ok := (fun k_ => (P0_ k_ ∨ w.heap.size ≤ k_) ∧ k_ ≠ gb562)) (by (with_reducible repeat (first | apply Kd.N_alloc | apply Kd.N_drewN | apply Kd.N_drew)); exact HO_5.out) hg hat); have n2_ := Aside0.mk (blk_grown (g := gb562) (o := .cells #[.int .u64 t565, .int .u64 t566, .int .u64 t567, .string t568, .string t569] 24 (0, 0)) (by (with_reducible repeat (first | refine blk_drewN ?_ _ | refine blk_drew ?_ | refine blk_alloc ?_ _)); exact BK562.out) hg (Kd.N_ne HO583.out BK562.out (by decide))); have n3_ := Aside0.mk (hb); have n4_ := Aside0.mk (ho); clear HO_0; clear HO_5; clear BK562; clear HB; clear HO583; have HO_0 := n0_; have HO_5 := n1_; have BK562 := n2_; have HB := n3_; have HO586 := n4_; clear n0_ n1_ n2_ n3_ n4_; clear ho hb hg hat))
           have n0_ := Aside0.mk (Kd.V_drew HO_0.out)
           have n1_ := Aside0.mk (Kd.N_drew HO_5.out)
           have n2_ := Aside0.mk (Kd.N_drew HO586.out)
           have n3_ := Aside0.mk (blk_drew BK562.out)
           have n4_ := Aside0.mk (below_drew1 HB.out)
           clear HO_0
           clear HO_5
           clear HO586
           clear BK562
           clear HB
           have HO_0 := n0_
           have HO_5 := n1_
           have HO586 := n2_
           have BK562 := n3_
           have HB := n4_
           clear n0_ n1_ n2_ n3_ n4_
           obtain ⟨Ao53, co53, eo53⟩ := Kd.N_slice HO586.out
           (first | subst eo53 | (injection eo53 with f1_ f2_ f3_; have f4_ := f1_.symm; have f5_ := f3_.symm; clear f1_ f2_ f3_; subst f4_; subst f5_))
           refine start_ (n := 12) (S := fun w' => w'.cell? ⟨gb562, 0, none⟩ = some (.int .u64 t565) ∧ w'.cell? ⟨gb562, 1, none⟩ = some (.int .u64 t566) ∧ w'.cell? ⟨gb562, 2, none⟩ = some (.int .u64 t567) ∧ w'.cell? ⟨gb562, 3, none⟩ = some (.string t568) ∧ w'.cell? ⟨gb562, 4, none⟩ = some (.string t569)) (ds := []) #[false, false, false, false, false, false, false, false, false, false, false, false] (by kernel_rfl) rfl rfl ⟨(blk_cell BK562.out 0).trans rfl, (blk_cell BK562.out 1).trans rfl, (blk_cell BK562.out 2).trans rfl, (blk_cell BK562.out 3).trans rfl, (blk_cell BK562.out 4).trans rfl⟩ (fun hHeld => ?_); refine with_tabW laws_FnSemverExcluded.tab10 laws_FnSemverExcluded.bits10 (fun HT_ HW_ => ?_)
           generalize w50.drew = w52 at HO_0 HO_5 HO586 BK562 HB hHeld ⊢
           refine pure_ (i := 0) (N := some 39) (v := ?_) (a' := ?_) #[true, false, false, false, false, false, false, false, false, false, false, false] rfl rfl (any_of HT_.out (by kernel_rfl)) (fun _ _ _ h => h) (Or.inl ⟨by rfl, ?_⟩) ?_ ?_
           rotate_left
           ·intro w'
            go_simp
            with_reducible rfl
           rotate_left
           ·simp only [Act.put, List.setIfInBounds_toArray, List.set_cons_zero, List.set_cons_succ, i64_w, i32_w]
            rfl
           refine take_ (i := 1) (N := some 40) (v := ?_) (a' := ?_) #[true, true, false, false, false, false, false, false, false, false, false, false] rfl rfl (take_ofW HT_.out HW_.out (by kernel_rfl)) (fun _ _ _ h => h) (Or.inl ⟨by rfl, ?_⟩) hHeld ?_ ?_
           rotate_left
           ·rintro w' ⟨s0, s1, s2, s3, s4⟩
            go_simp
            with_reducible rfl
           rotate_left
           ·simp only [Act.put, List.setIfInBounds_toArray, List.set_cons_zero, List.set_cons_succ, i64_w, i32_w]
            rfl
           refine one_ (i := 2) (N := some 41) #[true, true, true, false, false, false, false, false, false, false, false, false] rfl rfl (one_of HT_.out (by kernel_rfl)) (by decide) (fun K hK => ?_)
           refine goes_ Tryd.func55 (by kernel_rfl) rfl #[.slice Ao53 y584.length co53, .agg #[.int .u64 t565, .int .u64 t566, .int .u64 t567, .string t568, .string t569], .bool false] (by rfl) rfl rfl (by (try simp only [List.map_toArray, List.map_cons, List.map_nil]); first | done | rfl | (simp only [List.length_drop, List.length_take]; rfl)) ?_
           with_reducible refine (impl_TermsHold.calls kj16 _ _ y584 t565 t566 t567 t568 t569 false false _ ?side1 ?side2 ?side3 A32.out).mono ?_
           (case side1 => repeat (first | exact (Kd.N_reads' HO586.out).2.2 | (with_reducible refine Kd.C_alloc ?_ _) | (with_reducible refine Kd.C_drewN ?_ _) | (with_reducible refine Kd.C_drew ?_)))
           (case side2 => exact (Kd.N_reads' HO586.out).2.1)
           (case side3 => exact globE_below HGE.out (by repeat (first | (with_reducible first | exact HB.out | apply below_alloc | apply pw_below_drewN | apply below_drew1 | refine below_set ?_ GE562.out) | exact HB.out)))
           rintro e w54 ⟨rfl, hb⟩
           refine ⟨_, rfl, ?_⟩
           have n0_ := Aside0.mk (Kd.V_below (by (with_reducible repeat (first | apply Kd.V_alloc | apply Kd.V_drewN | apply Kd.V_drew)); exact HO_0.out) hb)
           have n1_ := Aside0.mk (Kd.N_below (by (with_reducible repeat (first | apply Kd.N_alloc | apply Kd.N_drewN | apply Kd.N_drew)); exact HO_5.out) hb)
           have n2_ := Aside0.mk (Kd.N_below (by (with_reducible repeat (first | apply Kd.N_alloc | apply Kd.N_drewN | apply Kd.N_drew)); exact HO586.out) hb)
           have n3_ := Aside0.mk (blk_below (g := gb562) (o := .cells #[.int .u64 t565, .int .u64 t566, .int .u64 t567, .string t568, .string t569] 24 (0, 0)) (by (with_reducible repeat (first | refine blk_drewN ?_ _ | refine blk_drew ?_ | refine blk_alloc ?_ _)); exact BK562.out) hb)
           have n4_ := Aside0.mk (below_step (by repeat (first | (with_reducible first | exact HB.out | apply below_alloc | apply pw_below_drewN | apply below_drew1 | refine below_set ?_ GE562.out) | exact HB.out)) hb)
           clear HO_0
           clear HO_5
           clear HO586
           clear BK562
           clear HB
           have HO_0 := n0_
           have HO_5 := n1_
           have HO586 := n2_
           have BK562 := n3_
           have HB := n4_
           clear n0_ n1_ n2_ n3_ n4_
           (try clear hb)
           (try clear hb2)
           (try clear hk)
           (try clear hi)
           refine hK.out _ _ ⟨(blk_cell BK562.out 0).trans rfl, (blk_cell BK562.out 1).trans rfl, (blk_cell BK562.out 2).trans rfl, (blk_cell BK562.out 3).trans rfl, (blk_cell BK562.out 4).trans rfl⟩ (fun hHeld => ?_)
           clear hK K
           refine norm_ (a' := ?_) ?_ ?_
           rotate_left
           ·show Act.put _ (some 41) _ = _
            simp only [Act.put, List.setIfInBounds_toArray, List.set_cons_zero, List.set_cons_succ, i64_w, i32_w]
            rfl
           refine pure_ (i := 3) (N := some 42) (v := ?_) (a' := ?_) #[true, true, true, true, false, false, false, false, false, false, false, false] rfl rfl (any_of HT_.out (by kernel_rfl)) (fun _ _ _ h => h) (Or.inl ⟨by rfl, ?_⟩) ?_ ?_
           rotate_left
           ·intro w'
            go_simp
            with_reducible rfl
           rotate_left
           ·simp only [Act.put, List.setIfInBounds_toArray, List.set_cons_zero, List.set_cons_succ, i64_w, i32_w]
            rfl
           refine pure_ (i := 4) (N := some 43) (v := undef) (a' := ?_) #[true, true, true, true, true, false, false, false, false, false, false, false] rfl rfl (any_of HT_.out (by kernel_rfl)) (fun _ _ _ h => h) (Or.inr ⟨by rfl, rfl⟩) ?_ ?_
           rotate_left
           ·simp only [Act.put, List.setIfInBounds_toArray, List.set_cons_zero, List.set_cons_succ, i64_w, i32_w]
            rfl
           refine pure_ (i := 5) (N := some 44) (v := undef) (a' := ?_) #[true, true, true, true, true, true, false, false, false, false, false, false] rfl rfl (any_of HT_.out (by kernel_rfl)) (fun _ _ _ h => h) (Or.inr ⟨by rfl, rfl⟩) ?_ ?_
           rotate_left
           ·simp only [Act.put, List.setIfInBounds_toArray, List.set_cons_zero, List.set_cons_succ, i64_w, i32_w]
            rfl
           refine pure_ (i := 6) (N := some 45) (v := undef) (a' := ?_) #[true, true, true, true, true, true, true, false, false, false, false, false] rfl rfl (any_of HT_.out (by kernel_rfl)) (fun _ _ _ h => h) (Or.inr ⟨by rfl, rfl⟩) ?_ ?_
           rotate_left
           ·simp only [Act.put, List.setIfInBounds_toArray, List.set_cons_zero, List.set_cons_succ, i64_w, i32_w]
            rfl
           refine pure_ (i := 7) (N := some 46) (v := undef) (a' := ?_) #[true, true, true, true, true, true, true, true, false, false, false, false] rfl rfl (any_of HT_.out (by kernel_rfl)) (fun _ _ _ h => h) (Or.inr ⟨by rfl, rfl⟩) ?_ ?_
           rotate_left
           ·simp only [Act.put, List.setIfInBounds_toArray, List.set_cons_zero, List.set_cons_succ, i64_w, i32_w]
            rfl
           refine pure_ (i := 8) (N := some 47) (v := undef) (a' := ?_) #[true, true, true, true, true, true, true, true, true, false, false, false] rfl rfl (any_of HT_.out (by kernel_rfl)) (fun _ _ _ h => h) (Or.inr ⟨by rfl, rfl⟩) ?_ ?_
           rotate_left
           ·simp only [Act.put, List.setIfInBounds_toArray, List.set_cons_zero, List.set_cons_succ, i64_w, i32_w]
            rfl
           refine pure_ (i := 9) (N := some 48) (v := undef) (a' := ?_) #[true, true, true, true, true, true, true, true, true, true, false, false] rfl rfl (any_of HT_.out (by kernel_rfl)) (fun _ _ _ h => h) (Or.inr ⟨by rfl, rfl⟩) ?_ ?_
           rotate_left
           ·simp only [Act.put, List.setIfInBounds_toArray, List.set_cons_zero, List.set_cons_succ, i64_w, i32_w]
            rfl
           refine pure_ (i := 10) (N := some 49) (v := ?_) (a' := ?_) #[true, true, true, true, true, true, true, true, true, true, true, false] rfl rfl (any_of HT_.out (by kernel_rfl)) (fun _ _ _ h => h) (Or.inl ⟨by rfl, ?_⟩) ?_ ?_
           rotate_left
           ·intro w'
            go_simp
            with_reducible rfl
           rotate_left
           ·simp only [Act.put, List.setIfInBounds_toArray, List.set_cons_zero, List.set_cons_succ, i64_w, i32_w]
            rfl
           refine pure_ (i := 11) (N := some 4) (v := ?_) (a' := ?_) #[true, true, true, true, true, true, true, true, true, true, true, true] rfl rfl (any_of HT_.out (by kernel_rfl)) (fun _ _ _ h => h) (Or.inl ⟨by rfl, ?_⟩) ?_ ?_
           rotate_left
           ·intro w'
            go_simp
            with_reducible rfl
           rotate_left
           ·simp only [Act.put, List.setIfInBounds_toArray, List.set_cons_zero, List.set_cons_succ, i64_w, i32_w]
            rfl
           refine done_ (done_of HT_.out (by kernel_rfl)) ?_
           try go_wp2
           go_ret
           exact ⟨by first | rfl | (simp [errW_none, errW_some] <;> rfl) | (simp [*, errW_none, errW_some] <;> rfl), by repeat (first | (with_reducible first | exact HB.out | apply below_alloc | apply pw_below_drewN | apply below_drew1 | refine below_set ?_ GE562.out) | exact HB.out)⟩
         ·rw [if_neg c31] at H
          exact absurd H (by simp)
        ·rw [if_neg c30] at H
         exact absurd H (by simp)
    ·replace c15 := Bool.eq_false_iff.mpr c15
     subst c15
     have H1 : (some true) = some r := by rw [if_neg (show ¬ (false = true) by decide)] at H; exact H
     clear H
     have H := H1
     clear H1
     obtain rfl := Option.some.inj H
     have hcz55_0 : wc.cell? ⟨gb562, 0, none⟩ = some (.int .u64 a1_0) := (blk_cell BK562.out 0).trans rfl
     have hcz55_1 : wc.cell? ⟨gb562, 1, none⟩ = some (.int .u64 a1_1) := (blk_cell BK562.out 1).trans rfl
     have hcz55_2 : wc.cell? ⟨gb562, 2, none⟩ = some (.int .u64 a1_2) := (blk_cell BK562.out 2).trans rfl
     have hcz55_3 : wc.cell? ⟨gb562, 3, none⟩ = some (.string a1_3) := (blk_cell BK562.out 3).trans rfl
     have hcz55_4 : wc.cell? ⟨gb562, 4, none⟩ = some (.string a1_4) := (blk_cell BK562.out 4).trans rfl
     have hfz55_0 := blk_frozen BK562.out 0
     have hfz55_1 := blk_frozen BK562.out 1
     have hfz55_2 := blk_frozen BK562.out 2
     have hfz55_3 := blk_frozen BK562.out 3
     have hfz55_4 := blk_frozen BK562.out 4
     go_wp2_with (first | ((with_reducible refine only_callee (f := 39) rfl ?_); refine goesL_ (some 17) rfl rfl Tryd.func39 (by kernel_rfl) rfl #[.agg #[.int .u64 a1_0, .int .u64 a1_1, .int .u64 a1_2, .string a1_3, .string a1_4]] rfl (by (try simp only [List.map_toArray, List.map_cons, List.map_nil]); first | done | rfl | (simp only [List.length_drop, List.length_take]; rfl)) ?_; (with_reducible refine (spec_Bare.calls a1_0 a1_1 a1_2 a1_3 a1_4 t565 t566 t567 t568 t569 _ A13.out).mono ?_); rintro e w56 ⟨rfl, hb⟩; refine ⟨_, rfl, ?_⟩; have n0_ := Aside0.mk (Kd.V_below (by (with_reducible repeat (first | apply Kd.V_alloc | apply Kd.V_drewN | apply Kd.V_drew)); exact HO_0.out) hb); have n1_ := Aside0.mk (blk_below (g := gb562) (o := .cells #[.int .u64 a1_0, .int .u64 a1_1, .int .u64 a1_2, .string a1_3, .string a1_4] 24 (0, 0)) (by (with_reducible repeat (first | refine blk_drewN ?_ _ | refine blk_drew ?_ | refine blk_alloc ?_ _)); exact BK562.out) hb); have n2_ := Aside0.mk (below_step (by repeat (first | (with_reducible first | exact HB.out | apply below_alloc | apply pw_below_drewN | apply below_drew1 | refine below_set ?_ GE562.out) | exact HB.out)) hb); clear HO_0; clear BK562; clear HB; have HO_0 := n0_; have BK562 := n1_; have HB := n2_; clear n0_ n1_ n2_; (try clear hb); (try clear hb2); (try clear hk); (try clear hi); have hcz57_0 : w56.cell? ⟨gb562, 0, none⟩ = some (.int .u64 a1_0) := (blk_cell BK562.out 0).trans rfl; have hcz57_1 : w56.cell? ⟨gb562, 1, none⟩ = some (.int .u64 a1_1) := (blk_cell BK562.out 1).trans rfl; have hcz57_2 : w56.cell? ⟨gb562, 2, none⟩ = some (.int .u64 a1_2) := (blk_cell BK562.out 2).trans rfl; have hcz57_3 : w56.cell? ⟨gb562, 3, none⟩ = some (.string a1_3) := (blk_cell BK562.out 3).trans rfl; have hcz57_4 : w56.cell? ⟨gb562, 4, none⟩ = some (.string a1_4) := (blk_cell BK562.out 4).trans rfl; have hfz57_0 := blk_frozen BK562.out 0; have hfz57_1 := blk_frozen BK562.out 1; have hfz57_2 := blk_frozen BK562.out 2; have hfz57_3 := blk_frozen BK562.out 3; have hfz57_4 := blk_frozen BK562.out 4) | ((with_reducible refine gate_store (t := 24) (p := 3) rfl ?_); refine store_event (t := 24) (p := 3) (v := ?vo_w58) (w1 := (((((w56.setCell ⟨gb562, 0, none⟩ (.int .u64 t565)).setCell ⟨gb562, 1, none⟩ (.int .u64 t566)).setCell ⟨gb562, 2, none⟩ (.int .u64 t567)).setCell ⟨gb562, 3, none⟩ (.string t568)).setCell ⟨gb562, 4, none⟩ (.string t569))) ?hg ?ho ?hn ?hr ?_; (case ho => rfl); (case hg => rfl); (case hn => rfl); (case hr => first | (go_simp; done) | (go_simp; rfl)); intro w58 hw; have n0_ : Aside0 (Kd.V (Kd.slice 36 k36) 65 w58 w.heap.size (fun k_ => (P0_ k_ ∨ w.heap.size ≤ k_) ∧ k_ ≠ gb562) (.slice A0 l0.length c0) l0) := ⟨(by rw [hw]; exact (by (with_reducible repeat (first | apply Kd.V_alloc | apply Kd.V_drewN | apply Kd.V_drew)); exact Kd.V_mono (Kd.V_far (p := ⟨gb562, 4, none⟩) (Kd.V_far (p := ⟨gb562, 3, none⟩) (Kd.V_far (p := ⟨gb562, 2, none⟩) (Kd.V_far (p := ⟨gb562, 1, none⟩) (Kd.V_far (p := ⟨gb562, 0, none⟩) (Kd.V_mono HO_0.out (fun k_ hk => (⟨hk, hk.2⟩ : _ ∧ k_ ≠ gb562))) (fun _ hk => hk.2) (.int .u64 t565)) (fun _ hk => hk.2) (.int .u64 t566)) (fun _ hk => hk.2) (.int .u64 t567)) (fun _ hk => hk.2) (.string t568)) (fun _ hk => hk.2) (.string t569)) (fun _ hk => ⟨hk.1.1, hk.1.2⟩)))⟩; have n1_ : Aside0 (w58.heap[gb562]? = some (.cells #[.int .u64 t565, .int .u64 t566, .int .u64 t567, .string t568, .string t569] 24 (0, 0))) := ⟨(by rw [hw]; exact (by (with_reducible repeat (first | refine blk_drewN ?_ _ | refine blk_drew ?_ | refine blk_alloc ?_ _)); refine blk_put (cs := #[.int .u64 t565, .int .u64 t566, .int .u64 t567, .string t568, .string a1_4]) ?_ 4 _ rfl; (with_reducible repeat (first | refine blk_drewN ?_ _ | refine blk_drew ?_ | refine blk_alloc ?_ _)); refine blk_put (cs := #[.int .u64 t565, .int .u64 t566, .int .u64 t567, .string a1_3, .string a1_4]) ?_ 3 _ rfl; (with_reducible repeat (first | refine blk_drewN ?_ _ | refine blk_drew ?_ | refine blk_alloc ?_ _)); refine blk_put (cs := #[.int .u64 t565, .int .u64 t566, .int .u64 a1_2, .string a1_3, .string a1_4]) ?_ 2 _ rfl; (with_reducible repeat (first | refine blk_drewN ?_ _ | refine blk_drew ?_ | refine blk_alloc ?_ _)); refine blk_put (cs := #[.int .u64 t565, .int .u64 a1_1, .int .u64 a1_2, .string a1_3, .string a1_4]) ?_ 1 _ rfl; (with_reducible repeat (first | refine blk_drewN ?_ _ | refine blk_drew ?_ | refine blk_alloc ?_ _)); refine blk_put (cs := #[.int .u64 a1_0, .int .u64 a1_1, .int .u64 a1_2, .string a1_3, .string a1_4]) ?_ 0 _ rfl; (with_reducible repeat (first | refine blk_drewN ?_ _ | refine blk_drew ?_ | refine blk_alloc ?_ _)); exact BK562.out))⟩; have n2_ : Aside0 (Below w.heap.size w w58) := ⟨(by rw [hw]; exact (by repeat (first | (with_reducible first | exact HB.out | apply below_alloc | apply pw_below_drewN | apply below_drew1 | refine below_set ?_ GE562.out) | exact HB.out)))⟩; clear hw; clear HO_0; clear BK562; clear HB; have HO_0 := n0_; have BK562 := n1_; have HB := n2_; clear n0_ n1_ n2_) | ((with_reducible refine gate_dst (N := 19) rfl ?_); (try (refine gate_guard (by rfl) ?_; dsimp only)); refine Kd.N_lit (Kd.slice 65 (Kd.slice 36 k36)) _ 54 ?hg (N' := 19) ?hd (xs := ([l0] : List (List (List (S36))))) (inner := [.slice A0 l0.length c0]) (ok := (fun k_ => (P0_ k_ ∨ w.heap.size ≤ k_) ∧ k_ ≠ gb562)) (okp := (fun k_ => (P0_ k_ ∨ w.heap.size ≤ k_) ∧ k_ ≠ gb562)) ?hr ?hp (fun _ hk => hk) ((show ∀ k_, w58.heap.size ≤ k_ → (fun k_ => (P0_ k_ ∨ w.heap.size ≤ k_) ∧ k_ ≠ gb562) k_ from fun k_ hk => ⟨(.inr (Nat.le_trans (below_size (by repeat (first | (with_reducible first | exact HB.out | apply below_alloc | apply pw_below_drewN | apply below_drew1 | refine below_set ?_ GE562.out) | exact HB.out))) hk)), Kd.freshB (g := gb562) (o := .cells #[.int .u64 t565, .int .u64 t566, .int .u64 t567, .string t568, .string t569] 24 (0, 0)) (by (with_reducible repeat (first | refine blk_drewN ?_ _ | refine blk_drew ?_ | refine blk_alloc ?_ _)); exact BK562.out) k_ hk⟩) _ (Nat.le_refl _)) (Below.refl _ _) (Nat.le_refl _) (by simp) ?_; (case hd => rfl); (case hg => rfl); (case hr => first | (go_simp; done) | (go_simp; rfl)); (case hp => exact (Reps.one (show Kd.FK (Kd.slice 65 (Kd.slice 36 k36)) _ _ l0 [.slice A0 l0.length c0] from (Kd.FK_slice_mk (Kd.V_reads' (Kd.V_mono (ok' := (fun k_ => (P0_ k_ ∨ w.heap.size ≤ k_) ∧ k_ ≠ gb562)) (HO_0.out) (fun k_ hk => ⟨hk.1, hk.2⟩))).2.1 (Kd.V_F (Kd.V_mono (ok' := (fun k_ => (P0_ k_ ∨ w.heap.size ≤ k_) ∧ k_ ≠ gb562)) (HO_0.out) (fun k_ hk => ⟨hk.1, hk.2⟩))))) (Reps.none _ _))); intro v571 w59 ho60 hb hg_ hnew_; clear hg_ hnew_; (first | rw [← Ny570.out] at ho60 | (simp only [Int.reduceToNat] at ho60; rw [← Ny570.out] at ho60)); have n0_ := Aside0.mk (Kd.V_elder' (by (with_reducible repeat (first | apply Kd.V_alloc | apply Kd.V_drewN | apply Kd.V_drew)); exact HO_0.out) (Kd.N_base ho60) hb); have n1_ := Aside0.mk (Kd.N_lower ho60 (below_size (by repeat (first | (with_reducible first | exact HB.out | apply below_alloc | apply pw_below_drewN | apply below_drew1 | refine below_set ?_ GE562.out) | exact HB.out)))); have n2_ := Aside0.mk (blk_below (g := gb562) (o := .cells #[.int .u64 t565, .int .u64 t566, .int .u64 t567, .string t568, .string t569] 24 (0, 0)) (by (with_reducible repeat (first | refine blk_drewN ?_ _ | refine blk_drew ?_ | refine blk_alloc ?_ _)); exact BK562.out) hb); have n3_ := Aside0.mk (below_step (by repeat (first | (with_reducible first | exact HB.out | apply below_alloc | apply pw_below_drewN | apply below_drew1 | refine below_set ?_ GE562.out) | exact HB.out)) hb); clear HO_0; clear BK562; clear HB; have HO_0 := n0_; have HO572 := n1_; have BK562 := n2_; have HB := n3_; clear n0_ n1_ n2_ n3_; clear hb ho60; obtain ⟨Ao61, co61, eo61⟩ := Kd.N_slice HO572.out; subst eo61) | ((with_reducible refine only_callee (f := 53) rfl ?_); refine goesL_ (some 20) rfl rfl Tryd.func53 (by kernel_rfl) rfl #[.slice Ao61 y570.length co61] rfl (by (try simp only [List.map_toArray, List.map_cons, List.map_nil]); first | done | rfl | (simp only [List.length_drop, List.length_take]; rfl)) ?_; (with_reducible refine (laws_siGood.calls kj2 _ _ y570 false _ ?side1 ?side2 A14.out).mono ?_); (case side1 => repeat (first | exact (Kd.N_reads' HO572.out).2.2 | (with_reducible refine Kd.C_alloc ?_ _) | (with_reducible refine Kd.C_drewN ?_ _) | (with_reducible refine Kd.C_drew ?_))); (case side2 => exact (Kd.N_reads' HO572.out).2.1); rintro e w62 ⟨rfl, hb⟩; refine ⟨_, rfl, ?_⟩; have n0_ := Aside0.mk (Kd.V_below (by (with_reducible repeat (first | apply Kd.V_alloc | apply Kd.V_drewN | apply Kd.V_drew)); exact HO_0.out) hb); have n1_ := Aside0.mk (Kd.N_below (by (with_reducible repeat (first | apply Kd.N_alloc | apply Kd.N_drewN | apply Kd.N_drew)); exact HO572.out) hb); have n2_ := Aside0.mk (blk_below (g := gb562) (o := .cells #[.int .u64 t565, .int .u64 t566, .int .u64 t567, .string t568, .string t569] 24 (0, 0)) (by (with_reducible repeat (first | refine blk_drewN ?_ _ | refine blk_drew ?_ | refine blk_alloc ?_ _)); exact BK562.out) hb); have n3_ := Aside0.mk (below_step (by repeat (first | (with_reducible first | exact HB.out | apply below_alloc | apply pw_below_drewN | apply below_drew1 | refine below_set ?_ GE562.out) | exact HB.out)) hb); clear HO_0; clear HO572; clear BK562; clear HB; have HO_0 := n0_; have HO572 := n1_; have BK562 := n2_; have HB := n3_; clear n0_ n1_ n2_ n3_; (try clear hb); (try clear hb2); (try clear hk); (try clear hi)))
     go_ret
     exact ⟨by first | rfl | (simp [errW_none, errW_some] <;> rfl) | (simp [*, errW_none, errW_some] <;> rfl), by repeat (first | (with_reducible first | exact HB.out | apply below_alloc | apply pw_below_drewN | apply below_drew1 | refine below_set ?_ GE562.out) | exact HB.out)⟩

end Go.Proofs.YtlooelfkkbgmhaaDoor.QS
