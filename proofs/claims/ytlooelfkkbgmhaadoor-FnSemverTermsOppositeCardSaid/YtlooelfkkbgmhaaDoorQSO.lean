-- written by a program of mine (wip/tools/myprint.py, gather.py) for this claim. Not trusted: Lean checks it.
import Derived.Below
import Derived.Deep.Draws
import Derived.Deep.AppendLies
import Derived.Maps.AppendAt
import Derived.OwnWalk
import Derived.Laws.BytesArg
import Derived.Laws.MakeOwn
import Derived.Laws.OwnMore
import Derived.Deep.OwnRows
import Derived.Tactics
import Derived.Lib.ConvBytes
import Derived.Laws.Slices
import Derived.WalkKit
import Derived.KernelRfl
import Derived.RowKit3
import Derived.Deep.LoopGhost
import Derived.Deep.QuietTactic
import Derived.BigQuiet
import Derived.WideLaws
import Derived.Deep.DeepCutAuto
import Derived.Deep.CutBlock
import Derived.Deep.RegionHeld3
import Derived.Laws.Rows
import Derived.Lib.AppendStr
import Derived.ArgAppend
import Derived.Laws.IdiomCopy
import Derived.OrdersHeld
import Derived.Laws.BitsLemmas
import Derived.RowKit
import Derived.Test.YtlooelfkkbgmhaaDoorQSL
import Derived.Test.YtlooelfkkbgmhaaDoorConCheck
namespace Go.Proofs.YtlooelfkkbgmhaaDoor.QS
open Go.RowKit Go.Proofs.YtlooelfkkbgmhaaDoorW.PrintWords Go.Proofs.YtlooelfkkbgmhaaDoorW.PrintLast

end Go.Proofs.YtlooelfkkbgmhaaDoor.QS
namespace Go.Proofs.YtlooelfkkbgmhaaDoor.QS
open Go.RowKit Go.Proofs.YtlooelfkkbgmhaaDoorW.PrintWords Go.Proofs.YtlooelfkkbgmhaaDoorW.PrintLast

set_option linter.unusedVariables false
set_option linter.unusedSimpArgs false

/-! ### laws_FnSemverTermsOpposite: function 16 -/
mutual
def laws_FnSemverTermsOpposite.j0 : Nat → List (S36) → Bool → Int → Int → Int → ByteArray → ByteArray → Option (Bool)
 | 0, _, _, _, _, _, _, _ => none
 | k + 1, x0, x15, x597000, x597001, x597002, x597003, x597004 => if x15 = true then (some true) else ((laws_scList.f k x0).bind fun t599 => (if t599 = true then ((laws_svGood.f k (([(⟨x597000, x597001, x597002, (⟨#[]⟩ : ByteArray), x597004⟩ : S24)] : List (S24)))).bind fun t603 => (laws_FnSemverTermsOpposite.j1 k x0 (!t603) x597000 x597001 x597002 (⟨#[]⟩ : ByteArray) x597004)) else (laws_FnSemverTermsOpposite.j1 k x0 true x597000 x597001 x597002 (⟨#[]⟩ : ByteArray) x597004)))
def laws_FnSemverTermsOpposite.j1 : Nat → List (S36) → Bool → Int → Int → Int → ByteArray → ByteArray → Option (Bool)
 | 0, _, _, _, _, _, _, _ => none
 | k + 1, x0, x25, x597000, x597001, x597002, x597003, x597004 => if x25 = true then (some true) else (laws_FnSemverTermsOpposite.l0 k x0 ([] : List (List (S36))) x0 (x0.length : Int) 0 x597000 x597001 x597002 x597003 x597004)
def laws_FnSemverTermsOpposite.l0 : Nat → List (S36) → List (List (S36)) → List (S36) → Int → Int → Int → Int → Int → ByteArray → ByteArray → Option (Bool)
 | 0, _, _, _, _, _, _, _, _, _, _ => none
 | k + 1, x0, x5, x26, x27, x28, x597000, x597001, x597002, x597003, x597004 => if x28 < x27 then (if 0 ≤ x28 then (if x28 < (x26.length : Int) then (if ((rd_T36 x26 x28).f1) = 0 then (some true) else (if ((rd_T36 x26 x28).f0) = 6 then (some true) else (if ((rd_T36 x26 x28).f0) = 7 then (some true) else ((laws_sjOpposite.f ((rd_T36 x26 x28).f0)).bind fun t606 => (if x5.length < 5864062014805 then (laws_FnSemverTermsOpposite.l0 k x0 (x5 ++ [(([(⟨t606, (rd_T36 x26 x28).f1, (rd_T36 x26 x28).f2, (rd_T36 x26 x28).f3, (rd_T36 x26 x28).f4, (rd_T36 x26 x28).f5⟩ : S36)] : List (S36)))]) x26 x27 (wrap64 (x28 + 1)) x597000 x597001 x597002 x597003 x597004) else (none)))))) else (none)) else (none)) else ((impl_TermsHold.f k (([x0] : List (List (S36)))) x597000 x597001 x597002 x597003 x597004 false).bind fun t616 => ((impl_TermsHold.f k x5 x597000 x597001 x597002 x597003 x597004 false).bind fun t617 => (some (t616 != t617))))
end
def laws_FnSemverTermsOpposite.f (k : Nat) (l0 : List (S36)) (a1_0 : Int) (a1_1 : Int) (a1_2 : Int) (a1_3 : ByteArray) (a1_4 : ByteArray) : Option (Bool) := (laws_zzFits12.f k l0).bind fun t597 => (if t597 = true then ((laws_zzFits14.f a1_0 a1_1 a1_2 a1_3 a1_4).bind fun t598 => (laws_FnSemverTermsOpposite.j0 k l0 (!t598) a1_0 a1_1 a1_2 a1_3 a1_4)) else (laws_FnSemverTermsOpposite.j0 k l0 true a1_0 a1_1 a1_2 a1_3 a1_4))
theorem laws_FnSemverTermsOpposite.mono_l : ∀ k, (∀ y0 y1 y2 y3 y4 y5 y6, LeO (laws_FnSemverTermsOpposite.j0 k y0 y1 y2 y3 y4 y5 y6) (laws_FnSemverTermsOpposite.j0 (k + 1) y0 y1 y2 y3 y4 y5 y6)) ∧ (∀ y0 y1 y2 y3 y4 y5 y6, LeO (laws_FnSemverTermsOpposite.j1 k y0 y1 y2 y3 y4 y5 y6) (laws_FnSemverTermsOpposite.j1 (k + 1) y0 y1 y2 y3 y4 y5 y6)) ∧ (∀ y0 y1 y2 y3 y4 y5 y6 y7 y8 y9, LeO (laws_FnSemverTermsOpposite.l0 k y0 y1 y2 y3 y4 y5 y6 y7 y8 y9) (laws_FnSemverTermsOpposite.l0 (k + 1) y0 y1 y2 y3 y4 y5 y6 y7 y8 y9))
 | 0 => ⟨fun _ _ _ _ _ _ _ r h => by simp [laws_FnSemverTermsOpposite.j0] at h, fun _ _ _ _ _ _ _ r h => by simp [laws_FnSemverTermsOpposite.j1] at h, fun _ _ _ _ _ _ _ _ _ _ r h => by simp [laws_FnSemverTermsOpposite.l0] at h⟩
 | k + 1 => by
  obtain ⟨ih0, ih1, ih2⟩ := laws_FnSemverTermsOpposite.mono_l k
  refine ⟨?_, ?_, ?_⟩
  ·intro y0 y1 y2 y3 y4 y5 y6
   unfold laws_FnSemverTermsOpposite.j0
   repeat' first
   | (with_reducible exact ih0 _ _ _ _ _ _ _)
   | (with_reducible exact ih1 _ _ _ _ _ _ _)
   | (with_reducible exact ih2 _ _ _ _ _ _ _ _ _ _)
   | (with_reducible exact impl_TermsHold.mono _ _ _ _ _ _ _ _)
   | (with_reducible exact laws_scList.mono _ _)
   | (with_reducible exact laws_svGood.mono _ _)
   | (with_reducible exact laws_zzFits12.mono _ _)
   | (with_reducible exact LeO.refl _)
   | (with_reducible exact LeO.none _)
   | (with_reducible refine LeO.ite ?_ ?_)
   | (with_reducible refine LeO.bind ?_ (fun _ => ?_))
   | exact ih0 _ _ _ _ _ _ _
   | exact ih1 _ _ _ _ _ _ _
   | exact ih2 _ _ _ _ _ _ _ _ _ _
   | exact impl_TermsHold.mono _ _ _ _ _ _ _ _
   | exact laws_scList.mono _ _
   | exact laws_svGood.mono _ _
   | exact laws_zzFits12.mono _ _
   | exact LeO.none _
   | refine LeO.ite ?_ ?_
   | refine LeO.bind ?_ (fun _ => ?_)
  ·intro y0 y1 y2 y3 y4 y5 y6
   unfold laws_FnSemverTermsOpposite.j1
   repeat' first
   | (with_reducible exact ih0 _ _ _ _ _ _ _)
   | (with_reducible exact ih1 _ _ _ _ _ _ _)
   | (with_reducible exact ih2 _ _ _ _ _ _ _ _ _ _)
   | (with_reducible exact impl_TermsHold.mono _ _ _ _ _ _ _ _)
   | (with_reducible exact laws_scList.mono _ _)
   | (with_reducible exact laws_svGood.mono _ _)
   | (with_reducible exact laws_zzFits12.mono _ _)
   | (with_reducible exact LeO.refl _)
   | (with_reducible exact LeO.none _)
   | (with_reducible refine LeO.ite ?_ ?_)
   | (with_reducible refine LeO.bind ?_ (fun _ => ?_))
   | exact ih0 _ _ _ _ _ _ _
   | exact ih1 _ _ _ _ _ _ _
   | exact ih2 _ _ _ _ _ _ _ _ _ _
   | exact impl_TermsHold.mono _ _ _ _ _ _ _ _
   | exact laws_scList.mono _ _
   | exact laws_svGood.mono _ _
   | exact laws_zzFits12.mono _ _
   | exact LeO.none _
   | refine LeO.ite ?_ ?_
   | refine LeO.bind ?_ (fun _ => ?_)
  ·intro y0 y1 y2 y3 y4 y5 y6 y7 y8 y9
   unfold laws_FnSemverTermsOpposite.l0
   repeat' first
   | (with_reducible exact ih0 _ _ _ _ _ _ _)
   | (with_reducible exact ih1 _ _ _ _ _ _ _)
   | (with_reducible exact ih2 _ _ _ _ _ _ _ _ _ _)
   | (with_reducible exact impl_TermsHold.mono _ _ _ _ _ _ _ _)
   | (with_reducible exact laws_scList.mono _ _)
   | (with_reducible exact laws_svGood.mono _ _)
   | (with_reducible exact laws_zzFits12.mono _ _)
   | (with_reducible exact LeO.refl _)
   | (with_reducible exact LeO.none _)
   | (with_reducible refine LeO.ite ?_ ?_)
   | (with_reducible refine LeO.bind ?_ (fun _ => ?_))
   | exact ih0 _ _ _ _ _ _ _
   | exact ih1 _ _ _ _ _ _ _
   | exact ih2 _ _ _ _ _ _ _ _ _ _
   | exact impl_TermsHold.mono _ _ _ _ _ _ _ _
   | exact laws_scList.mono _ _
   | exact laws_svGood.mono _ _
   | exact laws_zzFits12.mono _ _
   | exact LeO.none _
   | refine LeO.ite ?_ ?_
   | refine LeO.bind ?_ (fun _ => ?_)
theorem laws_FnSemverTermsOpposite.mono : ∀ a0 a1 a2 a3 a4 a5 k, LeO (laws_FnSemverTermsOpposite.f k a0 a1 a2 a3 a4 a5) (laws_FnSemverTermsOpposite.f (k + 1) a0 a1 a2 a3 a4 a5) := by
 intro a0 a1 a2 a3 a4 a5 k
 obtain ⟨ih0, ih1, ih2⟩ := laws_FnSemverTermsOpposite.mono_l k
 unfold laws_FnSemverTermsOpposite.f
 repeat' first
   | (with_reducible exact ih0 _ _ _ _ _ _ _)
   | (with_reducible exact ih1 _ _ _ _ _ _ _)
   | (with_reducible exact ih2 _ _ _ _ _ _ _ _ _ _)
   | (with_reducible exact impl_TermsHold.mono _ _ _ _ _ _ _ _)
   | (with_reducible exact laws_scList.mono _ _)
   | (with_reducible exact laws_svGood.mono _ _)
   | (with_reducible exact laws_zzFits12.mono _ _)
   | (with_reducible exact LeO.refl _)
   | (with_reducible exact LeO.none _)
   | (with_reducible refine LeO.ite ?_ ?_)
   | (with_reducible refine LeO.bind ?_ (fun _ => ?_))
   | exact ih0 _ _ _ _ _ _ _
   | exact ih1 _ _ _ _ _ _ _
   | exact ih2 _ _ _ _ _ _ _ _ _ _
   | exact impl_TermsHold.mono _ _ _ _ _ _ _ _
   | exact laws_scList.mono _ _
   | exact laws_svGood.mono _ _
   | exact laws_zzFits12.mono _ _
   | exact LeO.none _
   | refine LeO.ite ?_ ?_
   | refine LeO.bind ?_ (fun _ => ?_)
def laws_FnSemverTermsOpposite.T15 : Bool × List (List Nat × List Nat) := (true, [([], []), ([0], [0]), ([], []), ([1, 2], [1, 2]), ([], []), ([], []), ([4, 5, 3], [4, 5]), ([3, 6], [3, 6]), ([7, 6, 0, 1, 2, 3, 4, 5, 6, 7], [7])])
def laws_FnSemverTermsOpposite.B15 : List Nat := [0, 1, 0, 7, 0, 0, 63, 127, 255]
theorem laws_FnSemverTermsOpposite.tab15 : rtab .any (opsOf Tryd.f16 15) = laws_FnSemverTermsOpposite.T15 := by kernel_rfl
theorem laws_FnSemverTermsOpposite.bits15 : waitsOk laws_FnSemverTermsOpposite.T15.2 laws_FnSemverTermsOpposite.B15 = true := by kernel_rfl
set_option maxHeartbeats 8000000 in
set_option maxRecDepth 100000 in
theorem laws_FnSemverTermsOpposite.calls (k : Nat) (P0_ : Nat → Prop) (A0 : Option Addr) (c0 : Nat) (l0 : List (S36)) (a1_0 : Int) (a1_1 : Int) (a1_2 : Int) (a1_3 : ByteArray) (a1_4 : ByteArray) (r : Bool) (w : World) (hs0 : Kd.V k36 36 w w.heap.size (fun k_ => P0_ k_) (.slice A0 l0.length c0) l0) (hGE : GlobE w) (h : laws_FnSemverTermsOpposite.f k l0 a1_0 a1_1 a1_2 a1_3 a1_4 = some r) :
  Calls Tryd.prog 16 #[.slice A0 l0.length c0, .agg #[.int .u64 a1_0, .int .u64 a1_1, .int .u64 a1_2, .string a1_3, .string a1_4]] w fun e w' => e = .returned (.bool r) ∧ Below w.heap.size w w' := by
 have hu24 := Tryd.underlying24
 have hu36 := Tryd.underlying36
 have HGE := Aside0.mk hGE
 clear hGE
 have HO0 := Aside0.mk (show Kd.V k36 36 w w.heap.size (fun k_ => (P0_ k_ ∨ w.heap.size ≤ k_)) (.slice A0 l0.length c0) l0 from Kd.V_mono hs0 (fun k_ hk => .inl hk))
 have HB := Aside0.mk (Below.refl w.heap.size w)
 have H : ((laws_zzFits12.f k l0).bind fun t597 => (if t597 = true then ((laws_zzFits14.f a1_0 a1_1 a1_2 a1_3 a1_4).bind fun t598 => (laws_FnSemverTermsOpposite.j0 k l0 (!t598) a1_0 a1_1 a1_2 a1_3 a1_4)) else (laws_FnSemverTermsOpposite.j0 k l0 true a1_0 a1_1 a1_2 a1_3 a1_4))) = some r := h
 clear h
 have HC3 := Aside0.mk H
 clear H
 go_enter Tryd.func16, Tryd.ntmps16
 go_upto_region 1 with (first | ((with_reducible refine gate_dst (N := 3) rfl ?_); (try (refine gate_guard (by rfl) ?_; dsimp only)); refine box_event ?hg (N := 3) ?hd (cs := #[.int .u64 a1_0, .int .u64 a1_1, .int .u64 a1_2, .string a1_3, .string a1_4]) (t := 24) ?hr ?_; (case hd => rfl); (case hg => rfl); (case hr => first | (go_simp; done) | (go_simp; rfl)); intro gb596 hg w4 hbox hb; have n0_ := Aside0.mk (Kd.V_below (Kd.V_elderB (by (with_reducible repeat (first | apply Kd.V_alloc | apply Kd.V_drewN | apply Kd.V_drew)); exact HO0.out) gb596 (Nat.le_of_eq hg.symm)) hb); have n1_ := Aside0.mk (below_step (by repeat (first | (with_reducible first | exact HB.out | apply below_alloc | apply pw_below_drewN | apply below_drew1) | exact HB.out)) hb); have n2_ := Aside0.mk (hbox); have n3_ := Aside0.mk ((by rw [hg]; exact (below_size (by repeat (first | (with_reducible first | exact HB.out | apply below_alloc | apply pw_below_drewN | apply below_drew1) | exact HB.out))) : w.heap.size ≤ gb596)); have n4_ := Aside0.mk ((by rw [hg]; exact (below_size (by repeat (first | (with_reducible first | exact HB.out | apply below_alloc | apply pw_below_drewN | apply below_drew1) | exact HB.out))) : w.heap.size ≤ gb596)); clear HO0; clear HB; have HO0 := n0_; have HB := n1_; have BK596 := n2_; have GW596 := n3_; have GE596 := n4_; clear n0_ n1_ n2_ n3_ n4_; clear hb hbox hg))
 (try simp only [Act.put, List.setIfInBounds_toArray, List.set_cons_zero, List.set_cons_succ])
 go_cut [15] (fun v15 wc => ∃ (kq : Nat) (x15_2 : Bool), v15 = .bool x15_2 ∧ Aside0 (laws_FnSemverTermsOpposite.j0 kq l0 x15_2 a1_0 a1_1 a1_2 a1_3 a1_4 = some r) ∧ Aside0 (kq ≤ k) ∧ Aside0 (Kd.V k36 36 wc w.heap.size (fun k_ => (P0_ k_ ∨ w.heap.size ≤ k_) ∧ k_ ≠ gb596) (.slice A0 l0.length c0) l0) ∧ Aside0 (wc.heap[gb596]? = some (.cells #[.int .u64 a1_0, .int .u64 a1_1, .int .u64 a1_2, .string a1_3, .string a1_4] 24 (0, 0))) ∧ Aside0 (Below w.heap.size w wc))
 case first =>
  have H := HC3.out
  clear HC3
  replace H := Option.bind_eq_some_iff.mp H
  obtain ⟨t597, A50, H⟩ := H
  replace H : (if t597 = true then ((laws_zzFits14.f a1_0 a1_1 a1_2 a1_3 a1_4).bind fun t598 => (laws_FnSemverTermsOpposite.j0 k l0 (!t598) a1_0 a1_1 a1_2 a1_3 a1_4)) else (laws_FnSemverTermsOpposite.j0 k l0 true a1_0 a1_1 a1_2 a1_3 a1_4)) = some r := H
  have A5 := Aside0.mk A50
  clear A50
  by_cases c6 : t597 = true
  ·subst c6
   have H1 : ((laws_zzFits14.f a1_0 a1_1 a1_2 a1_3 a1_4).bind fun t598 => (laws_FnSemverTermsOpposite.j0 k l0 (!t598) a1_0 a1_1 a1_2 a1_3 a1_4)) = some r := by rw [if_pos rfl] at H; exact H
   clear H
   have H := H1
   clear H1
   replace H := Option.bind_eq_some_iff.mp H
   obtain ⟨t598, A70, H⟩ := H
   replace H : (laws_FnSemverTermsOpposite.j0 k l0 (!t598) a1_0 a1_1 a1_2 a1_3 a1_4) = some r := H
   have A7 := Aside0.mk A70
   clear A70
   have H' := Aside0.mk H
   clear H
   go_wp2_with (first | ((with_reducible refine only_callee (f := 61) rfl ?_); refine goesL_ (some 9) rfl rfl Tryd.func61 (by kernel_rfl) rfl #[.slice A0 l0.length c0] rfl (by (try simp only [List.map_toArray, List.map_cons, List.map_nil]); first | done | rfl | (simp only [List.length_drop, List.length_take]; rfl)) ?_; (with_reducible refine (laws_zzFits12.calls k _ _ l0 true _ ?side1 ?side2 A5.out).mono ?_); (case side1 => repeat (first | exact (Kd.V_reads' HO0.out).2.2 | (with_reducible refine Kd.C_alloc ?_ _) | (with_reducible refine Kd.C_drewN ?_ _) | (with_reducible refine Kd.C_drew ?_))); (case side2 => exact (Kd.V_reads' HO0.out).2.1); rintro e w8 ⟨rfl, hb⟩; refine ⟨_, rfl, ?_⟩; have n0_ := Aside0.mk (Kd.V_below (by (with_reducible repeat (first | apply Kd.V_alloc | apply Kd.V_drewN | apply Kd.V_drew)); exact HO0.out) hb); have n1_ := Aside0.mk (blk_below (g := gb596) (o := .cells #[.int .u64 a1_0, .int .u64 a1_1, .int .u64 a1_2, .string a1_3, .string a1_4] 24 (0, 0)) (by (with_reducible repeat (first | refine blk_drewN ?_ _ | refine blk_drew ?_ | refine blk_alloc ?_ _)); exact BK596.out) hb); have n2_ := Aside0.mk (below_step (by repeat (first | (with_reducible first | exact HB.out | apply below_alloc | apply pw_below_drewN | apply below_drew1 | refine below_set ?_ GE596.out) | exact HB.out)) hb); clear HO0; clear BK596; clear HB; have HO0 := n0_; have BK596 := n1_; have HB := n2_; clear n0_ n1_ n2_; (try clear hb); (try clear hb2); (try clear hk); (try clear hi); have hcz9_0 : w8.cell? ⟨gb596, 0, none⟩ = some (.int .u64 a1_0) := (blk_cell BK596.out 0).trans rfl; have hcz9_1 : w8.cell? ⟨gb596, 1, none⟩ = some (.int .u64 a1_1) := (blk_cell BK596.out 1).trans rfl; have hcz9_2 : w8.cell? ⟨gb596, 2, none⟩ = some (.int .u64 a1_2) := (blk_cell BK596.out 2).trans rfl; have hcz9_3 : w8.cell? ⟨gb596, 3, none⟩ = some (.string a1_3) := (blk_cell BK596.out 3).trans rfl; have hcz9_4 : w8.cell? ⟨gb596, 4, none⟩ = some (.string a1_4) := (blk_cell BK596.out 4).trans rfl; have hfz9_0 := blk_frozen BK596.out 0; have hfz9_1 := blk_frozen BK596.out 1; have hfz9_2 := blk_frozen BK596.out 2; have hfz9_3 := blk_frozen BK596.out 3; have hfz9_4 := blk_frozen BK596.out 4) | (go_at_call 17; (with_reducible refine (laws_zzFits14.calls a1_0 a1_1 a1_2 a1_3 a1_4 t598 _ A7.out).mono ?_); rintro e w10 ⟨rfl, hb⟩; have n0_ := Aside0.mk (Kd.V_below (by (with_reducible repeat (first | apply Kd.V_alloc | apply Kd.V_drewN | apply Kd.V_drew)); exact HO0.out) hb); have n1_ := Aside0.mk (blk_below (g := gb596) (o := .cells #[.int .u64 a1_0, .int .u64 a1_1, .int .u64 a1_2, .string a1_3, .string a1_4] 24 (0, 0)) (by (with_reducible repeat (first | refine blk_drewN ?_ _ | refine blk_drew ?_ | refine blk_alloc ?_ _)); exact BK596.out) hb); have n2_ := Aside0.mk (below_step (by repeat (first | (with_reducible first | exact HB.out | apply below_alloc | apply pw_below_drewN | apply below_drew1 | refine below_set ?_ GE596.out) | exact HB.out)) hb); clear HO0; clear BK596; clear HB; have HO0 := n0_; have BK596 := n1_; have HB := n2_; clear n0_ n1_ n2_; (try clear hb); (try clear hb2); (try clear hk); (try clear hi)))
   go_meet
   case rel => exact ⟨_, (!t598), (by first | rfl | (simp; done) | (simp [*]; done) | (simp [nil_bne]; done)), H', ⟨by first | omega | exact Nat.le_refl _⟩, ⟨by (with_reducible repeat (first | apply Kd.V_alloc | apply Kd.V_drewN | apply Kd.V_drew)); exact HO0.out⟩, ⟨by (with_reducible repeat (first | refine blk_drewN ?_ _ | refine blk_drew ?_ | refine blk_alloc ?_ _)); exact BK596.out⟩, ⟨by repeat (first | (with_reducible first | exact HB.out | apply below_alloc | apply pw_below_drewN | apply below_drew1 | refine below_set ?_ GE596.out) | exact HB.out)⟩⟩
  ·replace c6 := Bool.eq_false_iff.mpr c6
   subst c6
   have H1 : (laws_FnSemverTermsOpposite.j0 k l0 true a1_0 a1_1 a1_2 a1_3 a1_4) = some r := by rw [if_neg (show ¬ (false = true) by decide)] at H; exact H
   clear H
   have H := H1
   clear H1
   have H' := Aside0.mk H
   clear H
   go_wp2_with (first | ((with_reducible refine only_callee (f := 61) rfl ?_); refine goesL_ (some 9) rfl rfl Tryd.func61 (by kernel_rfl) rfl #[.slice A0 l0.length c0] rfl (by (try simp only [List.map_toArray, List.map_cons, List.map_nil]); first | done | rfl | (simp only [List.length_drop, List.length_take]; rfl)) ?_; (with_reducible refine (laws_zzFits12.calls k _ _ l0 false _ ?side1 ?side2 A5.out).mono ?_); (case side1 => repeat (first | exact (Kd.V_reads' HO0.out).2.2 | (with_reducible refine Kd.C_alloc ?_ _) | (with_reducible refine Kd.C_drewN ?_ _) | (with_reducible refine Kd.C_drew ?_))); (case side2 => exact (Kd.V_reads' HO0.out).2.1); rintro e w11 ⟨rfl, hb⟩; refine ⟨_, rfl, ?_⟩; have n0_ := Aside0.mk (Kd.V_below (by (with_reducible repeat (first | apply Kd.V_alloc | apply Kd.V_drewN | apply Kd.V_drew)); exact HO0.out) hb); have n1_ := Aside0.mk (blk_below (g := gb596) (o := .cells #[.int .u64 a1_0, .int .u64 a1_1, .int .u64 a1_2, .string a1_3, .string a1_4] 24 (0, 0)) (by (with_reducible repeat (first | refine blk_drewN ?_ _ | refine blk_drew ?_ | refine blk_alloc ?_ _)); exact BK596.out) hb); have n2_ := Aside0.mk (below_step (by repeat (first | (with_reducible first | exact HB.out | apply below_alloc | apply pw_below_drewN | apply below_drew1 | refine below_set ?_ GE596.out) | exact HB.out)) hb); clear HO0; clear BK596; clear HB; have HO0 := n0_; have BK596 := n1_; have HB := n2_; clear n0_ n1_ n2_; (try clear hb); (try clear hb2); (try clear hk); (try clear hi)))
   go_meet
   case rel => exact ⟨_, (true), (by first | rfl | (simp; done) | (simp [*]; done) | (simp [nil_bne]; done)), H', ⟨by first | omega | exact Nat.le_refl _⟩, ⟨by (with_reducible repeat (first | apply Kd.V_alloc | apply Kd.V_drewN | apply Kd.V_drew)); exact HO0.out⟩, ⟨by (with_reducible repeat (first | refine blk_drewN ?_ _ | refine blk_drew ?_ | refine blk_alloc ?_ _)); exact BK596.out⟩, ⟨by repeat (first | (with_reducible first | exact HB.out | apply below_alloc | apply pw_below_drewN | apply below_drew1 | refine below_set ?_ GE596.out) | exact HB.out)⟩⟩
 case rest =>
  clear HC3
  try clear c1
  try clear p2
  try clear c6
  try clear hcz9_0
  try clear hcz9_1
  try clear hcz9_2
  try clear hcz9_3
  try clear hcz9_4
  try clear hfz9_0
  try clear hfz9_1
  try clear hfz9_2
  try clear hfz9_3
  try clear hfz9_4
  obtain ⟨kq, x15_2, rfl, HA, HJ2, HO_0, BK596, HB⟩ := hcut
  cases kq with
  | zero => exact absurd HA.out (by simp [laws_FnSemverTermsOpposite.j0])
  | succ kj2 =>
   have H := HA.out
   clear HA
   simp only [laws_FnSemverTermsOpposite.j0] at H
   by_cases c12 : x15_2 = true
   ·subst c12
    have H1 : (some true) = some r := by rw [if_pos rfl] at H; exact H
    clear H
    have H := H1
    clear H1
    obtain rfl := Option.some.inj H
    go_wp2
    go_ret
    exact ⟨by first | rfl | (simp [errW_none, errW_some] <;> rfl) | (simp [*, errW_none, errW_some] <;> rfl), by repeat (first | (with_reducible first | exact HB.out | apply below_alloc | apply pw_below_drewN | apply below_drew1 | refine below_set ?_ GE596.out) | exact HB.out)⟩
   ·replace c12 := Bool.eq_false_iff.mpr c12
    subst c12
    have H1 : ((laws_scList.f kj2 l0).bind fun t599 => (if t599 = true then ((laws_svGood.f kj2 (([(⟨a1_0, a1_1, a1_2, (⟨#[]⟩ : ByteArray), a1_4⟩ : S24)] : List (S24)))).bind fun t603 => (laws_FnSemverTermsOpposite.j1 kj2 l0 (!t603) a1_0 a1_1 a1_2 (⟨#[]⟩ : ByteArray) a1_4)) else (laws_FnSemverTermsOpposite.j1 kj2 l0 true a1_0 a1_1 a1_2 (⟨#[]⟩ : ByteArray) a1_4))) = some r := by rw [if_neg (show ¬ (false = true) by decide)] at H; exact H
    clear H
    have H := H1
    clear H1
    have HC13 := Aside0.mk H
    clear H
    have hcz14_0 : wc.cell? ⟨gb596, 0, none⟩ = some (.int .u64 a1_0) := (blk_cell BK596.out 0).trans rfl
    have hcz14_1 : wc.cell? ⟨gb596, 1, none⟩ = some (.int .u64 a1_1) := (blk_cell BK596.out 1).trans rfl
    have hcz14_2 : wc.cell? ⟨gb596, 2, none⟩ = some (.int .u64 a1_2) := (blk_cell BK596.out 2).trans rfl
    have hcz14_3 : wc.cell? ⟨gb596, 3, none⟩ = some (.string a1_3) := (blk_cell BK596.out 3).trans rfl
    have hcz14_4 : wc.cell? ⟨gb596, 4, none⟩ = some (.string a1_4) := (blk_cell BK596.out 4).trans rfl
    have hfz14_0 := blk_frozen BK596.out 0
    have hfz14_1 := blk_frozen BK596.out 1
    have hfz14_2 := blk_frozen BK596.out 2
    have hfz14_3 := blk_frozen BK596.out 3
    have hfz14_4 := blk_frozen BK596.out 4
    go_upto_region 4 with (first | ((with_reducible refine gate_store (t := 9) (p := 16) rfl ?_); refine store_event (t := 9) (p := 16) (v := ?vo_w15) (w1 := (wc.setCell ⟨gb596, 3, none⟩ (.string (⟨#[]⟩ : ByteArray)))) ?hg ?ho ?hn ?hr ?_; (case ho => rfl); (case hg => rfl); (case hn => rfl); (case hr => first | (go_simp; done) | (go_simp; rfl)); intro w15 hw; have n0_ : Aside0 (Kd.V k36 36 w15 w.heap.size (fun k_ => (P0_ k_ ∨ w.heap.size ≤ k_) ∧ k_ ≠ gb596) (.slice A0 l0.length c0) l0) := ⟨(by rw [hw]; exact (by (with_reducible repeat (first | apply Kd.V_alloc | apply Kd.V_drewN | apply Kd.V_drew)); exact Kd.V_mono (Kd.V_far (p := ⟨gb596, 3, none⟩) (Kd.V_mono HO_0.out (fun k_ hk => (⟨hk, hk.2⟩ : _ ∧ k_ ≠ gb596))) (fun _ hk => hk.2) (.string (⟨#[]⟩ : ByteArray))) (fun _ hk => ⟨hk.1.1, hk.1.2⟩)))⟩; have n1_ : Aside0 (w15.heap[gb596]? = some (.cells #[.int .u64 a1_0, .int .u64 a1_1, .int .u64 a1_2, .string (⟨#[]⟩ : ByteArray), .string a1_4] 24 (0, 0))) := ⟨(by rw [hw]; exact (by (with_reducible repeat (first | refine blk_drewN ?_ _ | refine blk_drew ?_ | refine blk_alloc ?_ _)); refine blk_put (cs := #[.int .u64 a1_0, .int .u64 a1_1, .int .u64 a1_2, .string a1_3, .string a1_4]) ?_ 3 _ rfl; (with_reducible repeat (first | refine blk_drewN ?_ _ | refine blk_drew ?_ | refine blk_alloc ?_ _)); exact BK596.out))⟩; have n2_ : Aside0 (Below w.heap.size w w15) := ⟨(by rw [hw]; exact (by repeat (first | (with_reducible first | exact HB.out | apply below_alloc | apply pw_below_drewN | apply below_drew1 | refine below_set ?_ GE596.out) | exact HB.out)))⟩; clear hw; clear HO_0; clear BK596; clear HB; have HO_0 := n0_; have BK596 := n1_; have HB := n2_; clear n0_ n1_ n2_))
    (try simp only [Act.put, List.setIfInBounds_toArray, List.set_cons_zero, List.set_cons_succ])
    go_cut [25] (fun v25 wc => ∃ (kq : Nat) (x25_12 : Bool), v25 = .bool x25_12 ∧ Aside0 (laws_FnSemverTermsOpposite.j1 kq l0 x25_12 a1_0 a1_1 a1_2 (⟨#[]⟩ : ByteArray) a1_4 = some r) ∧ Aside0 (kq ≤ kj2) ∧ Aside0 (Kd.V k36 36 wc w.heap.size (fun k_ => (P0_ k_ ∨ w.heap.size ≤ k_) ∧ k_ ≠ gb596) (.slice A0 l0.length c0) l0) ∧ Aside0 (wc.heap[gb596]? = some (.cells #[.int .u64 a1_0, .int .u64 a1_1, .int .u64 a1_2, .string (⟨#[]⟩ : ByteArray), .string a1_4] 24 (0, 0))) ∧ Aside0 (Below w.heap.size w wc))
    case first =>
     have H := HC13.out
     clear HC13
     replace H := Option.bind_eq_some_iff.mp H
     obtain ⟨t599, A160, H⟩ := H
     replace H : (if t599 = true then ((laws_svGood.f kj2 (([(⟨a1_0, a1_1, a1_2, (⟨#[]⟩ : ByteArray), a1_4⟩ : S24)] : List (S24)))).bind fun t603 => (laws_FnSemverTermsOpposite.j1 kj2 l0 (!t603) a1_0 a1_1 a1_2 (⟨#[]⟩ : ByteArray) a1_4)) else (laws_FnSemverTermsOpposite.j1 kj2 l0 true a1_0 a1_1 a1_2 (⟨#[]⟩ : ByteArray) a1_4)) = some r := H
     have A16 := Aside0.mk A160
     clear A160
     by_cases c17 : t599 = true
     ·subst c17
      have H1 : ((laws_svGood.f kj2 (([(⟨a1_0, a1_1, a1_2, (⟨#[]⟩ : ByteArray), a1_4⟩ : S24)] : List (S24)))).bind fun t603 => (laws_FnSemverTermsOpposite.j1 kj2 l0 (!t603) a1_0 a1_1 a1_2 (⟨#[]⟩ : ByteArray) a1_4)) = some r := by rw [if_pos rfl] at H; exact H
      clear H
      have H := H1
      clear H1
      obtain ⟨y600, hy600⟩ : ∃ y_ : List (S24), y_ = (([(⟨a1_0, a1_1, a1_2, (⟨#[]⟩ : ByteArray), a1_4⟩ : S24)] : List (S24))) := ⟨_, rfl⟩
      replace H : ((laws_svGood.f kj2 y600).bind fun t603 => (laws_FnSemverTermsOpposite.j1 kj2 l0 (!t603) a1_0 a1_1 a1_2 (⟨#[]⟩ : ByteArray) a1_4)) = some r := by first | (rw [hy600]; with_reducible exact H) | (have H2_ := (Option.bind_some _ _).symm.trans H; rw [hy600]; with_reducible exact H2_) | (have H2_ := (Option.bind_some _ _).symm.trans H; with_reducible exact H2_) | with_reducible exact H | (rw [hy600]; exact H) | exact H
      have Ny600 := Aside0.mk hy600
      clear hy600
      replace H := Option.bind_eq_some_iff.mp H
      obtain ⟨t603, A180, H⟩ := H
      replace H : (laws_FnSemverTermsOpposite.j1 kj2 l0 (!t603) a1_0 a1_1 a1_2 (⟨#[]⟩ : ByteArray) a1_4) = some r := H
      have A18 := Aside0.mk A180
      clear A180
      have H' := Aside0.mk H
      clear H
      go_wp2_with (first | ((with_reducible refine only_callee (f := 62) rfl ?_); refine goesL_ (some 18) rfl rfl Tryd.func62 (by kernel_rfl) rfl #[.slice A0 l0.length c0] rfl (by (try simp only [List.map_toArray, List.map_cons, List.map_nil]); first | done | rfl | (simp only [List.length_drop, List.length_take]; rfl)) ?_; (with_reducible refine (laws_scList.calls kj2 (fun k_ => ((P0_ k_ ∨ w.heap.size ≤ k_) ∧ k_ ≠ gb596)) _ _ l0 true _ ?side1 A16.out).mono ?_); (case side1 => exact HO_0.out); rintro e w19 ⟨rfl, hb⟩; refine ⟨_, rfl, ?_⟩; have n0_ := Aside0.mk (Kd.V_below (by (with_reducible repeat (first | apply Kd.V_alloc | apply Kd.V_drewN | apply Kd.V_drew)); exact HO_0.out) hb); have n1_ := Aside0.mk (blk_below (g := gb596) (o := .cells #[.int .u64 a1_0, .int .u64 a1_1, .int .u64 a1_2, .string (⟨#[]⟩ : ByteArray), .string a1_4] 24 (0, 0)) (by (with_reducible repeat (first | refine blk_drewN ?_ _ | refine blk_drew ?_ | refine blk_alloc ?_ _)); exact BK596.out) hb); have n2_ := Aside0.mk (below_step (by repeat (first | (with_reducible first | exact HB.out | apply below_alloc | apply pw_below_drewN | apply below_drew1 | refine below_set ?_ GE596.out) | exact HB.out)) hb); clear HO_0; clear BK596; clear HB; have HO_0 := n0_; have BK596 := n1_; have HB := n2_; clear n0_ n1_ n2_; (try clear hb); (try clear hb2); (try clear hk); (try clear hi); have hcz20_0 : w19.cell? ⟨gb596, 0, none⟩ = some (.int .u64 a1_0) := (blk_cell BK596.out 0).trans rfl; have hcz20_1 : w19.cell? ⟨gb596, 1, none⟩ = some (.int .u64 a1_1) := (blk_cell BK596.out 1).trans rfl; have hcz20_2 : w19.cell? ⟨gb596, 2, none⟩ = some (.int .u64 a1_2) := (blk_cell BK596.out 2).trans rfl; have hcz20_3 : w19.cell? ⟨gb596, 3, none⟩ = some (.string (⟨#[]⟩ : ByteArray)) := (blk_cell BK596.out 3).trans rfl; have hcz20_4 : w19.cell? ⟨gb596, 4, none⟩ = some (.string a1_4) := (blk_cell BK596.out 4).trans rfl; have hfz20_0 := blk_frozen BK596.out 0; have hfz20_1 := blk_frozen BK596.out 1; have hfz20_2 := blk_frozen BK596.out 2; have hfz20_3 := blk_frozen BK596.out 3; have hfz20_4 := blk_frozen BK596.out 4) | ((with_reducible refine gate_dst (N := 22) rfl ?_); (try (refine gate_guard (by rfl) ?_; dsimp only)); refine Kd.R_lit k24 _ 24 ?hg (N := 22) ?hd (xs := ([(⟨a1_0, a1_1, a1_2, (⟨#[]⟩ : ByteArray), a1_4⟩ : S24)] : List (S24))) (inner := [.int .u64 a1_0, .int .u64 a1_1, .int .u64 a1_2, .string (⟨#[]⟩ : ByteArray), .string a1_4]) (ok := fun _ => True) (okp := fun _ => True) ?hr ?hp (fun _ hk => hk) trivial (Below.refl _ _) (Nat.le_refl _) (by simp) ?_; (case hd => rfl); (case hg => rfl); (case hr => first | (go_simp; done) | (go_simp; rfl)); (case hp => exact (Reps.c5 (show Kd.M k24 _ _ _ (⟨a1_0, a1_1, a1_2, (⟨#[]⟩ : ByteArray), a1_4⟩ : S24) [.int .u64 a1_0, .int .u64 a1_1, .int .u64 a1_2, .string (⟨#[]⟩ : ByteArray), .string a1_4] from (k24_mkM _ _ _ (⟨a1_0, a1_1, a1_2, (⟨#[]⟩ : ByteArray), a1_4⟩ : S24) )) (Reps.none _ _))); intro v601 w21 ho22 hb hg_ hnew_; clear hg_ hnew_; (first | rw [← Ny600.out] at ho22 | (simp only [Int.reduceToNat] at ho22; rw [← Ny600.out] at ho22)); have n0_ := Aside0.mk (Kd.V_elder' (by (with_reducible repeat (first | apply Kd.V_alloc | apply Kd.V_drewN | apply Kd.V_drew)); exact HO_0.out) (Kd.R_base ho22) hb); have n1_ := Aside0.mk (Kd.R_lower (Kd.R_newB (Kd.R_newM (M := fun k_ => (w.heap.size ≤ k_)) ho22 (below_size (by repeat (first | (with_reducible first | exact HB.out | apply below_alloc | apply pw_below_drewN | apply below_drew1 | refine below_set ?_ GE596.out) | exact HB.out))) (fun k_ h_ => h_)) (g := gb596) (o := .cells #[.int .u64 a1_0, .int .u64 a1_1, .int .u64 a1_2, .string (⟨#[]⟩ : ByteArray), .string a1_4] 24 (0, 0)) (by (with_reducible repeat (first | refine blk_drewN ?_ _ | refine blk_drew ?_ | refine blk_alloc ?_ _)); exact BK596.out)) (below_size (by repeat (first | (with_reducible first | exact HB.out | apply below_alloc | apply pw_below_drewN | apply below_drew1 | refine below_set ?_ GE596.out) | exact HB.out)))); have n2_ := Aside0.mk (blk_below (g := gb596) (o := .cells #[.int .u64 a1_0, .int .u64 a1_1, .int .u64 a1_2, .string (⟨#[]⟩ : ByteArray), .string a1_4] 24 (0, 0)) (by (with_reducible repeat (first | refine blk_drewN ?_ _ | refine blk_drew ?_ | refine blk_alloc ?_ _)); exact BK596.out) hb); have n3_ := Aside0.mk (below_step (by repeat (first | (with_reducible first | exact HB.out | apply below_alloc | apply pw_below_drewN | apply below_drew1 | refine below_set ?_ GE596.out) | exact HB.out)) hb); clear HO_0; clear BK596; clear HB; have HO_0 := n0_; have HO602 := n1_; have BK596 := n2_; have HB := n3_; clear n0_ n1_ n2_ n3_; clear hb ho22; obtain ⟨Ao23, co23, eo23⟩ := Kd.R_slice HO602.out; subst eo23) | (go_at_call 18; (with_reducible refine (laws_svGood.calls kj2 _ _ y600 t603 _ ?side1 ?side2 A18.out).mono ?_); (case side1 => repeat (first | exact (Kd.R_reads' HO602.out).2.2 | (with_reducible refine Kd.C_alloc ?_ _) | (with_reducible refine Kd.C_drewN ?_ _) | (with_reducible refine Kd.C_drew ?_))); (case side2 => exact (Kd.R_reads' HO602.out).2.1); rintro e w24 ⟨rfl, hb⟩; have n0_ := Aside0.mk (Kd.V_below (by (with_reducible repeat (first | apply Kd.V_alloc | apply Kd.V_drewN | apply Kd.V_drew)); exact HO_0.out) hb); have n1_ := Aside0.mk (Kd.R_below (by (with_reducible repeat (first | apply Kd.R_alloc | apply Kd.R_drewN | apply Kd.R_drew)); exact HO602.out) hb); have n2_ := Aside0.mk (blk_below (g := gb596) (o := .cells #[.int .u64 a1_0, .int .u64 a1_1, .int .u64 a1_2, .string (⟨#[]⟩ : ByteArray), .string a1_4] 24 (0, 0)) (by (with_reducible repeat (first | refine blk_drewN ?_ _ | refine blk_drew ?_ | refine blk_alloc ?_ _)); exact BK596.out) hb); have n3_ := Aside0.mk (below_step (by repeat (first | (with_reducible first | exact HB.out | apply below_alloc | apply pw_below_drewN | apply below_drew1 | refine below_set ?_ GE596.out) | exact HB.out)) hb); clear HO_0; clear HO602; clear BK596; clear HB; have HO_0 := n0_; have HO602 := n1_; have BK596 := n2_; have HB := n3_; clear n0_ n1_ n2_ n3_; (try clear hb); (try clear hb2); (try clear hk); (try clear hi)))
      go_meet
      case rel => exact ⟨_, (!t603), (by first | rfl | (simp; done) | (simp [*]; done) | (simp [nil_bne]; done)), H', ⟨by have := HJ2.out; first | omega | exact Nat.le_refl _⟩, ⟨by (with_reducible repeat (first | apply Kd.V_alloc | apply Kd.V_drewN | apply Kd.V_drew)); exact Kd.V_mono HO_0.out (fun _ hk => ⟨hk.1.1, hk.1.2⟩)⟩, ⟨by (with_reducible repeat (first | refine blk_drewN ?_ _ | refine blk_drew ?_ | refine blk_alloc ?_ _)); exact BK596.out⟩, ⟨by repeat (first | (with_reducible first | exact HB.out | apply below_alloc | apply pw_below_drewN | apply below_drew1 | refine below_set ?_ GE596.out) | exact HB.out)⟩⟩
     ·replace c17 := Bool.eq_false_iff.mpr c17
      subst c17
      have H1 : (laws_FnSemverTermsOpposite.j1 kj2 l0 true a1_0 a1_1 a1_2 (⟨#[]⟩ : ByteArray) a1_4) = some r := by rw [if_neg (show ¬ (false = true) by decide)] at H; exact H
      clear H
      have H := H1
      clear H1
      have H' := Aside0.mk H
      clear H
      go_wp2_with (first | ((with_reducible refine only_callee (f := 62) rfl ?_); refine goesL_ (some 18) rfl rfl Tryd.func62 (by kernel_rfl) rfl #[.slice A0 l0.length c0] rfl (by (try simp only [List.map_toArray, List.map_cons, List.map_nil]); first | done | rfl | (simp only [List.length_drop, List.length_take]; rfl)) ?_; (with_reducible refine (laws_scList.calls kj2 (fun k_ => ((P0_ k_ ∨ w.heap.size ≤ k_) ∧ k_ ≠ gb596)) _ _ l0 false _ ?side1 A16.out).mono ?_); (case side1 => exact HO_0.out); rintro e w25 ⟨rfl, hb⟩; refine ⟨_, rfl, ?_⟩; have n0_ := Aside0.mk (Kd.V_below (by (with_reducible repeat (first | apply Kd.V_alloc | apply Kd.V_drewN | apply Kd.V_drew)); exact HO_0.out) hb); have n1_ := Aside0.mk (blk_below (g := gb596) (o := .cells #[.int .u64 a1_0, .int .u64 a1_1, .int .u64 a1_2, .string (⟨#[]⟩ : ByteArray), .string a1_4] 24 (0, 0)) (by (with_reducible repeat (first | refine blk_drewN ?_ _ | refine blk_drew ?_ | refine blk_alloc ?_ _)); exact BK596.out) hb); have n2_ := Aside0.mk (below_step (by repeat (first | (with_reducible first | exact HB.out | apply below_alloc | apply pw_below_drewN | apply below_drew1 | refine below_set ?_ GE596.out) | exact HB.out)) hb); clear HO_0; clear BK596; clear HB; have HO_0 := n0_; have BK596 := n1_; have HB := n2_; clear n0_ n1_ n2_; (try clear hb); (try clear hb2); (try clear hk); (try clear hi)))
      go_meet
      case rel => exact ⟨_, (true), (by first | rfl | (simp; done) | (simp [*]; done) | (simp [nil_bne]; done)), H', ⟨by have := HJ2.out; first | omega | exact Nat.le_refl _⟩, ⟨by (with_reducible repeat (first | apply Kd.V_alloc | apply Kd.V_drewN | apply Kd.V_drew)); exact HO_0.out⟩, ⟨by (with_reducible repeat (first | refine blk_drewN ?_ _ | refine blk_drew ?_ | refine blk_alloc ?_ _)); exact BK596.out⟩, ⟨by repeat (first | (with_reducible first | exact HB.out | apply below_alloc | apply pw_below_drewN | apply below_drew1 | refine below_set ?_ GE596.out) | exact HB.out)⟩⟩
    case rest =>
     clear HC13
     try clear c1
     try clear p2
     try clear c5
     try clear c6
     try clear c12
     try clear c16
     try clear c17
     try clear hcz14_0
     try clear hcz14_1
     try clear hcz14_2
     try clear hcz14_3
     try clear hcz14_4
     try clear hcz20_0
     try clear hcz20_1
     try clear hcz20_2
     try clear hcz20_3
     try clear hcz20_4
     try clear hcz9_0
     try clear hcz9_1
     try clear hcz9_2
     try clear hcz9_3
     try clear hcz9_4
     try clear hfz14_0
     try clear hfz14_1
     try clear hfz14_2
     try clear hfz14_3
     try clear hfz14_4
     try clear hfz20_0
     try clear hfz20_1
     try clear hfz20_2
     try clear hfz20_3
     try clear hfz20_4
     try clear hfz9_0
     try clear hfz9_1
     try clear hfz9_2
     try clear hfz9_3
     try clear hfz9_4
     try clear p2
     obtain ⟨kq, x25_12, rfl, HA, HJ12, HO_0, BK596, HB⟩ := hcut
     cases kq with
     | zero => exact absurd HA.out (by simp [laws_FnSemverTermsOpposite.j1])
     | succ kj12 =>
      have H := HA.out
      clear HA
      simp only [laws_FnSemverTermsOpposite.j1] at H
      by_cases c26 : x25_12 = true
      ·subst c26
       have H1 : (some true) = some r := by rw [if_pos rfl] at H; exact H
       clear H
       have H := H1
       clear H1
       obtain rfl := Option.some.inj H
       go_wp2
       go_ret
       exact ⟨by first | rfl | (simp [errW_none, errW_some] <;> rfl) | (simp [*, errW_none, errW_some] <;> rfl), by repeat (first | (with_reducible first | exact HB.out | apply below_alloc | apply pw_below_drewN | apply below_drew1 | refine below_set ?_ GE596.out) | exact HB.out)⟩
      ·replace c26 := Bool.eq_false_iff.mpr c26
       subst c26
       have H1 : (laws_FnSemverTermsOpposite.l0 kj12 l0 ([] : List (List (S36))) l0 (l0.length : Int) 0 a1_0 a1_1 a1_2 (⟨#[]⟩ : ByteArray) a1_4) = some r := by rw [if_neg (show ¬ (false = true) by decide)] at H; exact H
       clear H
       have H := H1
       clear H1
       have H' := Aside0.mk H
       clear H
       go_wp2
       go_loopg [5, 28] kj12 (fun kq v5 v28 w' => ∃ (x5_3 : List (List (S36))) (x28_3 : Int), v28 = .int .i64 x28_3 ∧ Aside0 (laws_FnSemverTermsOpposite.l0 kq l0 x5_3 l0 (l0.length : Int) x28_3 a1_0 a1_1 a1_2 (⟨#[]⟩ : ByteArray) a1_4 = some r) ∧ Aside0 (kq ≤ kj12) ∧ Aside0 (Kd.V k36 36 w' w.heap.size (fun k_ => (P0_ k_ ∨ w.heap.size ≤ k_) ∧ some k_ ≠ (v5 : Value).ownBlock ∧ k_ ≠ gb596) (.slice A0 l0.length c0) l0) ∧ Aside0 (Kd.N (Kd.slice 36 k36) 65 w' w.heap.size (fun k_ => (P0_ k_ ∨ w.heap.size ≤ k_) ∧ k_ ≠ gb596) v5 x5_3) ∧ Aside0 (Kd.V k36 36 w' w.heap.size (fun k_ => (P0_ k_ ∨ w.heap.size ≤ k_) ∧ some k_ ≠ (v5 : Value).ownBlock ∧ k_ ≠ gb596) (.slice A0 l0.length c0) l0) ∧ Aside0 (w'.heap[gb596]? = some (.cells #[.int .u64 a1_0, .int .u64 a1_1, .int .u64 a1_2, .string (⟨#[]⟩ : ByteArray), .string a1_4] 24 (0, 0))) ∧ Aside0 (Below w.heap.size w w'))
       case atStart => exact ⟨(([] : List (List (S36)))), (0), (by first | rfl | (simp; done) | (simp [*]; done) | (simp [nil_bne]; done)), H', ⟨Nat.le_refl _⟩, ⟨by (with_reducible repeat (first | apply Kd.V_alloc | apply Kd.V_drewN | apply Kd.V_drew)); exact Kd.V_mono HO_0.out (fun _ hk => ⟨hk.1, ⟨(by simp [Value.ownBlock]), hk.2⟩⟩)⟩, ⟨by first | exact Kd.S_nil _ _ _ _ _ | exact Kd.N_nil _ _ _ _ _ | exact Kd.V_nil _ _ _ _ _ | exact Kd.Q_nil _ _ _ _ _ | exact Kd.R_nil _ _ _ _ _⟩, ⟨by (with_reducible repeat (first | apply Kd.V_alloc | apply Kd.V_drewN | apply Kd.V_drew)); exact Kd.V_mono HO_0.out (fun _ hk => ⟨hk.1, ⟨(by simp [Value.ownBlock]), hk.2⟩⟩)⟩, ⟨by (with_reducible repeat (first | refine blk_drewN ?_ _ | refine blk_drew ?_ | refine blk_alloc ?_ _)); exact BK596.out⟩, ⟨by repeat (first | (with_reducible first | exact HB.out | apply below_alloc | apply pw_below_drewN | apply below_drew1 | refine below_set ?_ GE596.out) | exact HB.out)⟩⟩
       case round =>
        clear H'
        try clear c1
        try clear c2
        try clear p2
        try clear c5
        try clear c6
        try clear c12
        try clear c16
        try clear c17
        try clear c26
        try clear hcz14_0
        try clear hcz14_1
        try clear hcz14_2
        try clear hcz14_3
        try clear hcz14_4
        try clear hcz20_0
        try clear hcz20_1
        try clear hcz20_2
        try clear hcz20_3
        try clear hcz20_4
        try clear hcz9_0
        try clear hcz9_1
        try clear hcz9_2
        try clear hcz9_3
        try clear hcz9_4
        try clear hfz14_0
        try clear hfz14_1
        try clear hfz14_2
        try clear hfz14_3
        try clear hfz14_4
        try clear hfz20_0
        try clear hfz20_1
        try clear hfz20_2
        try clear hfz20_3
        try clear hfz20_4
        try clear hfz9_0
        try clear hfz9_1
        try clear hfz9_2
        try clear hfz9_3
        try clear hfz9_4
        try clear p2
        obtain ⟨x5_3, x28_3, rfl, HA, HK3, HO_0, HO_5, HO_26, BK596, HB⟩ := hrel
        cases gk with
        | zero => exact absurd HA.out (by simp [laws_FnSemverTermsOpposite.l0])
        | succ k3 =>
         have H := HA.out
         clear HA
         simp only [laws_FnSemverTermsOpposite.l0] at H
         by_cases c27 : x28_3 < (l0.length : Int)
         ·rw [if_pos c27] at H
          have c27b0 : decide (x28_3 < (l0.length : Int)) = true := decide_eq_true c27
          clear c27
          by_cases c28 : 0 ≤ x28_3
          ·rw [if_pos c28] at H
           have c28b0 : decide (0 ≤ x28_3) = true := decide_eq_true c28
           clear c28
           by_cases c29 : x28_3 < (l0.length : Int)
           ·rw [if_pos c29] at H
            have c29b0 : decide (x28_3 < (l0.length : Int)) = true := decide_eq_true c29
            clear c29
            by_cases c30 : ((rd_T36 l0 x28_3).f1) = 0
            ·rw [if_pos c30] at H
             have c30b0 : (((rd_T36 l0 x28_3).f1) == 0) = true := beq_iff_eq.mpr c30
             have c30b1 : (((rd_T36 l0 x28_3).f1) != 0) = false := bne_eq_false_iff_eq.mpr c30
             clear c30
             obtain rfl := Option.some.inj H
             have p604 : 0 ≤ (x28_3 : Int) := of_decide_eq_true (by first | (with_reducible assumption) | assumption)
             have q604 : x28_3 < (l0.length : Int) := of_decide_eq_true (by first | (with_reducible assumption) | assumption)
             obtain ⟨ad604, e604, hx604_0, hx604_1, hx604_2, hx604_3, hx604_4, hx604_5⟩ := at_T36 (Kd.V_reads' HO_26.out).2.2 x28_3 p604 q604
             cases e604
             replace p604 := eq_true p604
             replace q604 := eq_true q604
             go_wp2_with (first | ((with_reducible refine gate_dst (N := 7) rfl ?_); (try (refine gate_guard (by rfl) ?_; dsimp only)); refine box_event ?hg (N := 7) ?hd (cs := #[.int .i64 0, .int .i64 0, .int .u64 0, .int .u64 0, .int .u64 0, .string (⟨#[]⟩ : ByteArray)]) (t := 36) ?hr ?_; (case hd => rfl); (case hg => rfl); (case hr => first | (go_simp; done) | (go_simp; rfl)); intro gb605 hg w31 hbox hb; have n0_ := Aside0.mk (Kd.V_below (Kd.V_elderB (by (with_reducible repeat (first | apply Kd.V_alloc | apply Kd.V_drewN | apply Kd.V_drew)); exact HO_0.out) gb605 (Nat.le_of_eq hg.symm)) hb); have n1_ := Aside0.mk (Kd.N_below (Kd.N_elderB (by (with_reducible repeat (first | apply Kd.N_alloc | apply Kd.N_drewN | apply Kd.N_drew)); exact HO_5.out) gb605 (Nat.le_of_eq hg.symm)) hb); have n2_ := Aside0.mk (Kd.V_below (Kd.V_elderB (by (with_reducible repeat (first | apply Kd.V_alloc | apply Kd.V_drewN | apply Kd.V_drew)); exact HO_26.out) gb605 (Nat.le_of_eq hg.symm)) hb); have n3_ := Aside0.mk (blk_below (g := gb596) (o := .cells #[.int .u64 a1_0, .int .u64 a1_1, .int .u64 a1_2, .string (⟨#[]⟩ : ByteArray), .string a1_4] 24 (0, 0)) (by (with_reducible repeat (first | refine blk_drewN ?_ _ | refine blk_drew ?_ | refine blk_alloc ?_ _)); exact BK596.out) hb); have n4_ := Aside0.mk (below_step (by repeat (first | (with_reducible first | exact HB.out | apply below_alloc | apply pw_below_drewN | apply below_drew1 | refine below_set ?_ GE596.out) | exact HB.out)) hb); have n5_ := Aside0.mk (hbox); have n6_ := Aside0.mk ((by rw [hg]; exact (below_size (by repeat (first | (with_reducible first | exact HB.out | apply below_alloc | apply pw_below_drewN | apply below_drew1 | refine below_set ?_ GE596.out) | exact HB.out))) : w.heap.size ≤ gb605)); have n7_ := Aside0.mk ((by rw [hg]; exact (below_size (by repeat (first | (with_reducible first | exact HB.out | apply below_alloc | apply pw_below_drewN | apply below_drew1 | refine below_set ?_ GE596.out) | exact HB.out))) : w.heap.size ≤ gb605)); have n8_ := Aside0.mk ((by rw [hg]; exact Nat.ne_of_lt (blk_lt (g := gb596) (o := .cells #[.int .u64 a1_0, .int .u64 a1_1, .int .u64 a1_2, .string (⟨#[]⟩ : ByteArray), .string a1_4] 24 (0, 0)) (by (with_reducible repeat (first | refine blk_drewN ?_ _ | refine blk_drew ?_ | refine blk_alloc ?_ _)); exact BK596.out)) : gb596 ≠ gb605)); have n9_ := Aside0.mk ((by rw [hg]; exact Nat.ne_of_gt (blk_lt (g := gb596) (o := .cells #[.int .u64 a1_0, .int .u64 a1_1, .int .u64 a1_2, .string (⟨#[]⟩ : ByteArray), .string a1_4] 24 (0, 0)) (by (with_reducible repeat (first | refine blk_drewN ?_ _ | refine blk_drew ?_ | refine blk_alloc ?_ _)); exact BK596.out)) : gb605 ≠ gb596)); clear HO_0; clear HO_5; clear HO_26; clear BK596; clear HB; have HO_0 := n0_; have HO_5 := n1_; have HO_26 := n2_; have BK596 := n3_; have HB := n4_; have BK605 := n5_; have GW605 := n6_; have GE605 := n7_; have NB596_605 := n8_; have NB605_596 := n9_; clear n0_ n1_ n2_ n3_ n4_ n5_ n6_ n7_ n8_ n9_; clear hb hbox hg; have hnb32 := NB605_596.out; have hnc32 := NB596_605.out; have hcz33_0 : w31.cell? ⟨gb605, 0, none⟩ = some (.int .i64 0) := (blk_cell BK605.out 0).trans rfl; have hcz33_1 : w31.cell? ⟨gb605, 1, none⟩ = some (.int .i64 0) := (blk_cell BK605.out 1).trans rfl; have hcz33_2 : w31.cell? ⟨gb605, 2, none⟩ = some (.int .u64 0) := (blk_cell BK605.out 2).trans rfl; have hcz33_3 : w31.cell? ⟨gb605, 3, none⟩ = some (.int .u64 0) := (blk_cell BK605.out 3).trans rfl; have hcz33_4 : w31.cell? ⟨gb605, 4, none⟩ = some (.int .u64 0) := (blk_cell BK605.out 4).trans rfl; have hcz33_5 : w31.cell? ⟨gb605, 5, none⟩ = some (.string (⟨#[]⟩ : ByteArray)) := (blk_cell BK605.out 5).trans rfl; have hfz33_0 := blk_frozen BK605.out 0; have hfz33_1 := blk_frozen BK605.out 1; have hfz33_2 := blk_frozen BK605.out 2; have hfz33_3 := blk_frozen BK605.out 3; have hfz33_4 := blk_frozen BK605.out 4; have hfz33_5 := blk_frozen BK605.out 5) | ((with_reducible refine gate_store (t := 36) (p := 7) rfl ?_); refine store_event (t := 36) (p := 7) (v := ?vo_w34) (w1 := ((((((w31.setCell ⟨gb605, 0, none⟩ (.int .i64 ((rd_T36 l0 x28_3).f0))).setCell ⟨gb605, 1, none⟩ (.int .i64 ((rd_T36 l0 x28_3).f1))).setCell ⟨gb605, 2, none⟩ (.int .u64 ((rd_T36 l0 x28_3).f2))).setCell ⟨gb605, 3, none⟩ (.int .u64 ((rd_T36 l0 x28_3).f3))).setCell ⟨gb605, 4, none⟩ (.int .u64 ((rd_T36 l0 x28_3).f4))).setCell ⟨gb605, 5, none⟩ (.string ((rd_T36 l0 x28_3).f5)))) ?hg ?ho ?hn ?hr ?_; (case ho => rfl); (case hg => rfl); (case hn => rfl); (case hr => first | (go_simp; done) | (go_simp; rfl)); intro w34 hw; have n0_ : Aside0 (Kd.V k36 36 w34 w.heap.size (fun k_ => (P0_ k_ ∨ w.heap.size ≤ k_) ∧ some k_ ≠ (u5 : Value).ownBlock ∧ k_ ≠ gb596 ∧ k_ ≠ gb605) (.slice (some ad604) l0.length c0) l0) := ⟨(by rw [hw]; exact (by (with_reducible repeat (first | apply Kd.V_alloc | apply Kd.V_drewN | apply Kd.V_drew)); exact Kd.V_mono (Kd.V_far (p := ⟨gb605, 5, none⟩) (Kd.V_far (p := ⟨gb605, 4, none⟩) (Kd.V_far (p := ⟨gb605, 3, none⟩) (Kd.V_far (p := ⟨gb605, 2, none⟩) (Kd.V_far (p := ⟨gb605, 1, none⟩) (Kd.V_far (p := ⟨gb605, 0, none⟩) (Kd.V_mono HO_0.out (fun k_ hk => (⟨hk, hk.2⟩ : _ ∧ k_ ≠ gb605))) (fun _ hk => hk.2) (.int .i64 ((rd_T36 l0 x28_3).f0))) (fun _ hk => hk.2) (.int .i64 ((rd_T36 l0 x28_3).f1))) (fun _ hk => hk.2) (.int .u64 ((rd_T36 l0 x28_3).f2))) (fun _ hk => hk.2) (.int .u64 ((rd_T36 l0 x28_3).f3))) (fun _ hk => hk.2) (.int .u64 ((rd_T36 l0 x28_3).f4))) (fun _ hk => hk.2) (.string ((rd_T36 l0 x28_3).f5))) (fun _ hk => ⟨hk.1.1.1, ⟨hk.1.1.2.1, ⟨hk.1.1.2.2, hk.1.2⟩⟩⟩)))⟩; have n1_ : Aside0 (Kd.N (Kd.slice 36 k36) 65 w34 w.heap.size (fun k_ => (P0_ k_ ∨ w.heap.size ≤ k_) ∧ k_ ≠ gb596 ∧ k_ ≠ gb605) u5 x5_3) := ⟨(by rw [hw]; exact (by (with_reducible repeat (first | apply Kd.N_alloc | apply Kd.N_drewN | apply Kd.N_drew)); exact Kd.N_mono (Kd.N_far (p := ⟨gb605, 5, none⟩) (Kd.N_far (p := ⟨gb605, 4, none⟩) (Kd.N_far (p := ⟨gb605, 3, none⟩) (Kd.N_far (p := ⟨gb605, 2, none⟩) (Kd.N_far (p := ⟨gb605, 1, none⟩) (Kd.N_far (p := ⟨gb605, 0, none⟩) (Kd.N_mono HO_5.out (fun k_ hk => (⟨hk, hk.2⟩ : _ ∧ k_ ≠ gb605))) (fun _ hk => hk.2) (.int .i64 ((rd_T36 l0 x28_3).f0))) (fun _ hk => hk.2) (.int .i64 ((rd_T36 l0 x28_3).f1))) (fun _ hk => hk.2) (.int .u64 ((rd_T36 l0 x28_3).f2))) (fun _ hk => hk.2) (.int .u64 ((rd_T36 l0 x28_3).f3))) (fun _ hk => hk.2) (.int .u64 ((rd_T36 l0 x28_3).f4))) (fun _ hk => hk.2) (.string ((rd_T36 l0 x28_3).f5))) (fun _ hk => ⟨hk.1.1.1, ⟨hk.1.1.2, hk.1.2⟩⟩)))⟩; have n2_ : Aside0 (Kd.V k36 36 w34 w.heap.size (fun k_ => (P0_ k_ ∨ w.heap.size ≤ k_) ∧ some k_ ≠ (u5 : Value).ownBlock ∧ k_ ≠ gb596 ∧ k_ ≠ gb605) (.slice (some ad604) l0.length c0) l0) := ⟨(by rw [hw]; exact (by (with_reducible repeat (first | apply Kd.V_alloc | apply Kd.V_drewN | apply Kd.V_drew)); exact Kd.V_mono (Kd.V_far (p := ⟨gb605, 5, none⟩) (Kd.V_far (p := ⟨gb605, 4, none⟩) (Kd.V_far (p := ⟨gb605, 3, none⟩) (Kd.V_far (p := ⟨gb605, 2, none⟩) (Kd.V_far (p := ⟨gb605, 1, none⟩) (Kd.V_far (p := ⟨gb605, 0, none⟩) (Kd.V_mono HO_26.out (fun k_ hk => (⟨hk, hk.2⟩ : _ ∧ k_ ≠ gb605))) (fun _ hk => hk.2) (.int .i64 ((rd_T36 l0 x28_3).f0))) (fun _ hk => hk.2) (.int .i64 ((rd_T36 l0 x28_3).f1))) (fun _ hk => hk.2) (.int .u64 ((rd_T36 l0 x28_3).f2))) (fun _ hk => hk.2) (.int .u64 ((rd_T36 l0 x28_3).f3))) (fun _ hk => hk.2) (.int .u64 ((rd_T36 l0 x28_3).f4))) (fun _ hk => hk.2) (.string ((rd_T36 l0 x28_3).f5))) (fun _ hk => ⟨hk.1.1.1, ⟨hk.1.1.2.1, ⟨hk.1.1.2.2, hk.1.2⟩⟩⟩)))⟩; have n3_ : Aside0 (w34.heap[gb596]? = some (.cells #[.int .u64 a1_0, .int .u64 a1_1, .int .u64 a1_2, .string (⟨#[]⟩ : ByteArray), .string a1_4] 24 (0, 0))) := ⟨(by rw [hw]; exact (by (with_reducible repeat (first | refine blk_drewN ?_ _ | refine blk_drew ?_ | refine blk_alloc ?_ _)); refine blk_far ?_ NB596_605.out _; (with_reducible repeat (first | refine blk_drewN ?_ _ | refine blk_drew ?_ | refine blk_alloc ?_ _)); refine blk_far ?_ NB596_605.out _; (with_reducible repeat (first | refine blk_drewN ?_ _ | refine blk_drew ?_ | refine blk_alloc ?_ _)); refine blk_far ?_ NB596_605.out _; (with_reducible repeat (first | refine blk_drewN ?_ _ | refine blk_drew ?_ | refine blk_alloc ?_ _)); refine blk_far ?_ NB596_605.out _; (with_reducible repeat (first | refine blk_drewN ?_ _ | refine blk_drew ?_ | refine blk_alloc ?_ _)); refine blk_far ?_ NB596_605.out _; (with_reducible repeat (first | refine blk_drewN ?_ _ | refine blk_drew ?_ | refine blk_alloc ?_ _)); refine blk_far ?_ NB596_605.out _; (with_reducible repeat (first | refine blk_drewN ?_ _ | refine blk_drew ?_ | refine blk_alloc ?_ _)); exact BK596.out))⟩; have n4_ : Aside0 (w34.heap[gb605]? = some (.cells #[.int .i64 ((rd_T36 l0 x28_3).f0), .int .i64 ((rd_T36 l0 x28_3).f1), .int .u64 ((rd_T36 l0 x28_3).f2), .int .u64 ((rd_T36 l0 x28_3).f3), .int .u64 ((rd_T36 l0 x28_3).f4), .string ((rd_T36 l0 x28_3).f5)] 36 (0, 0))) := ⟨(by rw [hw]; exact (by (with_reducible repeat (first | refine blk_drewN ?_ _ | refine blk_drew ?_ | refine blk_alloc ?_ _)); refine blk_put (cs := #[.int .i64 ((rd_T36 l0 x28_3).f0), .int .i64 ((rd_T36 l0 x28_3).f1), .int .u64 ((rd_T36 l0 x28_3).f2), .int .u64 ((rd_T36 l0 x28_3).f3), .int .u64 ((rd_T36 l0 x28_3).f4), .string (⟨#[]⟩ : ByteArray)]) ?_ 5 _ rfl; (with_reducible repeat (first | refine blk_drewN ?_ _ | refine blk_drew ?_ | refine blk_alloc ?_ _)); refine blk_put (cs := #[.int .i64 ((rd_T36 l0 x28_3).f0), .int .i64 ((rd_T36 l0 x28_3).f1), .int .u64 ((rd_T36 l0 x28_3).f2), .int .u64 ((rd_T36 l0 x28_3).f3), .int .u64 0, .string (⟨#[]⟩ : ByteArray)]) ?_ 4 _ rfl; (with_reducible repeat (first | refine blk_drewN ?_ _ | refine blk_drew ?_ | refine blk_alloc ?_ _)); refine blk_put (cs := #[.int .i64 ((rd_T36 l0 x28_3).f0), .int .i64 ((rd_T36 l0 x28_3).f1), .int .u64 ((rd_T36 l0 x28_3).f2), .int .u64 0, .int .u64 0, .string (⟨#[]⟩ : ByteArray)]) ?_ 3 _ rfl; (with_reducible repeat (first | refine blk_drewN ?_ _ | refine blk_drew ?_ | refine blk_alloc ?_ _)); refine blk_put (cs := #[.int .i64 ((rd_T36 l0 x28_3).f0), .int .i64 ((rd_T36 l0 x28_3).f1), .int .u64 0, .int .u64 0, .int .u64 0, .string (⟨#[]⟩ : ByteArray)]) ?_ 2 _ rfl; (with_reducible repeat (first | refine blk_drewN ?_ _ | refine blk_drew ?_ | refine blk_alloc ?_ _)); refine blk_put (cs := #[.int .i64 ((rd_T36 l0 x28_3).f0), .int .i64 0, .int .u64 0, .int .u64 0, .int .u64 0, .string (⟨#[]⟩ : ByteArray)]) ?_ 1 _ rfl; (with_reducible repeat (first | refine blk_drewN ?_ _ | refine blk_drew ?_ | refine blk_alloc ?_ _)); refine blk_put (cs := #[.int .i64 0, .int .i64 0, .int .u64 0, .int .u64 0, .int .u64 0, .string (⟨#[]⟩ : ByteArray)]) ?_ 0 _ rfl; (with_reducible repeat (first | refine blk_drewN ?_ _ | refine blk_drew ?_ | refine blk_alloc ?_ _)); exact BK605.out))⟩; have n5_ : Aside0 (Below w.heap.size w w34) := ⟨(by rw [hw]; exact (by repeat (first | (with_reducible first | exact HB.out | apply below_alloc | apply pw_below_drewN | apply below_drew1 | refine below_set ?_ GE596.out | refine below_set ?_ GE605.out) | exact HB.out)))⟩; clear hw; clear HO_0; clear HO_5; clear HO_26; clear BK596; clear BK605; clear HB; have HO_0 := n0_; have HO_5 := n1_; have HO_26 := n2_; have BK596 := n3_; have BK605 := n4_; have HB := n5_; clear n0_ n1_ n2_ n3_ n4_ n5_; have hcz35_0 : w34.cell? ⟨gb605, 0, none⟩ = some (.int .i64 ((rd_T36 l0 x28_3).f0)) := (blk_cell BK605.out 0).trans rfl; have hcz35_1 : w34.cell? ⟨gb605, 1, none⟩ = some (.int .i64 ((rd_T36 l0 x28_3).f1)) := (blk_cell BK605.out 1).trans rfl; have hcz35_2 : w34.cell? ⟨gb605, 2, none⟩ = some (.int .u64 ((rd_T36 l0 x28_3).f2)) := (blk_cell BK605.out 2).trans rfl; have hcz35_3 : w34.cell? ⟨gb605, 3, none⟩ = some (.int .u64 ((rd_T36 l0 x28_3).f3)) := (blk_cell BK605.out 3).trans rfl; have hcz35_4 : w34.cell? ⟨gb605, 4, none⟩ = some (.int .u64 ((rd_T36 l0 x28_3).f4)) := (blk_cell BK605.out 4).trans rfl; have hcz35_5 : w34.cell? ⟨gb605, 5, none⟩ = some (.string ((rd_T36 l0 x28_3).f5)) := (blk_cell BK605.out 5).trans rfl; have hfz35_0 := blk_frozen BK605.out 0; have hfz35_1 := blk_frozen BK605.out 1; have hfz35_2 := blk_frozen BK605.out 2; have hfz35_3 := blk_frozen BK605.out 3; have hfz35_4 := blk_frozen BK605.out 4; have hfz35_5 := blk_frozen BK605.out 5))
             go_ret
             exact ⟨by first | rfl | (simp [errW_none, errW_some] <;> rfl) | (simp [*, errW_none, errW_some] <;> rfl), by repeat (first | (with_reducible first | exact HB.out | apply below_alloc | apply pw_below_drewN | apply below_drew1 | refine below_set ?_ GE596.out | refine below_set ?_ GE605.out) | exact HB.out)⟩
            ·rw [if_neg c30] at H
             have c30b0 : (((rd_T36 l0 x28_3).f1) == 0) = false := beq_eq_false_iff_ne.mpr c30
             have c30b1 : (((rd_T36 l0 x28_3).f1) != 0) = true := bne_iff_ne.mpr c30
             by_cases c36 : ((rd_T36 l0 x28_3).f0) = 6
             ·rw [if_pos c36] at H
              have c36b0 : (((rd_T36 l0 x28_3).f0) == 6) = true := beq_iff_eq.mpr c36
              have c36b1 : (((rd_T36 l0 x28_3).f0) != 6) = false := bne_eq_false_iff_eq.mpr c36
              clear c36
              obtain rfl := Option.some.inj H
              have p604 : 0 ≤ (x28_3 : Int) := of_decide_eq_true (by first | (with_reducible assumption) | assumption)
              have q604 : x28_3 < (l0.length : Int) := of_decide_eq_true (by first | (with_reducible assumption) | assumption)
              obtain ⟨ad604, e604, hx604_0, hx604_1, hx604_2, hx604_3, hx604_4, hx604_5⟩ := at_T36 (Kd.V_reads' HO_26.out).2.2 x28_3 p604 q604
              cases e604
              replace p604 := eq_true p604
              replace q604 := eq_true q604
              go_wp2_with (first | ((with_reducible refine gate_dst (N := 7) rfl ?_); (try (refine gate_guard (by rfl) ?_; dsimp only)); refine box_event ?hg (N := 7) ?hd (cs := #[.int .i64 0, .int .i64 0, .int .u64 0, .int .u64 0, .int .u64 0, .string (⟨#[]⟩ : ByteArray)]) (t := 36) ?hr ?_; (case hd => rfl); (case hg => rfl); (case hr => first | (go_simp; done) | (go_simp; rfl)); intro gb605 hg w37 hbox hb; have n0_ := Aside0.mk (Kd.V_below (Kd.V_elderB (by (with_reducible repeat (first | apply Kd.V_alloc | apply Kd.V_drewN | apply Kd.V_drew)); exact HO_0.out) gb605 (Nat.le_of_eq hg.symm)) hb); have n1_ := Aside0.mk (Kd.N_below (Kd.N_elderB (by (with_reducible repeat (first | apply Kd.N_alloc | apply Kd.N_drewN | apply Kd.N_drew)); exact HO_5.out) gb605 (Nat.le_of_eq hg.symm)) hb); have n2_ := Aside0.mk (Kd.V_below (Kd.V_elderB (by (with_reducible repeat (first | apply Kd.V_alloc | apply Kd.V_drewN | apply Kd.V_drew)); exact HO_26.out) gb605 (Nat.le_of_eq hg.symm)) hb); have n3_ := Aside0.mk (blk_below (g := gb596) (o := .cells #[.int .u64 a1_0, .int .u64 a1_1, .int .u64 a1_2, .string (⟨#[]⟩ : ByteArray), .string a1_4] 24 (0, 0)) (by (with_reducible repeat (first | refine blk_drewN ?_ _ | refine blk_drew ?_ | refine blk_alloc ?_ _)); exact BK596.out) hb); have n4_ := Aside0.mk (below_step (by repeat (first | (with_reducible first | exact HB.out | apply below_alloc | apply pw_below_drewN | apply below_drew1 | refine below_set ?_ GE596.out) | exact HB.out)) hb); have n5_ := Aside0.mk (hbox); have n6_ := Aside0.mk ((by rw [hg]; exact (below_size (by repeat (first | (with_reducible first | exact HB.out | apply below_alloc | apply pw_below_drewN | apply below_drew1 | refine below_set ?_ GE596.out) | exact HB.out))) : w.heap.size ≤ gb605)); have n7_ := Aside0.mk ((by rw [hg]; exact (below_size (by repeat (first | (with_reducible first | exact HB.out | apply below_alloc | apply pw_below_drewN | apply below_drew1 | refine below_set ?_ GE596.out) | exact HB.out))) : w.heap.size ≤ gb605)); have n8_ := Aside0.mk ((by rw [hg]; exact Nat.ne_of_lt (blk_lt (g := gb596) (o := .cells #[.int .u64 a1_0, .int .u64 a1_1, .int .u64 a1_2, .string (⟨#[]⟩ : ByteArray), .string a1_4] 24 (0, 0)) (by (with_reducible repeat (first | refine blk_drewN ?_ _ | refine blk_drew ?_ | refine blk_alloc ?_ _)); exact BK596.out)) : gb596 ≠ gb605)); have n9_ := Aside0.mk ((by rw [hg]; exact Nat.ne_of_gt (blk_lt (g := gb596) (o := .cells #[.int .u64 a1_0, .int .u64 a1_1, .int .u64 a1_2, .string (⟨#[]⟩ : ByteArray), .string a1_4] 24 (0, 0)) (by (with_reducible repeat (first | refine blk_drewN ?_ _ | refine blk_drew ?_ | refine blk_alloc ?_ _)); exact BK596.out)) : gb605 ≠ gb596)); clear HO_0; clear HO_5; clear HO_26; clear BK596; clear HB; have HO_0 := n0_; have HO_5 := n1_; have HO_26 := n2_; have BK596 := n3_; have HB := n4_; have BK605 := n5_; have GW605 := n6_; have GE605 := n7_; have NB596_605 := n8_; have NB605_596 := n9_; clear n0_ n1_ n2_ n3_ n4_ n5_ n6_ n7_ n8_ n9_; clear hb hbox hg; have hnb38 := NB605_596.out; have hnc38 := NB596_605.out; have hcz39_0 : w37.cell? ⟨gb605, 0, none⟩ = some (.int .i64 0) := (blk_cell BK605.out 0).trans rfl; have hcz39_1 : w37.cell? ⟨gb605, 1, none⟩ = some (.int .i64 0) := (blk_cell BK605.out 1).trans rfl; have hcz39_2 : w37.cell? ⟨gb605, 2, none⟩ = some (.int .u64 0) := (blk_cell BK605.out 2).trans rfl; have hcz39_3 : w37.cell? ⟨gb605, 3, none⟩ = some (.int .u64 0) := (blk_cell BK605.out 3).trans rfl; have hcz39_4 : w37.cell? ⟨gb605, 4, none⟩ = some (.int .u64 0) := (blk_cell BK605.out 4).trans rfl; have hcz39_5 : w37.cell? ⟨gb605, 5, none⟩ = some (.string (⟨#[]⟩ : ByteArray)) := (blk_cell BK605.out 5).trans rfl; have hfz39_0 := blk_frozen BK605.out 0; have hfz39_1 := blk_frozen BK605.out 1; have hfz39_2 := blk_frozen BK605.out 2; have hfz39_3 := blk_frozen BK605.out 3; have hfz39_4 := blk_frozen BK605.out 4; have hfz39_5 := blk_frozen BK605.out 5) | ((with_reducible refine gate_store (t := 36) (p := 7) rfl ?_); refine store_event (t := 36) (p := 7) (v := ?vo_w40) (w1 := ((((((w37.setCell ⟨gb605, 0, none⟩ (.int .i64 ((rd_T36 l0 x28_3).f0))).setCell ⟨gb605, 1, none⟩ (.int .i64 ((rd_T36 l0 x28_3).f1))).setCell ⟨gb605, 2, none⟩ (.int .u64 ((rd_T36 l0 x28_3).f2))).setCell ⟨gb605, 3, none⟩ (.int .u64 ((rd_T36 l0 x28_3).f3))).setCell ⟨gb605, 4, none⟩ (.int .u64 ((rd_T36 l0 x28_3).f4))).setCell ⟨gb605, 5, none⟩ (.string ((rd_T36 l0 x28_3).f5)))) ?hg ?ho ?hn ?hr ?_; (case ho => rfl); (case hg => rfl); (case hn => rfl); (case hr => first | (go_simp; done) | (go_simp; rfl)); intro w40 hw; have n0_ : Aside0 (Kd.V k36 36 w40 w.heap.size (fun k_ => (P0_ k_ ∨ w.heap.size ≤ k_) ∧ some k_ ≠ (u5 : Value).ownBlock ∧ k_ ≠ gb596 ∧ k_ ≠ gb605) (.slice (some ad604) l0.length c0) l0) := ⟨(by rw [hw]; exact (by (with_reducible repeat (first | apply Kd.V_alloc | apply Kd.V_drewN | apply Kd.V_drew)); exact Kd.V_mono (Kd.V_far (p := ⟨gb605, 5, none⟩) (Kd.V_far (p := ⟨gb605, 4, none⟩) (Kd.V_far (p := ⟨gb605, 3, none⟩) (Kd.V_far (p := ⟨gb605, 2, none⟩) (Kd.V_far (p := ⟨gb605, 1, none⟩) (Kd.V_far (p := ⟨gb605, 0, none⟩) (Kd.V_mono HO_0.out (fun k_ hk => (⟨hk, hk.2⟩ : _ ∧ k_ ≠ gb605))) (fun _ hk => hk.2) (.int .i64 ((rd_T36 l0 x28_3).f0))) (fun _ hk => hk.2) (.int .i64 ((rd_T36 l0 x28_3).f1))) (fun _ hk => hk.2) (.int .u64 ((rd_T36 l0 x28_3).f2))) (fun _ hk => hk.2) (.int .u64 ((rd_T36 l0 x28_3).f3))) (fun _ hk => hk.2) (.int .u64 ((rd_T36 l0 x28_3).f4))) (fun _ hk => hk.2) (.string ((rd_T36 l0 x28_3).f5))) (fun _ hk => ⟨hk.1.1.1, ⟨hk.1.1.2.1, ⟨hk.1.1.2.2, hk.1.2⟩⟩⟩)))⟩; have n1_ : Aside0 (Kd.N (Kd.slice 36 k36) 65 w40 w.heap.size (fun k_ => (P0_ k_ ∨ w.heap.size ≤ k_) ∧ k_ ≠ gb596 ∧ k_ ≠ gb605) u5 x5_3) := ⟨(by rw [hw]; exact (by (with_reducible repeat (first | apply Kd.N_alloc | apply Kd.N_drewN | apply Kd.N_drew)); exact Kd.N_mono (Kd.N_far (p := ⟨gb605, 5, none⟩) (Kd.N_far (p := ⟨gb605, 4, none⟩) (Kd.N_far (p := ⟨gb605, 3, none⟩) (Kd.N_far (p := ⟨gb605, 2, none⟩) (Kd.N_far (p := ⟨gb605, 1, none⟩) (Kd.N_far (p := ⟨gb605, 0, none⟩) (Kd.N_mono HO_5.out (fun k_ hk => (⟨hk, hk.2⟩ : _ ∧ k_ ≠ gb605))) (fun _ hk => hk.2) (.int .i64 ((rd_T36 l0 x28_3).f0))) (fun _ hk => hk.2) (.int .i64 ((rd_T36 l0 x28_3).f1))) (fun _ hk => hk.2) (.int .u64 ((rd_T36 l0 x28_3).f2))) (fun _ hk => hk.2) (.int .u64 ((rd_T36 l0 x28_3).f3))) (fun _ hk => hk.2) (.int .u64 ((rd_T36 l0 x28_3).f4))) (fun _ hk => hk.2) (.string ((rd_T36 l0 x28_3).f5))) (fun _ hk => ⟨hk.1.1.1, ⟨hk.1.1.2, hk.1.2⟩⟩)))⟩; have n2_ : Aside0 (Kd.V k36 36 w40 w.heap.size (fun k_ => (P0_ k_ ∨ w.heap.size ≤ k_) ∧ some k_ ≠ (u5 : Value).ownBlock ∧ k_ ≠ gb596 ∧ k_ ≠ gb605) (.slice (some ad604) l0.length c0) l0) := ⟨(by rw [hw]; exact (by (with_reducible repeat (first | apply Kd.V_alloc | apply Kd.V_drewN | apply Kd.V_drew)); exact Kd.V_mono (Kd.V_far (p := ⟨gb605, 5, none⟩) (Kd.V_far (p := ⟨gb605, 4, none⟩) (Kd.V_far (p := ⟨gb605, 3, none⟩) (Kd.V_far (p := ⟨gb605, 2, none⟩) (Kd.V_far (p := ⟨gb605, 1, none⟩) (Kd.V_far (p := ⟨gb605, 0, none⟩) (Kd.V_mono HO_26.out (fun k_ hk => (⟨hk, hk.2⟩ : _ ∧ k_ ≠ gb605))) (fun _ hk => hk.2) (.int .i64 ((rd_T36 l0 x28_3).f0))) (fun _ hk => hk.2) (.int .i64 ((rd_T36 l0 x28_3).f1))) (fun _ hk => hk.2) (.int .u64 ((rd_T36 l0 x28_3).f2))) (fun _ hk => hk.2) (.int .u64 ((rd_T36 l0 x28_3).f3))) (fun _ hk => hk.2) (.int .u64 ((rd_T36 l0 x28_3).f4))) (fun _ hk => hk.2) (.string ((rd_T36 l0 x28_3).f5))) (fun _ hk => ⟨hk.1.1.1, ⟨hk.1.1.2.1, ⟨hk.1.1.2.2, hk.1.2⟩⟩⟩)))⟩; have n3_ : Aside0 (w40.heap[gb596]? = some (.cells #[.int .u64 a1_0, .int .u64 a1_1, .int .u64 a1_2, .string (⟨#[]⟩ : ByteArray), .string a1_4] 24 (0, 0))) := ⟨(by rw [hw]; exact (by (with_reducible repeat (first | refine blk_drewN ?_ _ | refine blk_drew ?_ | refine blk_alloc ?_ _)); refine blk_far ?_ NB596_605.out _; (with_reducible repeat (first | refine blk_drewN ?_ _ | refine blk_drew ?_ | refine blk_alloc ?_ _)); refine blk_far ?_ NB596_605.out _; (with_reducible repeat (first | refine blk_drewN ?_ _ | refine blk_drew ?_ | refine blk_alloc ?_ _)); refine blk_far ?_ NB596_605.out _; (with_reducible repeat (first | refine blk_drewN ?_ _ | refine blk_drew ?_ | refine blk_alloc ?_ _)); refine blk_far ?_ NB596_605.out _; (with_reducible repeat (first | refine blk_drewN ?_ _ | refine blk_drew ?_ | refine blk_alloc ?_ _)); refine blk_far ?_ NB596_605.out _; (with_reducible repeat (first | refine blk_drewN ?_ _ | refine blk_drew ?_ | refine blk_alloc ?_ _)); refine blk_far ?_ NB596_605.out _; (with_reducible repeat (first | refine blk_drewN ?_ _ | refine blk_drew ?_ | refine blk_alloc ?_ _)); exact BK596.out))⟩; have n4_ : Aside0 (w40.heap[gb605]? = some (.cells #[.int .i64 ((rd_T36 l0 x28_3).f0), .int .i64 ((rd_T36 l0 x28_3).f1), .int .u64 ((rd_T36 l0 x28_3).f2), .int .u64 ((rd_T36 l0 x28_3).f3), .int .u64 ((rd_T36 l0 x28_3).f4), .string ((rd_T36 l0 x28_3).f5)] 36 (0, 0))) := ⟨(by rw [hw]; exact (by (with_reducible repeat (first | refine blk_drewN ?_ _ | refine blk_drew ?_ | refine blk_alloc ?_ _)); refine blk_put (cs := #[.int .i64 ((rd_T36 l0 x28_3).f0), .int .i64 ((rd_T36 l0 x28_3).f1), .int .u64 ((rd_T36 l0 x28_3).f2), .int .u64 ((rd_T36 l0 x28_3).f3), .int .u64 ((rd_T36 l0 x28_3).f4), .string (⟨#[]⟩ : ByteArray)]) ?_ 5 _ rfl; (with_reducible repeat (first | refine blk_drewN ?_ _ | refine blk_drew ?_ | refine blk_alloc ?_ _)); refine blk_put (cs := #[.int .i64 ((rd_T36 l0 x28_3).f0), .int .i64 ((rd_T36 l0 x28_3).f1), .int .u64 ((rd_T36 l0 x28_3).f2), .int .u64 ((rd_T36 l0 x28_3).f3), .int .u64 0, .string (⟨#[]⟩ : ByteArray)]) ?_ 4 _ rfl; (with_reducible repeat (first | refine blk_drewN ?_ _ | refine blk_drew ?_ | refine blk_alloc ?_ _)); refine blk_put (cs := #[.int .i64 ((rd_T36 l0 x28_3).f0), .int .i64 ((rd_T36 l0 x28_3).f1), .int .u64 ((rd_T36 l0 x28_3).f2), .int .u64 0, .int .u64 0, .string (⟨#[]⟩ : ByteArray)]) ?_ 3 _ rfl; (with_reducible repeat (first | refine blk_drewN ?_ _ | refine blk_drew ?_ | refine blk_alloc ?_ _)); refine blk_put (cs := #[.int .i64 ((rd_T36 l0 x28_3).f0), .int .i64 ((rd_T36 l0 x28_3).f1), .int .u64 0, .int .u64 0, .int .u64 0, .string (⟨#[]⟩ : ByteArray)]) ?_ 2 _ rfl; (with_reducible repeat (first | refine blk_drewN ?_ _ | refine blk_drew ?_ | refine blk_alloc ?_ _)); refine blk_put (cs := #[.int .i64 ((rd_T36 l0 x28_3).f0), .int .i64 0, .int .u64 0, .int .u64 0, .int .u64 0, .string (⟨#[]⟩ : ByteArray)]) ?_ 1 _ rfl; (with_reducible repeat (first | refine blk_drewN ?_ _ | refine blk_drew ?_ | refine blk_alloc ?_ _)); refine blk_put (cs := #[.int .i64 0, .int .i64 0, .int .u64 0, .int .u64 0, .int .u64 0, .string (⟨#[]⟩ : ByteArray)]) ?_ 0 _ rfl; (with_reducible repeat (first | refine blk_drewN ?_ _ | refine blk_drew ?_ | refine blk_alloc ?_ _)); exact BK605.out))⟩; have n5_ : Aside0 (Below w.heap.size w w40) := ⟨(by rw [hw]; exact (by repeat (first | (with_reducible first | exact HB.out | apply below_alloc | apply pw_below_drewN | apply below_drew1 | refine below_set ?_ GE596.out | refine below_set ?_ GE605.out) | exact HB.out)))⟩; clear hw; clear HO_0; clear HO_5; clear HO_26; clear BK596; clear BK605; clear HB; have HO_0 := n0_; have HO_5 := n1_; have HO_26 := n2_; have BK596 := n3_; have BK605 := n4_; have HB := n5_; clear n0_ n1_ n2_ n3_ n4_ n5_; have hcz41_0 : w40.cell? ⟨gb605, 0, none⟩ = some (.int .i64 ((rd_T36 l0 x28_3).f0)) := (blk_cell BK605.out 0).trans rfl; have hcz41_1 : w40.cell? ⟨gb605, 1, none⟩ = some (.int .i64 ((rd_T36 l0 x28_3).f1)) := (blk_cell BK605.out 1).trans rfl; have hcz41_2 : w40.cell? ⟨gb605, 2, none⟩ = some (.int .u64 ((rd_T36 l0 x28_3).f2)) := (blk_cell BK605.out 2).trans rfl; have hcz41_3 : w40.cell? ⟨gb605, 3, none⟩ = some (.int .u64 ((rd_T36 l0 x28_3).f3)) := (blk_cell BK605.out 3).trans rfl; have hcz41_4 : w40.cell? ⟨gb605, 4, none⟩ = some (.int .u64 ((rd_T36 l0 x28_3).f4)) := (blk_cell BK605.out 4).trans rfl; have hcz41_5 : w40.cell? ⟨gb605, 5, none⟩ = some (.string ((rd_T36 l0 x28_3).f5)) := (blk_cell BK605.out 5).trans rfl; have hfz41_0 := blk_frozen BK605.out 0; have hfz41_1 := blk_frozen BK605.out 1; have hfz41_2 := blk_frozen BK605.out 2; have hfz41_3 := blk_frozen BK605.out 3; have hfz41_4 := blk_frozen BK605.out 4; have hfz41_5 := blk_frozen BK605.out 5))
              go_ret
              exact ⟨by first | rfl | (simp [errW_none, errW_some] <;> rfl) | (simp [*, errW_none, errW_some] <;> rfl), by repeat (first | (with_reducible first | exact HB.out | apply below_alloc | apply pw_below_drewN | apply below_drew1 | refine below_set ?_ GE596.out | refine below_set ?_ GE605.out) | exact HB.out)⟩
             ·rw [if_neg c36] at H
              have c36b0 : (((rd_T36 l0 x28_3).f0) == 6) = false := beq_eq_false_iff_ne.mpr c36
              have c36b1 : (((rd_T36 l0 x28_3).f0) != 6) = true := bne_iff_ne.mpr c36
              by_cases c42 : ((rd_T36 l0 x28_3).f0) = 7
              ·rw [if_pos c42] at H
               have c42b0 : (((rd_T36 l0 x28_3).f0) == 7) = true := beq_iff_eq.mpr c42
               have c42b1 : (((rd_T36 l0 x28_3).f0) != 7) = false := bne_eq_false_iff_eq.mpr c42
               clear c42
               obtain rfl := Option.some.inj H
               have p604 : 0 ≤ (x28_3 : Int) := of_decide_eq_true (by first | (with_reducible assumption) | assumption)
               have q604 : x28_3 < (l0.length : Int) := of_decide_eq_true (by first | (with_reducible assumption) | assumption)
               obtain ⟨ad604, e604, hx604_0, hx604_1, hx604_2, hx604_3, hx604_4, hx604_5⟩ := at_T36 (Kd.V_reads' HO_26.out).2.2 x28_3 p604 q604
               cases e604
               replace p604 := eq_true p604
               replace q604 := eq_true q604
               go_wp2_with (first | ((with_reducible refine gate_dst (N := 7) rfl ?_); (try (refine gate_guard (by rfl) ?_; dsimp only)); refine box_event ?hg (N := 7) ?hd (cs := #[.int .i64 0, .int .i64 0, .int .u64 0, .int .u64 0, .int .u64 0, .string (⟨#[]⟩ : ByteArray)]) (t := 36) ?hr ?_; (case hd => rfl); (case hg => rfl); (case hr => first | (go_simp; done) | (go_simp; rfl)); intro gb605 hg w43 hbox hb; have n0_ := Aside0.mk (Kd.V_below (Kd.V_elderB (by (with_reducible repeat (first | apply Kd.V_alloc | apply Kd.V_drewN | apply Kd.V_drew)); exact HO_0.out) gb605 (Nat.le_of_eq hg.symm)) hb); have n1_ := Aside0.mk (Kd.N_below (Kd.N_elderB (by (with_reducible repeat (first | apply Kd.N_alloc | apply Kd.N_drewN | apply Kd.N_drew)); exact HO_5.out) gb605 (Nat.le_of_eq hg.symm)) hb); have n2_ := Aside0.mk (Kd.V_below (Kd.V_elderB (by (with_reducible repeat (first | apply Kd.V_alloc | apply Kd.V_drewN | apply Kd.V_drew)); exact HO_26.out) gb605 (Nat.le_of_eq hg.symm)) hb); have n3_ := Aside0.mk (blk_below (g := gb596) (o := .cells #[.int .u64 a1_0, .int .u64 a1_1, .int .u64 a1_2, .string (⟨#[]⟩ : ByteArray), .string a1_4] 24 (0, 0)) (by (with_reducible repeat (first | refine blk_drewN ?_ _ | refine blk_drew ?_ | refine blk_alloc ?_ _)); exact BK596.out) hb); have n4_ := Aside0.mk (below_step (by repeat (first | (with_reducible first | exact HB.out | apply below_alloc | apply pw_below_drewN | apply below_drew1 | refine below_set ?_ GE596.out) | exact HB.out)) hb); have n5_ := Aside0.mk (hbox); have n6_ := Aside0.mk ((by rw [hg]; exact (below_size (by repeat (first | (with_reducible first | exact HB.out | apply below_alloc | apply pw_below_drewN | apply below_drew1 | refine below_set ?_ GE596.out) | exact HB.out))) : w.heap.size ≤ gb605)); have n7_ := Aside0.mk ((by rw [hg]; exact (below_size (by repeat (first | (with_reducible first | exact HB.out | apply below_alloc | apply pw_below_drewN | apply below_drew1 | refine below_set ?_ GE596.out) | exact HB.out))) : w.heap.size ≤ gb605)); have n8_ := Aside0.mk ((by rw [hg]; exact Nat.ne_of_lt (blk_lt (g := gb596) (o := .cells #[.int .u64 a1_0, .int .u64 a1_1, .int .u64 a1_2, .string (⟨#[]⟩ : ByteArray), .string a1_4] 24 (0, 0)) (by (with_reducible repeat (first | refine blk_drewN ?_ _ | refine blk_drew ?_ | refine blk_alloc ?_ _)); exact BK596.out)) : gb596 ≠ gb605)); have n9_ := Aside0.mk ((by rw [hg]; exact Nat.ne_of_gt (blk_lt (g := gb596) (o := .cells #[.int .u64 a1_0, .int .u64 a1_1, .int .u64 a1_2, .string (⟨#[]⟩ : ByteArray), .string a1_4] 24 (0, 0)) (by (with_reducible repeat (first | refine blk_drewN ?_ _ | refine blk_drew ?_ | refine blk_alloc ?_ _)); exact BK596.out)) : gb605 ≠ gb596)); clear HO_0; clear HO_5; clear HO_26; clear BK596; clear HB; have HO_0 := n0_; have HO_5 := n1_; have HO_26 := n2_; have BK596 := n3_; have HB := n4_; have BK605 := n5_; have GW605 := n6_; have GE605 := n7_; have NB596_605 := n8_; have NB605_596 := n9_; clear n0_ n1_ n2_ n3_ n4_ n5_ n6_ n7_ n8_ n9_; clear hb hbox hg; have hnb44 := NB605_596.out; have hnc44 := NB596_605.out; have hcz45_0 : w43.cell? ⟨gb605, 0, none⟩ = some (.int .i64 0) := (blk_cell BK605.out 0).trans rfl; have hcz45_1 : w43.cell? ⟨gb605, 1, none⟩ = some (.int .i64 0) := (blk_cell BK605.out 1).trans rfl; have hcz45_2 : w43.cell? ⟨gb605, 2, none⟩ = some (.int .u64 0) := (blk_cell BK605.out 2).trans rfl; have hcz45_3 : w43.cell? ⟨gb605, 3, none⟩ = some (.int .u64 0) := (blk_cell BK605.out 3).trans rfl; have hcz45_4 : w43.cell? ⟨gb605, 4, none⟩ = some (.int .u64 0) := (blk_cell BK605.out 4).trans rfl; have hcz45_5 : w43.cell? ⟨gb605, 5, none⟩ = some (.string (⟨#[]⟩ : ByteArray)) := (blk_cell BK605.out 5).trans rfl; have hfz45_0 := blk_frozen BK605.out 0; have hfz45_1 := blk_frozen BK605.out 1; have hfz45_2 := blk_frozen BK605.out 2; have hfz45_3 := blk_frozen BK605.out 3; have hfz45_4 := blk_frozen BK605.out 4; have hfz45_5 := blk_frozen BK605.out 5) | ((with_reducible refine gate_store (t := 36) (p := 7) rfl ?_); refine store_event (t := 36) (p := 7) (v := ?vo_w46) (w1 := ((((((w43.setCell ⟨gb605, 0, none⟩ (.int .i64 ((rd_T36 l0 x28_3).f0))).setCell ⟨gb605, 1, none⟩ (.int .i64 ((rd_T36 l0 x28_3).f1))).setCell ⟨gb605, 2, none⟩ (.int .u64 ((rd_T36 l0 x28_3).f2))).setCell ⟨gb605, 3, none⟩ (.int .u64 ((rd_T36 l0 x28_3).f3))).setCell ⟨gb605, 4, none⟩ (.int .u64 ((rd_T36 l0 x28_3).f4))).setCell ⟨gb605, 5, none⟩ (.string ((rd_T36 l0 x28_3).f5)))) ?hg ?ho ?hn ?hr ?_; (case ho => rfl); (case hg => rfl); (case hn => rfl); (case hr => first | (go_simp; done) | (go_simp; rfl)); intro w46 hw; have n0_ : Aside0 (Kd.V k36 36 w46 w.heap.size (fun k_ => (P0_ k_ ∨ w.heap.size ≤ k_) ∧ some k_ ≠ (u5 : Value).ownBlock ∧ k_ ≠ gb596 ∧ k_ ≠ gb605) (.slice (some ad604) l0.length c0) l0) := ⟨(by rw [hw]; exact (by (with_reducible repeat (first | apply Kd.V_alloc | apply Kd.V_drewN | apply Kd.V_drew)); exact Kd.V_mono (Kd.V_far (p := ⟨gb605, 5, none⟩) (Kd.V_far (p := ⟨gb605, 4, none⟩) (Kd.V_far (p := ⟨gb605, 3, none⟩) (Kd.V_far (p := ⟨gb605, 2, none⟩) (Kd.V_far (p := ⟨gb605, 1, none⟩) (Kd.V_far (p := ⟨gb605, 0, none⟩) (Kd.V_mono HO_0.out (fun k_ hk => (⟨hk, hk.2⟩ : _ ∧ k_ ≠ gb605))) (fun _ hk => hk.2) (.int .i64 ((rd_T36 l0 x28_3).f0))) (fun _ hk => hk.2) (.int .i64 ((rd_T36 l0 x28_3).f1))) (fun _ hk => hk.2) (.int .u64 ((rd_T36 l0 x28_3).f2))) (fun _ hk => hk.2) (.int .u64 ((rd_T36 l0 x28_3).f3))) (fun _ hk => hk.2) (.int .u64 ((rd_T36 l0 x28_3).f4))) (fun _ hk => hk.2) (.string ((rd_T36 l0 x28_3).f5))) (fun _ hk => ⟨hk.1.1.1, ⟨hk.1.1.2.1, ⟨hk.1.1.2.2, hk.1.2⟩⟩⟩)))⟩; have n1_ : Aside0 (Kd.N (Kd.slice 36 k36) 65 w46 w.heap.size (fun k_ => (P0_ k_ ∨ w.heap.size ≤ k_) ∧ k_ ≠ gb596 ∧ k_ ≠ gb605) u5 x5_3) := ⟨(by rw [hw]; exact (by (with_reducible repeat (first | apply Kd.N_alloc | apply Kd.N_drewN | apply Kd.N_drew)); exact Kd.N_mono (Kd.N_far (p := ⟨gb605, 5, none⟩) (Kd.N_far (p := ⟨gb605, 4, none⟩) (Kd.N_far (p := ⟨gb605, 3, none⟩) (Kd.N_far (p := ⟨gb605, 2, none⟩) (Kd.N_far (p := ⟨gb605, 1, none⟩) (Kd.N_far (p := ⟨gb605, 0, none⟩) (Kd.N_mono HO_5.out (fun k_ hk => (⟨hk, hk.2⟩ : _ ∧ k_ ≠ gb605))) (fun _ hk => hk.2) (.int .i64 ((rd_T36 l0 x28_3).f0))) (fun _ hk => hk.2) (.int .i64 ((rd_T36 l0 x28_3).f1))) (fun _ hk => hk.2) (.int .u64 ((rd_T36 l0 x28_3).f2))) (fun _ hk => hk.2) (.int .u64 ((rd_T36 l0 x28_3).f3))) (fun _ hk => hk.2) (.int .u64 ((rd_T36 l0 x28_3).f4))) (fun _ hk => hk.2) (.string ((rd_T36 l0 x28_3).f5))) (fun _ hk => ⟨hk.1.1.1, ⟨hk.1.1.2, hk.1.2⟩⟩)))⟩; have n2_ : Aside0 (Kd.V k36 36 w46 w.heap.size (fun k_ => (P0_ k_ ∨ w.heap.size ≤ k_) ∧ some k_ ≠ (u5 : Value).ownBlock ∧ k_ ≠ gb596 ∧ k_ ≠ gb605) (.slice (some ad604) l0.length c0) l0) := ⟨(by rw [hw]; exact (by (with_reducible repeat (first | apply Kd.V_alloc | apply Kd.V_drewN | apply Kd.V_drew)); exact Kd.V_mono (Kd.V_far (p := ⟨gb605, 5, none⟩) (Kd.V_far (p := ⟨gb605, 4, none⟩) (Kd.V_far (p := ⟨gb605, 3, none⟩) (Kd.V_far (p := ⟨gb605, 2, none⟩) (Kd.V_far (p := ⟨gb605, 1, none⟩) (Kd.V_far (p := ⟨gb605, 0, none⟩) (Kd.V_mono HO_26.out (fun k_ hk => (⟨hk, hk.2⟩ : _ ∧ k_ ≠ gb605))) (fun _ hk => hk.2) (.int .i64 ((rd_T36 l0 x28_3).f0))) (fun _ hk => hk.2) (.int .i64 ((rd_T36 l0 x28_3).f1))) (fun _ hk => hk.2) (.int .u64 ((rd_T36 l0 x28_3).f2))) (fun _ hk => hk.2) (.int .u64 ((rd_T36 l0 x28_3).f3))) (fun _ hk => hk.2) (.int .u64 ((rd_T36 l0 x28_3).f4))) (fun _ hk => hk.2) (.string ((rd_T36 l0 x28_3).f5))) (fun _ hk => ⟨hk.1.1.1, ⟨hk.1.1.2.1, ⟨hk.1.1.2.2, hk.1.2⟩⟩⟩)))⟩; have n3_ : Aside0 (w46.heap[gb596]? = some (.cells #[.int .u64 a1_0, .int .u64 a1_1, .int .u64 a1_2, .string (⟨#[]⟩ : ByteArray), .string a1_4] 24 (0, 0))) := ⟨(by rw [hw]; exact (by (with_reducible repeat (first | refine blk_drewN ?_ _ | refine blk_drew ?_ | refine blk_alloc ?_ _)); refine blk_far ?_ NB596_605.out _; (with_reducible repeat (first | refine blk_drewN ?_ _ | refine blk_drew ?_ | refine blk_alloc ?_ _)); refine blk_far ?_ NB596_605.out _; (with_reducible repeat (first | refine blk_drewN ?_ _ | refine blk_drew ?_ | refine blk_alloc ?_ _)); refine blk_far ?_ NB596_605.out _; (with_reducible repeat (first | refine blk_drewN ?_ _ | refine blk_drew ?_ | refine blk_alloc ?_ _)); refine blk_far ?_ NB596_605.out _; (with_reducible repeat (first | refine blk_drewN ?_ _ | refine blk_drew ?_ | refine blk_alloc ?_ _)); refine blk_far ?_ NB596_605.out _; (with_reducible repeat (first | refine blk_drewN ?_ _ | refine blk_drew ?_ | refine blk_alloc ?_ _)); refine blk_far ?_ NB596_605.out _; (with_reducible repeat (first | refine blk_drewN ?_ _ | refine blk_drew ?_ | refine blk_alloc ?_ _)); exact BK596.out))⟩; have n4_ : Aside0 (w46.heap[gb605]? = some (.cells #[.int .i64 ((rd_T36 l0 x28_3).f0), .int .i64 ((rd_T36 l0 x28_3).f1), .int .u64 ((rd_T36 l0 x28_3).f2), .int .u64 ((rd_T36 l0 x28_3).f3), .int .u64 ((rd_T36 l0 x28_3).f4), .string ((rd_T36 l0 x28_3).f5)] 36 (0, 0))) := ⟨(by rw [hw]; exact (by (with_reducible repeat (first | refine blk_drewN ?_ _ | refine blk_drew ?_ | refine blk_alloc ?_ _)); refine blk_put (cs := #[.int .i64 ((rd_T36 l0 x28_3).f0), .int .i64 ((rd_T36 l0 x28_3).f1), .int .u64 ((rd_T36 l0 x28_3).f2), .int .u64 ((rd_T36 l0 x28_3).f3), .int .u64 ((rd_T36 l0 x28_3).f4), .string (⟨#[]⟩ : ByteArray)]) ?_ 5 _ rfl; (with_reducible repeat (first | refine blk_drewN ?_ _ | refine blk_drew ?_ | refine blk_alloc ?_ _)); refine blk_put (cs := #[.int .i64 ((rd_T36 l0 x28_3).f0), .int .i64 ((rd_T36 l0 x28_3).f1), .int .u64 ((rd_T36 l0 x28_3).f2), .int .u64 ((rd_T36 l0 x28_3).f3), .int .u64 0, .string (⟨#[]⟩ : ByteArray)]) ?_ 4 _ rfl; (with_reducible repeat (first | refine blk_drewN ?_ _ | refine blk_drew ?_ | refine blk_alloc ?_ _)); refine blk_put (cs := #[.int .i64 ((rd_T36 l0 x28_3).f0), .int .i64 ((rd_T36 l0 x28_3).f1), .int .u64 ((rd_T36 l0 x28_3).f2), .int .u64 0, .int .u64 0, .string (⟨#[]⟩ : ByteArray)]) ?_ 3 _ rfl; (with_reducible repeat (first | refine blk_drewN ?_ _ | refine blk_drew ?_ | refine blk_alloc ?_ _)); refine blk_put (cs := #[.int .i64 ((rd_T36 l0 x28_3).f0), .int .i64 ((rd_T36 l0 x28_3).f1), .int .u64 0, .int .u64 0, .int .u64 0, .string (⟨#[]⟩ : ByteArray)]) ?_ 2 _ rfl; (with_reducible repeat (first | refine blk_drewN ?_ _ | refine blk_drew ?_ | refine blk_alloc ?_ _)); refine blk_put (cs := #[.int .i64 ((rd_T36 l0 x28_3).f0), .int .i64 0, .int .u64 0, .int .u64 0, .int .u64 0, .string (⟨#[]⟩ : ByteArray)]) ?_ 1 _ rfl; (with_reducible repeat (first | refine blk_drewN ?_ _ | refine blk_drew ?_ | refine blk_alloc ?_ _)); refine blk_put (cs := #[.int .i64 0, .int .i64 0, .int .u64 0, .int .u64 0, .int .u64 0, .string (⟨#[]⟩ : ByteArray)]) ?_ 0 _ rfl; (with_reducible repeat (first | refine blk_drewN ?_ _ | refine blk_drew ?_ | refine blk_alloc ?_ _)); exact BK605.out))⟩; have n5_ : Aside0 (Below w.heap.size w w46) := ⟨(by rw [hw]; exact (by repeat (first | (with_reducible first | exact HB.out | apply below_alloc | apply pw_below_drewN | apply below_drew1 | refine below_set ?_ GE596.out | refine below_set ?_ GE605.out) | exact HB.out)))⟩; clear hw; clear HO_0; clear HO_5; clear HO_26; clear BK596; clear BK605; clear HB; have HO_0 := n0_; have HO_5 := n1_; have HO_26 := n2_; have BK596 := n3_; have BK605 := n4_; have HB := n5_; clear n0_ n1_ n2_ n3_ n4_ n5_; have hcz47_0 : w46.cell? ⟨gb605, 0, none⟩ = some (.int .i64 ((rd_T36 l0 x28_3).f0)) := (blk_cell BK605.out 0).trans rfl; have hcz47_1 : w46.cell? ⟨gb605, 1, none⟩ = some (.int .i64 ((rd_T36 l0 x28_3).f1)) := (blk_cell BK605.out 1).trans rfl; have hcz47_2 : w46.cell? ⟨gb605, 2, none⟩ = some (.int .u64 ((rd_T36 l0 x28_3).f2)) := (blk_cell BK605.out 2).trans rfl; have hcz47_3 : w46.cell? ⟨gb605, 3, none⟩ = some (.int .u64 ((rd_T36 l0 x28_3).f3)) := (blk_cell BK605.out 3).trans rfl; have hcz47_4 : w46.cell? ⟨gb605, 4, none⟩ = some (.int .u64 ((rd_T36 l0 x28_3).f4)) := (blk_cell BK605.out 4).trans rfl; have hcz47_5 : w46.cell? ⟨gb605, 5, none⟩ = some (.string ((rd_T36 l0 x28_3).f5)) := (blk_cell BK605.out 5).trans rfl; have hfz47_0 := blk_frozen BK605.out 0; have hfz47_1 := blk_frozen BK605.out 1; have hfz47_2 := blk_frozen BK605.out 2; have hfz47_3 := blk_frozen BK605.out 3; have hfz47_4 := blk_frozen BK605.out 4; have hfz47_5 := blk_frozen BK605.out 5))
               go_ret
               exact ⟨by first | rfl | (simp [errW_none, errW_some] <;> rfl) | (simp [*, errW_none, errW_some] <;> rfl), by repeat (first | (with_reducible first | exact HB.out | apply below_alloc | apply pw_below_drewN | apply below_drew1 | refine below_set ?_ GE596.out | refine below_set ?_ GE605.out) | exact HB.out)⟩
              ·rw [if_neg c42] at H
               have c42b0 : (((rd_T36 l0 x28_3).f0) == 7) = false := beq_eq_false_iff_ne.mpr c42
               have c42b1 : (((rd_T36 l0 x28_3).f0) != 7) = true := bne_iff_ne.mpr c42
               replace H := Option.bind_eq_some_iff.mp H
               obtain ⟨t606, A480, H⟩ := H
               replace H : (if x5_3.length < 5864062014805 then (laws_FnSemverTermsOpposite.l0 k3 l0 (x5_3 ++ [(([(⟨t606, (rd_T36 l0 x28_3).f1, (rd_T36 l0 x28_3).f2, (rd_T36 l0 x28_3).f3, (rd_T36 l0 x28_3).f4, (rd_T36 l0 x28_3).f5⟩ : S36)] : List (S36)))]) l0 (l0.length : Int) (wrap64 (x28_3 + 1)) a1_0 a1_1 a1_2 (⟨#[]⟩ : ByteArray) a1_4) else (none)) = some r := H
               have A48 := Aside0.mk A480
               clear A480
               obtain ⟨y607, hy607⟩ : ∃ y_ : List (S36), y_ = (([(⟨t606, (rd_T36 l0 x28_3).f1, (rd_T36 l0 x28_3).f2, (rd_T36 l0 x28_3).f3, (rd_T36 l0 x28_3).f4, (rd_T36 l0 x28_3).f5⟩ : S36)] : List (S36))) := ⟨_, rfl⟩
               replace H : (if x5_3.length < 5864062014805 then (laws_FnSemverTermsOpposite.l0 k3 l0 (x5_3 ++ [y607]) l0 (l0.length : Int) (wrap64 (x28_3 + 1)) a1_0 a1_1 a1_2 (⟨#[]⟩ : ByteArray) a1_4) else (none)) = some r := by first | (rw [hy607]; with_reducible exact H) | (have H2_ := (Option.bind_some _ _).symm.trans H; rw [hy607]; with_reducible exact H2_) | (have H2_ := (Option.bind_some _ _).symm.trans H; with_reducible exact H2_) | with_reducible exact H | (rw [hy607]; exact H) | exact H
               have Ny607 := Aside0.mk hy607
               clear hy607
               by_cases c49 : x5_3.length < 5864062014805
               ·rw [if_pos c49] at H
                have LMc49 := Aside0.mk c49
                clear c49
                obtain ⟨y610, hy610⟩ : ∃ y_ : List (List (S36)), y_ = (x5_3 ++ [y607]) := ⟨_, rfl⟩
                replace H : (laws_FnSemverTermsOpposite.l0 k3 l0 y610 l0 (l0.length : Int) (wrap64 (x28_3 + 1)) a1_0 a1_1 a1_2 (⟨#[]⟩ : ByteArray) a1_4) = some r := by first | (rw [hy610]; with_reducible exact H) | (have H2_ := (Option.bind_some _ _).symm.trans H; rw [hy610]; with_reducible exact H2_) | (have H2_ := (Option.bind_some _ _).symm.trans H; with_reducible exact H2_) | with_reducible exact H | (rw [hy610]; exact H) | exact H
                have Ny610 := Aside0.mk hy610
                clear hy610
                have H' := Aside0.mk H
                clear H
                have p604 : 0 ≤ (x28_3 : Int) := of_decide_eq_true (by first | (with_reducible assumption) | assumption)
                have q604 : x28_3 < (l0.length : Int) := of_decide_eq_true (by first | (with_reducible assumption) | assumption)
                obtain ⟨ad604, e604, hx604_0, hx604_1, hx604_2, hx604_3, hx604_4, hx604_5⟩ := at_T36 (Kd.V_reads' HO_26.out).2.2 x28_3 p604 q604
                cases e604
                replace p604 := eq_true p604
                replace q604 := eq_true q604
                go_wp2_with (first | ((with_reducible refine gate_dst (N := 7) rfl ?_); (try (refine gate_guard (by rfl) ?_; dsimp only)); refine box_event ?hg (N := 7) ?hd (cs := #[.int .i64 0, .int .i64 0, .int .u64 0, .int .u64 0, .int .u64 0, .string (⟨#[]⟩ : ByteArray)]) (t := 36) ?hr ?_; (case hd => rfl); (case hg => rfl); (case hr => first | (go_simp; done) | (go_simp; rfl)); intro gb605 hg w50 hbox hb; have n0_ := Aside0.mk (Kd.V_below (Kd.V_elderB (by (with_reducible repeat (first | apply Kd.V_alloc | apply Kd.V_drewN | apply Kd.V_drew)); exact HO_0.out) gb605 (Nat.le_of_eq hg.symm)) hb); have n1_ := Aside0.mk (Kd.N_below (Kd.N_elderB (by (with_reducible repeat (first | apply Kd.N_alloc | apply Kd.N_drewN | apply Kd.N_drew)); exact HO_5.out) gb605 (Nat.le_of_eq hg.symm)) hb); have n2_ := Aside0.mk (Kd.V_below (Kd.V_elderB (by (with_reducible repeat (first | apply Kd.V_alloc | apply Kd.V_drewN | apply Kd.V_drew)); exact HO_26.out) gb605 (Nat.le_of_eq hg.symm)) hb); have n3_ := Aside0.mk (blk_below (g := gb596) (o := .cells #[.int .u64 a1_0, .int .u64 a1_1, .int .u64 a1_2, .string (⟨#[]⟩ : ByteArray), .string a1_4] 24 (0, 0)) (by (with_reducible repeat (first | refine blk_drewN ?_ _ | refine blk_drew ?_ | refine blk_alloc ?_ _)); exact BK596.out) hb); have n4_ := Aside0.mk (below_step (by repeat (first | (with_reducible first | exact HB.out | apply below_alloc | apply pw_below_drewN | apply below_drew1 | refine below_set ?_ GE596.out) | exact HB.out)) hb); have n5_ := Aside0.mk (hbox); have n6_ := Aside0.mk ((by rw [hg]; exact (below_size (by repeat (first | (with_reducible first | exact HB.out | apply below_alloc | apply pw_below_drewN | apply below_drew1 | refine below_set ?_ GE596.out) | exact HB.out))) : w.heap.size ≤ gb605)); have n7_ := Aside0.mk ((by rw [hg]; exact (below_size (by repeat (first | (with_reducible first | exact HB.out | apply below_alloc | apply pw_below_drewN | apply below_drew1 | refine below_set ?_ GE596.out) | exact HB.out))) : w.heap.size ≤ gb605)); have n8_ := Aside0.mk ((by rw [hg]; exact Nat.ne_of_lt (blk_lt (g := gb596) (o := .cells #[.int .u64 a1_0, .int .u64 a1_1, .int .u64 a1_2, .string (⟨#[]⟩ : ByteArray), .string a1_4] 24 (0, 0)) (by (with_reducible repeat (first | refine blk_drewN ?_ _ | refine blk_drew ?_ | refine blk_alloc ?_ _)); exact BK596.out)) : gb596 ≠ gb605)); have n9_ := Aside0.mk ((by rw [hg]; exact Nat.ne_of_gt (blk_lt (g := gb596) (o := .cells #[.int .u64 a1_0, .int .u64 a1_1, .int .u64 a1_2, .string (⟨#[]⟩ : ByteArray), .string a1_4] 24 (0, 0)) (by (with_reducible repeat (first | refine blk_drewN ?_ _ | refine blk_drew ?_ | refine blk_alloc ?_ _)); exact BK596.out)) : gb605 ≠ gb596)); clear HO_0; clear HO_5; clear HO_26; clear BK596; clear HB; have HO_0 := n0_; have HO_5 := n1_; have HO_26 := n2_; have BK596 := n3_; have HB := n4_; have BK605 := n5_; have GW605 := n6_; have GE605 := n7_; have NB596_605 := n8_; have NB605_596 := n9_; clear n0_ n1_ n2_ n3_ n4_ n5_ n6_ n7_ n8_ n9_; clear hb hbox hg; have hnb51 := NB605_596.out; have hnc51 := NB596_605.out; have hcz52_0 : w50.cell? ⟨gb605, 0, none⟩ = some (.int .i64 0) := (blk_cell BK605.out 0).trans rfl; have hcz52_1 : w50.cell? ⟨gb605, 1, none⟩ = some (.int .i64 0) := (blk_cell BK605.out 1).trans rfl; have hcz52_2 : w50.cell? ⟨gb605, 2, none⟩ = some (.int .u64 0) := (blk_cell BK605.out 2).trans rfl; have hcz52_3 : w50.cell? ⟨gb605, 3, none⟩ = some (.int .u64 0) := (blk_cell BK605.out 3).trans rfl; have hcz52_4 : w50.cell? ⟨gb605, 4, none⟩ = some (.int .u64 0) := (blk_cell BK605.out 4).trans rfl; have hcz52_5 : w50.cell? ⟨gb605, 5, none⟩ = some (.string (⟨#[]⟩ : ByteArray)) := (blk_cell BK605.out 5).trans rfl; have hfz52_0 := blk_frozen BK605.out 0; have hfz52_1 := blk_frozen BK605.out 1; have hfz52_2 := blk_frozen BK605.out 2; have hfz52_3 := blk_frozen BK605.out 3; have hfz52_4 := blk_frozen BK605.out 4; have hfz52_5 := blk_frozen BK605.out 5) | ((with_reducible refine gate_store (t := 36) (p := 7) rfl ?_); refine store_event (t := 36) (p := 7) (v := ?vo_w53) (w1 := ((((((w50.setCell ⟨gb605, 0, none⟩ (.int .i64 ((rd_T36 l0 x28_3).f0))).setCell ⟨gb605, 1, none⟩ (.int .i64 ((rd_T36 l0 x28_3).f1))).setCell ⟨gb605, 2, none⟩ (.int .u64 ((rd_T36 l0 x28_3).f2))).setCell ⟨gb605, 3, none⟩ (.int .u64 ((rd_T36 l0 x28_3).f3))).setCell ⟨gb605, 4, none⟩ (.int .u64 ((rd_T36 l0 x28_3).f4))).setCell ⟨gb605, 5, none⟩ (.string ((rd_T36 l0 x28_3).f5)))) ?hg ?ho ?hn ?hr ?_; (case ho => rfl); (case hg => rfl); (case hn => rfl); (case hr => first | (go_simp; done) | (go_simp; rfl)); intro w53 hw; have n0_ : Aside0 (Kd.V k36 36 w53 w.heap.size (fun k_ => (P0_ k_ ∨ w.heap.size ≤ k_) ∧ some k_ ≠ (u5 : Value).ownBlock ∧ k_ ≠ gb596 ∧ k_ ≠ gb605) (.slice (some ad604) l0.length c0) l0) := ⟨(by rw [hw]; exact (by (with_reducible repeat (first | apply Kd.V_alloc | apply Kd.V_drewN | apply Kd.V_drew)); exact Kd.V_mono (Kd.V_far (p := ⟨gb605, 5, none⟩) (Kd.V_far (p := ⟨gb605, 4, none⟩) (Kd.V_far (p := ⟨gb605, 3, none⟩) (Kd.V_far (p := ⟨gb605, 2, none⟩) (Kd.V_far (p := ⟨gb605, 1, none⟩) (Kd.V_far (p := ⟨gb605, 0, none⟩) (Kd.V_mono HO_0.out (fun k_ hk => (⟨hk, hk.2⟩ : _ ∧ k_ ≠ gb605))) (fun _ hk => hk.2) (.int .i64 ((rd_T36 l0 x28_3).f0))) (fun _ hk => hk.2) (.int .i64 ((rd_T36 l0 x28_3).f1))) (fun _ hk => hk.2) (.int .u64 ((rd_T36 l0 x28_3).f2))) (fun _ hk => hk.2) (.int .u64 ((rd_T36 l0 x28_3).f3))) (fun _ hk => hk.2) (.int .u64 ((rd_T36 l0 x28_3).f4))) (fun _ hk => hk.2) (.string ((rd_T36 l0 x28_3).f5))) (fun _ hk => ⟨hk.1.1.1, ⟨hk.1.1.2.1, ⟨hk.1.1.2.2, hk.1.2⟩⟩⟩)))⟩; have n1_ : Aside0 (Kd.N (Kd.slice 36 k36) 65 w53 w.heap.size (fun k_ => (P0_ k_ ∨ w.heap.size ≤ k_) ∧ k_ ≠ gb596 ∧ k_ ≠ gb605) u5 x5_3) := ⟨(by rw [hw]; exact (by (with_reducible repeat (first | apply Kd.N_alloc | apply Kd.N_drewN | apply Kd.N_drew)); exact Kd.N_mono (Kd.N_far (p := ⟨gb605, 5, none⟩) (Kd.N_far (p := ⟨gb605, 4, none⟩) (Kd.N_far (p := ⟨gb605, 3, none⟩) (Kd.N_far (p := ⟨gb605, 2, none⟩) (Kd.N_far (p := ⟨gb605, 1, none⟩) (Kd.N_far (p := ⟨gb605, 0, none⟩) (Kd.N_mono HO_5.out (fun k_ hk => (⟨hk, hk.2⟩ : _ ∧ k_ ≠ gb605))) (fun _ hk => hk.2) (.int .i64 ((rd_T36 l0 x28_3).f0))) (fun _ hk => hk.2) (.int .i64 ((rd_T36 l0 x28_3).f1))) (fun _ hk => hk.2) (.int .u64 ((rd_T36 l0 x28_3).f2))) (fun _ hk => hk.2) (.int .u64 ((rd_T36 l0 x28_3).f3))) (fun _ hk => hk.2) (.int .u64 ((rd_T36 l0 x28_3).f4))) (fun _ hk => hk.2) (.string ((rd_T36 l0 x28_3).f5))) (fun _ hk => ⟨hk.1.1.1, ⟨hk.1.1.2, hk.1.2⟩⟩)))⟩; have n2_ : Aside0 (Kd.V k36 36 w53 w.heap.size (fun k_ => (P0_ k_ ∨ w.heap.size ≤ k_) ∧ some k_ ≠ (u5 : Value).ownBlock ∧ k_ ≠ gb596 ∧ k_ ≠ gb605) (.slice (some ad604) l0.length c0) l0) := ⟨(by rw [hw]; exact (by (with_reducible repeat (first | apply Kd.V_alloc | apply Kd.V_drewN | apply Kd.V_drew)); exact Kd.V_mono (Kd.V_far (p := ⟨gb605, 5, none⟩) (Kd.V_far (p := ⟨gb605, 4, none⟩) (Kd.V_far (p := ⟨gb605, 3, none⟩) (Kd.V_far (p := ⟨gb605, 2, none⟩) (Kd.V_far (p := ⟨gb605, 1, none⟩) (Kd.V_far (p := ⟨gb605, 0, none⟩) (Kd.V_mono HO_26.out (fun k_ hk => (⟨hk, hk.2⟩ : _ ∧ k_ ≠ gb605))) (fun _ hk => hk.2) (.int .i64 ((rd_T36 l0 x28_3).f0))) (fun _ hk => hk.2) (.int .i64 ((rd_T36 l0 x28_3).f1))) (fun _ hk => hk.2) (.int .u64 ((rd_T36 l0 x28_3).f2))) (fun _ hk => hk.2) (.int .u64 ((rd_T36 l0 x28_3).f3))) (fun _ hk => hk.2) (.int .u64 ((rd_T36 l0 x28_3).f4))) (fun _ hk => hk.2) (.string ((rd_T36 l0 x28_3).f5))) (fun _ hk => ⟨hk.1.1.1, ⟨hk.1.1.2.1, ⟨hk.1.1.2.2, hk.1.2⟩⟩⟩)))⟩; have n3_ : Aside0 (w53.heap[gb596]? = some (.cells #[.int .u64 a1_0, .int .u64 a1_1, .int .u64 a1_2, .string (⟨#[]⟩ : ByteArray), .string a1_4] 24 (0, 0))) := ⟨(by rw [hw]; exact (by (with_reducible repeat (first | refine blk_drewN ?_ _ | refine blk_drew ?_ | refine blk_alloc ?_ _)); refine blk_far ?_ NB596_605.out _; (with_reducible repeat (first | refine blk_drewN ?_ _ | refine blk_drew ?_ | refine blk_alloc ?_ _)); refine blk_far ?_ NB596_605.out _; (with_reducible repeat (first | refine blk_drewN ?_ _ | refine blk_drew ?_ | refine blk_alloc ?_ _)); refine blk_far ?_ NB596_605.out _; (with_reducible repeat (first | refine blk_drewN ?_ _ | refine blk_drew ?_ | refine blk_alloc ?_ _)); refine blk_far ?_ NB596_605.out _; (with_reducible repeat (first | refine blk_drewN ?_ _ | refine blk_drew ?_ | refine blk_alloc ?_ _)); refine blk_far ?_ NB596_605.out _; (with_reducible repeat (first | refine blk_drewN ?_ _ | refine blk_drew ?_ | refine blk_alloc ?_ _)); refine blk_far ?_ NB596_605.out _; (with_reducible repeat (first | refine blk_drewN ?_ _ | refine blk_drew ?_ | refine blk_alloc ?_ _)); exact BK596.out))⟩; have n4_ : Aside0 (w53.heap[gb605]? = some (.cells #[.int .i64 ((rd_T36 l0 x28_3).f0), .int .i64 ((rd_T36 l0 x28_3).f1), .int .u64 ((rd_T36 l0 x28_3).f2), .int .u64 ((rd_T36 l0 x28_3).f3), .int .u64 ((rd_T36 l0 x28_3).f4), .string ((rd_T36 l0 x28_3).f5)] 36 (0, 0))) := ⟨(by rw [hw]; exact (by (with_reducible repeat (first | refine blk_drewN ?_ _ | refine blk_drew ?_ | refine blk_alloc ?_ _)); refine blk_put (cs := #[.int .i64 ((rd_T36 l0 x28_3).f0), .int .i64 ((rd_T36 l0 x28_3).f1), .int .u64 ((rd_T36 l0 x28_3).f2), .int .u64 ((rd_T36 l0 x28_3).f3), .int .u64 ((rd_T36 l0 x28_3).f4), .string (⟨#[]⟩ : ByteArray)]) ?_ 5 _ rfl; (with_reducible repeat (first | refine blk_drewN ?_ _ | refine blk_drew ?_ | refine blk_alloc ?_ _)); refine blk_put (cs := #[.int .i64 ((rd_T36 l0 x28_3).f0), .int .i64 ((rd_T36 l0 x28_3).f1), .int .u64 ((rd_T36 l0 x28_3).f2), .int .u64 ((rd_T36 l0 x28_3).f3), .int .u64 0, .string (⟨#[]⟩ : ByteArray)]) ?_ 4 _ rfl; (with_reducible repeat (first | refine blk_drewN ?_ _ | refine blk_drew ?_ | refine blk_alloc ?_ _)); refine blk_put (cs := #[.int .i64 ((rd_T36 l0 x28_3).f0), .int .i64 ((rd_T36 l0 x28_3).f1), .int .u64 ((rd_T36 l0 x28_3).f2), .int .u64 0, .int .u64 0, .string (⟨#[]⟩ : ByteArray)]) ?_ 3 _ rfl; (with_reducible repeat (first | refine blk_drewN ?_ _ | refine blk_drew ?_ | refine blk_alloc ?_ _)); refine blk_put (cs := #[.int .i64 ((rd_T36 l0 x28_3).f0), .int .i64 ((rd_T36 l0 x28_3).f1), .int .u64 0, .int .u64 0, .int .u64 0, .string (⟨#[]⟩ : ByteArray)]) ?_ 2 _ rfl; (with_reducible repeat (first | refine blk_drewN ?_ _ | refine blk_drew ?_ | refine blk_alloc ?_ _)); refine blk_put (cs := #[.int .i64 ((rd_T36 l0 x28_3).f0), .int .i64 0, .int .u64 0, .int .u64 0, .int .u64 0, .string (⟨#[]⟩ : ByteArray)]) ?_ 1 _ rfl; (with_reducible repeat (first | refine blk_drewN ?_ _ | refine blk_drew ?_ | refine blk_alloc ?_ _)); refine blk_put (cs := #[.int .i64 0, .int .i64 0, .int .u64 0, .int .u64 0, .int .u64 0, .string (⟨#[]⟩ : ByteArray)]) ?_ 0 _ rfl; (with_reducible repeat (first | refine blk_drewN ?_ _ | refine blk_drew ?_ | refine blk_alloc ?_ _)); exact BK605.out))⟩; have n5_ : Aside0 (Below w.heap.size w w53) := ⟨(by rw [hw]; exact (by repeat (first | (with_reducible first | exact HB.out | apply below_alloc | apply pw_below_drewN | apply below_drew1 | refine below_set ?_ GE596.out | refine below_set ?_ GE605.out) | exact HB.out)))⟩; clear hw; clear HO_0; clear HO_5; clear HO_26; clear BK596; clear BK605; clear HB; have HO_0 := n0_; have HO_5 := n1_; have HO_26 := n2_; have BK596 := n3_; have BK605 := n4_; have HB := n5_; clear n0_ n1_ n2_ n3_ n4_ n5_; have hcz54_0 : w53.cell? ⟨gb605, 0, none⟩ = some (.int .i64 ((rd_T36 l0 x28_3).f0)) := (blk_cell BK605.out 0).trans rfl; have hcz54_1 : w53.cell? ⟨gb605, 1, none⟩ = some (.int .i64 ((rd_T36 l0 x28_3).f1)) := (blk_cell BK605.out 1).trans rfl; have hcz54_2 : w53.cell? ⟨gb605, 2, none⟩ = some (.int .u64 ((rd_T36 l0 x28_3).f2)) := (blk_cell BK605.out 2).trans rfl; have hcz54_3 : w53.cell? ⟨gb605, 3, none⟩ = some (.int .u64 ((rd_T36 l0 x28_3).f3)) := (blk_cell BK605.out 3).trans rfl; have hcz54_4 : w53.cell? ⟨gb605, 4, none⟩ = some (.int .u64 ((rd_T36 l0 x28_3).f4)) := (blk_cell BK605.out 4).trans rfl; have hcz54_5 : w53.cell? ⟨gb605, 5, none⟩ = some (.string ((rd_T36 l0 x28_3).f5)) := (blk_cell BK605.out 5).trans rfl; have hfz54_0 := blk_frozen BK605.out 0; have hfz54_1 := blk_frozen BK605.out 1; have hfz54_2 := blk_frozen BK605.out 2; have hfz54_3 := blk_frozen BK605.out 3; have hfz54_4 := blk_frozen BK605.out 4; have hfz54_5 := blk_frozen BK605.out 5) | ((with_reducible refine only_callee (f := 63) rfl ?_); refine goesL_ (some 47) rfl rfl Tryd.func63 (by kernel_rfl) rfl #[.int .i64 ((rd_T36 l0 x28_3).f0)] rfl (by (try simp only [List.map_toArray, List.map_cons, List.map_nil]); first | done | rfl | (simp only [List.length_drop, List.length_take]; rfl)) ?_; (with_reducible refine (laws_sjOpposite.calls ((rd_T36 l0 x28_3).f0) t606 _ A48.out).mono ?_); rintro e w' ⟨rfl, ⟨nd, rfl⟩⟩; refine ⟨_, rfl, ?_⟩; (try (rw [drewN_self w53]; generalize hq_ : World.drewN w53 _ = w53; have n0_ : Aside0 (Kd.V k36 36 w53 w.heap.size (fun k_ => (P0_ k_ ∨ w.heap.size ≤ k_) ∧ some k_ ≠ (u5 : Value).ownBlock ∧ k_ ≠ gb596 ∧ k_ ≠ gb605) (.slice (some ad604) l0.length c0) l0) := ⟨by rw [← hq_]; exact (by (with_reducible repeat (first | apply Kd.V_alloc | apply Kd.V_drewN | apply Kd.V_drew)); exact HO_0.out)⟩; have n1_ : Aside0 (Kd.V k36 36 w53 w.heap.size (fun k_ => (P0_ k_ ∨ w.heap.size ≤ k_) ∧ some k_ ≠ (u5 : Value).ownBlock ∧ k_ ≠ gb596 ∧ k_ ≠ gb605) (.slice (some ad604) l0.length c0) l0) := ⟨by rw [← hq_]; exact (by (with_reducible repeat (first | apply Kd.V_alloc | apply Kd.V_drewN | apply Kd.V_drew)); exact HO_26.out)⟩; have n2_ : Aside0 (Kd.N (Kd.slice 36 k36) 65 w53 w.heap.size (fun k_ => (P0_ k_ ∨ w.heap.size ≤ k_) ∧ k_ ≠ gb596 ∧ k_ ≠ gb605) u5 x5_3) := ⟨by rw [← hq_]; exact (by (with_reducible repeat (first | apply Kd.N_alloc | apply Kd.N_drewN | apply Kd.N_drew)); exact HO_5.out)⟩; have n3_ : Aside0 (w53.heap[gb596]? = some (.cells #[.int .u64 a1_0, .int .u64 a1_1, .int .u64 a1_2, .string (⟨#[]⟩ : ByteArray), .string a1_4] 24 (0, 0))) := ⟨by rw [← hq_]; exact (by (with_reducible repeat (first | refine blk_drewN ?_ _ | refine blk_drew ?_ | refine blk_alloc ?_ _)); exact BK596.out)⟩; have n4_ : Aside0 (w53.heap[gb605]? = some (.cells #[.int .i64 ((rd_T36 l0 x28_3).f0), .int .i64 ((rd_T36 l0 x28_3).f1), .int .u64 ((rd_T36 l0 x28_3).f2), .int .u64 ((rd_T36 l0 x28_3).f3), .int .u64 ((rd_T36 l0 x28_3).f4), .string ((rd_T36 l0 x28_3).f5)] 36 (0, 0))) := ⟨by rw [← hq_]; exact (by (with_reducible repeat (first | refine blk_drewN ?_ _ | refine blk_drew ?_ | refine blk_alloc ?_ _)); exact BK605.out)⟩; have n5_ : Aside0 (Below w.heap.size w w53) := ⟨by rw [← hq_]; exact (by repeat (first | (with_reducible first | exact HB.out | apply below_alloc | apply pw_below_drewN | apply below_drew1 | refine below_set ?_ GE596.out | refine below_set ?_ GE605.out) | exact HB.out))⟩; clear HO_0 HO_26 HO_5 BK596 BK605 HB hq_; have HO_0 := n0_; have HO_26 := n1_; have HO_5 := n2_; have BK596 := n3_; have BK605 := n4_; have HB := n5_; clear n0_ n1_ n2_ n3_ n4_ n5_))) | ((with_reducible refine gate_store (t := 3) (p := 48) rfl ?_); have hs48_ : w53.cell? ⟨gb605, 0, none⟩ = some (.int .i64 ((rd_T36 l0 x28_3).f0)) := (blk_cell BK605.out 0).trans rfl; have hs48f_ := blk_frozen BK605.out 0; refine store_event (t := 3) (p := 48) (v := ?vo_w55) (w1 := (w53.setCell ⟨gb605, 0, none⟩ (.int .i64 t606))) ?hg ?ho ?hn ?hr ?_; (case ho => rfl); (case hg => rfl); (case hn => rfl); (case hr => first | (go_simp; done) | (go_simp; rfl)); intro w55 hw; have n0_ : Aside0 (Kd.V k36 36 w55 w.heap.size (fun k_ => (P0_ k_ ∨ w.heap.size ≤ k_) ∧ some k_ ≠ (u5 : Value).ownBlock ∧ k_ ≠ gb596 ∧ k_ ≠ gb605) (.slice (some ad604) l0.length c0) l0) := ⟨(by rw [hw]; exact (by (with_reducible repeat (first | apply Kd.V_alloc | apply Kd.V_drewN | apply Kd.V_drew)); exact Kd.V_mono (Kd.V_far (p := ⟨gb605, 0, none⟩) (Kd.V_mono HO_0.out (fun k_ hk => (⟨hk, hk.2.2.2⟩ : _ ∧ k_ ≠ gb605))) (fun _ hk => hk.2) (.int .i64 t606)) (fun _ hk => ⟨hk.1.1, ⟨hk.1.2.1, ⟨hk.1.2.2.1, hk.1.2.2.2⟩⟩⟩)))⟩; have n1_ : Aside0 (Kd.N (Kd.slice 36 k36) 65 w55 w.heap.size (fun k_ => (P0_ k_ ∨ w.heap.size ≤ k_) ∧ k_ ≠ gb596 ∧ k_ ≠ gb605) u5 x5_3) := ⟨(by rw [hw]; exact (by (with_reducible repeat (first | apply Kd.N_alloc | apply Kd.N_drewN | apply Kd.N_drew)); exact Kd.N_mono (Kd.N_far (p := ⟨gb605, 0, none⟩) (Kd.N_mono HO_5.out (fun k_ hk => (⟨hk, hk.2.2⟩ : _ ∧ k_ ≠ gb605))) (fun _ hk => hk.2) (.int .i64 t606)) (fun _ hk => ⟨hk.1.1, ⟨hk.1.2.1, hk.1.2.2⟩⟩)))⟩; have n2_ : Aside0 (Kd.V k36 36 w55 w.heap.size (fun k_ => (P0_ k_ ∨ w.heap.size ≤ k_) ∧ some k_ ≠ (u5 : Value).ownBlock ∧ k_ ≠ gb596 ∧ k_ ≠ gb605) (.slice (some ad604) l0.length c0) l0) := ⟨(by rw [hw]; exact (by (with_reducible repeat (first | apply Kd.V_alloc | apply Kd.V_drewN | apply Kd.V_drew)); exact Kd.V_mono (Kd.V_far (p := ⟨gb605, 0, none⟩) (Kd.V_mono HO_26.out (fun k_ hk => (⟨hk, hk.2.2.2⟩ : _ ∧ k_ ≠ gb605))) (fun _ hk => hk.2) (.int .i64 t606)) (fun _ hk => ⟨hk.1.1, ⟨hk.1.2.1, ⟨hk.1.2.2.1, hk.1.2.2.2⟩⟩⟩)))⟩; have n3_ : Aside0 (w55.heap[gb596]? = some (.cells #[.int .u64 a1_0, .int .u64 a1_1, .int .u64 a1_2, .string (⟨#[]⟩ : ByteArray), .string a1_4] 24 (0, 0))) := ⟨(by rw [hw]; exact (by (with_reducible repeat (first | refine blk_drewN ?_ _ | refine blk_drew ?_ | refine blk_alloc ?_ _)); refine blk_far ?_ NB596_605.out _; (with_reducible repeat (first | refine blk_drewN ?_ _ | refine blk_drew ?_ | refine blk_alloc ?_ _)); exact BK596.out))⟩; have n4_ : Aside0 (w55.heap[gb605]? = some (.cells #[.int .i64 t606, .int .i64 ((rd_T36 l0 x28_3).f1), .int .u64 ((rd_T36 l0 x28_3).f2), .int .u64 ((rd_T36 l0 x28_3).f3), .int .u64 ((rd_T36 l0 x28_3).f4), .string ((rd_T36 l0 x28_3).f5)] 36 (0, 0))) := ⟨(by rw [hw]; exact (by (with_reducible repeat (first | refine blk_drewN ?_ _ | refine blk_drew ?_ | refine blk_alloc ?_ _)); refine blk_put (cs := #[.int .i64 ((rd_T36 l0 x28_3).f0), .int .i64 ((rd_T36 l0 x28_3).f1), .int .u64 ((rd_T36 l0 x28_3).f2), .int .u64 ((rd_T36 l0 x28_3).f3), .int .u64 ((rd_T36 l0 x28_3).f4), .string ((rd_T36 l0 x28_3).f5)]) ?_ 0 _ rfl; (with_reducible repeat (first | refine blk_drewN ?_ _ | refine blk_drew ?_ | refine blk_alloc ?_ _)); exact BK605.out))⟩; have n5_ : Aside0 (Below w.heap.size w w55) := ⟨(by rw [hw]; exact (by repeat (first | (with_reducible first | exact HB.out | apply below_alloc | apply pw_below_drewN | apply below_drew1 | refine below_set ?_ GE596.out | refine below_set ?_ GE605.out) | exact HB.out)))⟩; clear hw; clear HO_0; clear HO_5; clear HO_26; clear BK596; clear BK605; clear HB; have HO_0 := n0_; have HO_5 := n1_; have HO_26 := n2_; have BK596 := n3_; have BK605 := n4_; have HB := n5_; clear n0_ n1_ n2_ n3_ n4_ n5_; have hcz56_0 : w55.cell? ⟨gb605, 0, none⟩ = some (.int .i64 t606) := (blk_cell BK605.out 0).trans rfl; have hcz56_1 : w55.cell? ⟨gb605, 1, none⟩ = some (.int .i64 ((rd_T36 l0 x28_3).f1)) := (blk_cell BK605.out 1).trans rfl; have hcz56_2 : w55.cell? ⟨gb605, 2, none⟩ = some (.int .u64 ((rd_T36 l0 x28_3).f2)) := (blk_cell BK605.out 2).trans rfl; have hcz56_3 : w55.cell? ⟨gb605, 3, none⟩ = some (.int .u64 ((rd_T36 l0 x28_3).f3)) := (blk_cell BK605.out 3).trans rfl; have hcz56_4 : w55.cell? ⟨gb605, 4, none⟩ = some (.int .u64 ((rd_T36 l0 x28_3).f4)) := (blk_cell BK605.out 4).trans rfl; have hcz56_5 : w55.cell? ⟨gb605, 5, none⟩ = some (.string ((rd_T36 l0 x28_3).f5)) := (blk_cell BK605.out 5).trans rfl; have hfz56_0 := blk_frozen BK605.out 0; have hfz56_1 := blk_frozen BK605.out 1; have hfz56_2 := blk_frozen BK605.out 2; have hfz56_3 := blk_frozen BK605.out 3; have hfz56_4 := blk_frozen BK605.out 4; have hfz56_5 := blk_frozen BK605.out 5) | ((with_reducible refine gate_dst (N := 51) rfl ?_); (try (refine gate_guard (by rfl) ?_; dsimp only)); refine Kd.R_lit k36 _ 36 ?hg (N := 51) ?hd (xs := ([(⟨t606, (rd_T36 l0 x28_3).f1, (rd_T36 l0 x28_3).f2, (rd_T36 l0 x28_3).f3, (rd_T36 l0 x28_3).f4, (rd_T36 l0 x28_3).f5⟩ : S36)] : List (S36))) (inner := [.int .i64 t606, .int .i64 ((rd_T36 l0 x28_3).f1), .int .u64 ((rd_T36 l0 x28_3).f2), .int .u64 ((rd_T36 l0 x28_3).f3), .int .u64 ((rd_T36 l0 x28_3).f4), .string ((rd_T36 l0 x28_3).f5)]) (ok := fun _ => True) (okp := fun _ => True) ?hr ?hp (fun _ hk => hk) trivial (Below.refl _ _) (Nat.le_refl _) (by simp) ?_; (case hd => rfl); (case hg => rfl); (case hr => first | (go_simp; done) | (go_simp; rfl)); (case hp => exact (Reps.c6 (show Kd.M k36 _ _ _ (⟨t606, (rd_T36 l0 x28_3).f1, (rd_T36 l0 x28_3).f2, (rd_T36 l0 x28_3).f3, (rd_T36 l0 x28_3).f4, (rd_T36 l0 x28_3).f5⟩ : S36) [.int .i64 t606, .int .i64 ((rd_T36 l0 x28_3).f1), .int .u64 ((rd_T36 l0 x28_3).f2), .int .u64 ((rd_T36 l0 x28_3).f3), .int .u64 ((rd_T36 l0 x28_3).f4), .string ((rd_T36 l0 x28_3).f5)] from (k36_mkM _ _ _ (⟨t606, (rd_T36 l0 x28_3).f1, (rd_T36 l0 x28_3).f2, (rd_T36 l0 x28_3).f3, (rd_T36 l0 x28_3).f4, (rd_T36 l0 x28_3).f5⟩ : S36) )) (Reps.none _ _))); intro v608 w57 ho58 hb hg_ hnew_; clear hg_ hnew_; (first | rw [← Ny607.out] at ho58 | (simp only [Int.reduceToNat] at ho58; rw [← Ny607.out] at ho58)); have n0_ := Aside0.mk (Kd.V_elder' (by (with_reducible repeat (first | apply Kd.V_alloc | apply Kd.V_drewN | apply Kd.V_drew)); exact HO_0.out) (Kd.R_base ho58) hb); have n1_ := Aside0.mk (Kd.N_elder' (by (with_reducible repeat (first | apply Kd.N_alloc | apply Kd.N_drewN | apply Kd.N_drew)); exact HO_5.out) (Kd.R_base ho58) hb); have n2_ := Aside0.mk (Kd.V_elder' (by (with_reducible repeat (first | apply Kd.V_alloc | apply Kd.V_drewN | apply Kd.V_drew)); exact HO_26.out) (Kd.R_base ho58) hb); have n3_ := Aside0.mk (Kd.R_lower (Kd.R_newB (Kd.R_newM (M := fun k_ => (w.heap.size ≤ k_)) ho58 (below_size (by repeat (first | (with_reducible first | exact HB.out | apply below_alloc | apply pw_below_drewN | apply below_drew1 | refine below_set ?_ GE596.out | refine below_set ?_ GE605.out) | exact HB.out))) (fun k_ h_ => h_)) (g := gb605) (o := .cells #[.int .i64 t606, .int .i64 ((rd_T36 l0 x28_3).f1), .int .u64 ((rd_T36 l0 x28_3).f2), .int .u64 ((rd_T36 l0 x28_3).f3), .int .u64 ((rd_T36 l0 x28_3).f4), .string ((rd_T36 l0 x28_3).f5)] 36 (0, 0)) (by (with_reducible repeat (first | refine blk_drewN ?_ _ | refine blk_drew ?_ | refine blk_alloc ?_ _)); exact BK605.out)) (below_size (by repeat (first | (with_reducible first | exact HB.out | apply below_alloc | apply pw_below_drewN | apply below_drew1 | refine below_set ?_ GE596.out | refine below_set ?_ GE605.out) | exact HB.out)))); have n4_ := Aside0.mk (blk_below (g := gb596) (o := .cells #[.int .u64 a1_0, .int .u64 a1_1, .int .u64 a1_2, .string (⟨#[]⟩ : ByteArray), .string a1_4] 24 (0, 0)) (by (with_reducible repeat (first | refine blk_drewN ?_ _ | refine blk_drew ?_ | refine blk_alloc ?_ _)); exact BK596.out) hb); have n5_ := Aside0.mk (blk_below (g := gb605) (o := .cells #[.int .i64 t606, .int .i64 ((rd_T36 l0 x28_3).f1), .int .u64 ((rd_T36 l0 x28_3).f2), .int .u64 ((rd_T36 l0 x28_3).f3), .int .u64 ((rd_T36 l0 x28_3).f4), .string ((rd_T36 l0 x28_3).f5)] 36 (0, 0)) (by (with_reducible repeat (first | refine blk_drewN ?_ _ | refine blk_drew ?_ | refine blk_alloc ?_ _)); exact BK605.out) hb); have n6_ := Aside0.mk (below_step (by repeat (first | (with_reducible first | exact HB.out | apply below_alloc | apply pw_below_drewN | apply below_drew1 | refine below_set ?_ GE596.out | refine below_set ?_ GE605.out) | exact HB.out)) hb); clear HO_0; clear HO_5; clear HO_26; clear BK596; clear BK605; clear HB; have HO_0 := n0_; have HO_5 := n1_; have HO_26 := n2_; have HO609 := n3_; have BK596 := n4_; have BK605 := n5_; have HB := n6_; clear n0_ n1_ n2_ n3_ n4_ n5_ n6_; clear hb ho58; obtain ⟨Ao60, co60, eo60⟩ := Kd.R_slice HO609.out; subst eo60) | ((with_reducible refine only_builtin (b := .append) (xs := #[.tmp 49, .tmp 52]) rfl ?_); (try (refine gate_guard (by rfl) ?_; dsimp only)); at_builtin; refine Kd.N_append (Kd.slice 36 k36) (w0 := w) w.heap.size rfl (.tmp 49) (.tmp 52) 54 65 (.slice none 0 0) 24 rfl Tryd.underlying54 info65 rfl (by decide) (by omega) u5 x5_3 y607 [.slice Ao60 y607.length co60] (fun k_ => (P0_ k_ ∨ w.heap.size ≤ k_) ∧ k_ ≠ gb596 ∧ k_ ≠ gb605) (fun k_ => ((fun k_ => (P0_ k_ ∨ w.heap.size ≤ k_) ∧ k_ ≠ gb596 ∧ k_ ≠ gb605)) k_ ∧ some k_ ≠ (u5 : Value).ownBlock) rfl rfl ?aP (fun _ hk => hk) ?aF ?aO ?aB ?aS ?aL ?_; (case aP => exact (Kd.FK_slice_mk (Kd.R_reads' (Kd.R_mono (ok' := (fun k_ => ((fun k_ => (P0_ k_ ∨ w.heap.size ≤ k_) ∧ k_ ≠ gb596 ∧ k_ ≠ gb605)) k_ ∧ some k_ ≠ (u5 : Value).ownBlock)) (Kd.R_types (Kd.R_apart' (HO609.out) (Kd.N_typed HO_5.out) (by decide)) BK596.out (by decide)) (fun k_ hk => ⟨⟨(.inr (hk.1.1.1.1)), ⟨hk.2, hk.1.1.2⟩⟩, hk.1.2⟩))).2.1 (Kd.R_F (Kd.R_mono (ok' := (fun k_ => ((fun k_ => (P0_ k_ ∨ w.heap.size ≤ k_) ∧ k_ ≠ gb596 ∧ k_ ≠ gb605)) k_ ∧ some k_ ≠ (u5 : Value).ownBlock)) (Kd.R_types (Kd.R_apart' (HO609.out) (Kd.N_typed HO_5.out) (by decide)) BK596.out (by decide)) (fun k_ hk => ⟨⟨(.inr (hk.1.1.1.1)), ⟨hk.2, hk.1.1.2⟩⟩, hk.1.2⟩))))); (case aB => exact (by repeat (first | (with_reducible first | exact HB.out | apply below_alloc | apply pw_below_drewN | apply below_drew1 | refine below_set ?_ GE596.out | refine below_set ?_ GE605.out) | exact HB.out))); (case aF => exact (fun k_ hk => ⟨(.inr (Nat.le_trans (below_size (by repeat (first | (with_reducible first | exact HB.out | apply below_alloc | apply pw_below_drewN | apply below_drew1 | refine below_set ?_ GE596.out | refine below_set ?_ GE605.out) | exact HB.out))) hk)), Kd.freshB (g := gb596) (o := .cells #[.int .u64 a1_0, .int .u64 a1_1, .int .u64 a1_2, .string (⟨#[]⟩ : ByteArray), .string a1_4] 24 (0, 0)) (by (with_reducible repeat (first | refine blk_drewN ?_ _ | refine blk_drew ?_ | refine blk_alloc ?_ _)); exact BK596.out) k_ hk, Kd.freshB (g := gb605) (o := .cells #[.int .i64 t606, .int .i64 ((rd_T36 l0 x28_3).f1), .int .u64 ((rd_T36 l0 x28_3).f2), .int .u64 ((rd_T36 l0 x28_3).f3), .int .u64 ((rd_T36 l0 x28_3).f4), .string ((rd_T36 l0 x28_3).f5)] 36 (0, 0)) (by (with_reducible repeat (first | refine blk_drewN ?_ _ | refine blk_drew ?_ | refine blk_alloc ?_ _)); exact BK605.out) k_ hk⟩)); (case aO => exact (by (with_reducible repeat (first | apply Kd.N_alloc | apply Kd.N_drewN | apply Kd.N_drew)); exact Kd.N_mono HO_5.out (fun _ hk => ⟨hk.1.1, ⟨hk.1.2.1, hk.1.2.2⟩⟩))); (case aS => exact (below_size (by repeat (first | (with_reducible first | exact HB.out | apply below_alloc | apply pw_below_drewN | apply below_drew1 | refine below_set ?_ GE596.out | refine below_set ?_ GE605.out) | exact HB.out)))); (case aL => have := LMc49.out; omega); intro v611 w59 ho hb hg hat; rw [← Ny610.out] at ho; have n0_ := Aside0.mk (Kd.V_afterv (ok := (fun k_ => (P0_ k_ ∨ w.heap.size ≤ k_) ∧ some k_ ≠ (.slice Ao60 y607.length co60 : Value).ownBlock ∧ k_ ≠ gb596 ∧ k_ ≠ gb605)) (by (with_reducible repeat (first | apply Kd.V_alloc | apply Kd.V_drewN | apply Kd.V_drew)); exact Kd.V_mono HO_0.out (fun _ hk => ⟨⟨hk.1.1, ⟨hk.2, ⟨hk.1.2.2.1, hk.1.2.2.2⟩⟩⟩, hk.1.2.1⟩)) hg hat); have n1_ := Aside0.mk (Kd.V_afterv (ok := (fun k_ => (P0_ k_ ∨ w.heap.size ≤ k_) ∧ some k_ ≠ (.slice Ao60 y607.length co60 : Value).ownBlock ∧ k_ ≠ gb596 ∧ k_ ≠ gb605)) (by (with_reducible repeat (first | apply Kd.V_alloc | apply Kd.V_drewN | apply Kd.V_drew)); exact Kd.V_mono HO_26.out (fun _ hk => ⟨⟨hk.1.1, ⟨hk.2, ⟨hk.1.2.2.1, hk.1.2.2.2⟩⟩⟩, hk.1.2.1⟩)) hg hat); have n2_ := Aside0.mk (blk_grown (g := gb596) (o := .cells #[.int .u64 a1_0, .int .u64 a1_1, .int .u64 a1_2, .string (⟨#[]⟩ : ByteArray), .string a1_4] 24 (0, 0)) (by (with_reducible repeat (first | refine blk_drewN ?_ _ | refine blk_drew ?_ | refine blk_alloc ?_ _)); exact BK596.out) hg (Kd.N_ne HO_5.out BK596.out (by decide))); have n3_ := Aside0.mk (blk_grown (g := gb605) (o := .cells #[.int .i64 t606, .int .i64 ((rd_T36 l0 x28_3).f1), .int .u64 ((rd_T36 l0 x28_3).f2), .int .u64 ((rd_T36 l0 x28_3).f3), .int .u64 ((rd_T36 l0 x28_3).f4), .string ((rd_T36 l0 x28_3).f5)] 36 (0, 0)) (by (with_reducible repeat (first | refine blk_drewN ?_ _ | refine blk_drew ?_ | refine blk_alloc ?_ _)); exact BK605.out) hg (Kd.N_ne HO_5.out BK605.out (by decide))); have n4_ := Aside0.mk (hb); have n5_ := Aside0.mk (ho); clear HO_0; clear HO_26; clear BK596; clear BK605; clear HB; clear HO_5; clear HO609; have HO_0 := n0_; have HO_26 := n1_; have BK596 := n2_; have BK605 := n3_; have HB := n4_; have HO612 := n5_; clear n0_ n1_ n2_ n3_ n4_ n5_; clear ho hb hg hat))
                go_roundg k3
                case measure => have := HJ2.out; have := HJ12.out; have := HK3.out; omega
                case rel => exact ⟨(y610), (wrap64 (x28_3 + 1)), (by first | rfl | (simp; done) | (simp [*]; done) | (simp [nil_bne]; done)), H', ⟨by have := HJ2.out; have := HJ12.out; have := HK3.out; omega⟩, ⟨by (with_reducible repeat (first | apply Kd.V_alloc | apply Kd.V_drewN | apply Kd.V_drew)); exact Kd.V_mono HO_0.out (fun _ hk => ⟨hk.1.1, ⟨hk.2, hk.1.2.2.1⟩⟩)⟩, ⟨by (with_reducible repeat (first | apply Kd.N_alloc | apply Kd.N_drewN | apply Kd.N_drew)); exact Kd.N_mono HO612.out (fun _ hk => ⟨hk.1, hk.2.1⟩)⟩, ⟨by (with_reducible repeat (first | apply Kd.V_alloc | apply Kd.V_drewN | apply Kd.V_drew)); exact Kd.V_mono HO_26.out (fun _ hk => ⟨hk.1.1, ⟨hk.2, hk.1.2.2.1⟩⟩)⟩, ⟨by (with_reducible repeat (first | refine blk_drewN ?_ _ | refine blk_drew ?_ | refine blk_alloc ?_ _)); exact BK596.out⟩, ⟨by repeat (first | (with_reducible first | exact HB.out | apply below_alloc | apply pw_below_drewN | apply below_drew1 | refine below_set ?_ GE596.out | refine below_set ?_ GE605.out) | exact HB.out)⟩⟩
               ·rw [if_neg c49] at H
                exact absurd H (by simp)
           ·rw [if_neg c29] at H
            exact absurd H (by simp)
          ·rw [if_neg c28] at H
           exact absurd H (by simp)
         ·rw [if_neg c27] at H
          have c27b0 : decide (x28_3 < (l0.length : Int)) = false := decide_eq_false c27
          clear c27
          obtain ⟨y613, hy613⟩ : ∃ y_ : List (List (S36)), y_ = (([l0] : List (List (S36)))) := ⟨_, rfl⟩
          replace H : ((impl_TermsHold.f k3 y613 a1_0 a1_1 a1_2 (⟨#[]⟩ : ByteArray) a1_4 false).bind fun t616 => ((impl_TermsHold.f k3 x5_3 a1_0 a1_1 a1_2 (⟨#[]⟩ : ByteArray) a1_4 false).bind fun t617 => (some (t616 != t617)))) = some r := by first | (rw [hy613]; with_reducible exact H) | (have H2_ := (Option.bind_some _ _).symm.trans H; rw [hy613]; with_reducible exact H2_) | (have H2_ := (Option.bind_some _ _).symm.trans H; with_reducible exact H2_) | with_reducible exact H | (rw [hy613]; exact H) | exact H
          have Ny613 := Aside0.mk hy613
          clear hy613
          replace H := Option.bind_eq_some_iff.mp H
          obtain ⟨t616, A610, H⟩ := H
          replace H : ((impl_TermsHold.f k3 x5_3 a1_0 a1_1 a1_2 (⟨#[]⟩ : ByteArray) a1_4 false).bind fun t617 => (some (t616 != t617))) = some r := H
          have A61 := Aside0.mk A610
          clear A610
          replace H := Option.bind_eq_some_iff.mp H
          obtain ⟨t617, A620, H⟩ := H
          replace H : (some (t616 != t617)) = some r := H
          have A62 := Aside0.mk A620
          clear A620
          obtain rfl := Option.some.inj H
          try go_wp2
          have n0_ := Aside0.mk (Kd.V_drew HO_0.out)
          have n1_ := Aside0.mk (Kd.N_drew HO_5.out)
          have n2_ := Aside0.mk (Kd.V_drew HO_26.out)
          have n3_ := Aside0.mk (blk_drew BK596.out)
          have n4_ := Aside0.mk (below_drew1 HB.out)
          clear HO_0
          clear HO_5
          clear HO_26
          clear BK596
          clear HB
          have HO_0 := n0_
          have HO_5 := n1_
          have HO_26 := n2_
          have BK596 := n3_
          have HB := n4_
          clear n0_ n1_ n2_ n3_ n4_
          refine start_ (n := 9) (S := fun w' => w'.cell? ⟨gb596, 0, none⟩ = some (.int .u64 a1_0) ∧ w'.cell? ⟨gb596, 1, none⟩ = some (.int .u64 a1_1) ∧ w'.cell? ⟨gb596, 2, none⟩ = some (.int .u64 a1_2) ∧ w'.cell? ⟨gb596, 3, none⟩ = some (.string (⟨#[]⟩ : ByteArray)) ∧ w'.cell? ⟨gb596, 4, none⟩ = some (.string a1_4)) (ds := []) #[false, false, false, false, false, false, false, false, false] (by kernel_rfl) rfl rfl ⟨(blk_cell BK596.out 0).trans rfl, (blk_cell BK596.out 1).trans rfl, (blk_cell BK596.out 2).trans rfl, (blk_cell BK596.out 3).trans rfl, (blk_cell BK596.out 4).trans rfl⟩ (fun hHeld => ?_); refine with_tabW laws_FnSemverTermsOpposite.tab15 laws_FnSemverTermsOpposite.bits15 (fun HT_ HW_ => ?_)
          generalize wr.drew = w63 at HO_0 HO_5 HO_26 BK596 HB hHeld ⊢
          refine pure_ (i := 0) (N := some 55) (v := ?_) (a' := ?_) #[true, false, false, false, false, false, false, false, false] rfl rfl (any_of HT_.out (by kernel_rfl)) (fun _ _ _ h => h) (Or.inl ⟨by rfl, ?_⟩) ?_ ?_
          rotate_left
          ·intro w'
           go_simp
           with_reducible rfl
          rotate_left
          ·simp only [Act.put, List.setIfInBounds_toArray, List.set_cons_zero, List.set_cons_succ, i64_w, i32_w]
           rfl
          refine pure_ (i := 4) (N := some 59) (v := ?_) (a' := ?_) #[true, false, false, false, true, false, false, false, false] rfl rfl (any_of HT_.out (by kernel_rfl)) (fun _ _ _ h => h) (Or.inl ⟨by rfl, ?_⟩) ?_ ?_
          rotate_left
          ·intro w'
           go_simp
           with_reducible rfl
          rotate_left
          ·simp only [Act.put, List.setIfInBounds_toArray, List.set_cons_zero, List.set_cons_succ, i64_w, i32_w]
           rfl
          refine take_ (i := 2) (N := some 57) (v := ?_) (a' := ?_) #[true, false, true, false, true, false, false, false, false] rfl rfl (take_ofW HT_.out HW_.out (by kernel_rfl)) (fun _ _ _ h => h) (Or.inl ⟨by rfl, ?_⟩) hHeld ?_ ?_
          rotate_left
          ·rintro w' ⟨s0, s1, s2, s3, s4⟩
           go_simp
           with_reducible rfl
          rotate_left
          ·simp only [Act.put, List.setIfInBounds_toArray, List.set_cons_zero, List.set_cons_succ, i64_w, i32_w]
           rfl
          refine take_ (i := 5) (N := some 60) (v := ?_) (a' := ?_) #[true, false, true, false, true, true, false, false, false] rfl rfl (take_ofW HT_.out HW_.out (by kernel_rfl)) (fun _ _ _ h => h) (Or.inl ⟨by rfl, ?_⟩) hHeld ?_ ?_
          rotate_left
          ·rintro w' ⟨s0, s1, s2, s3, s4⟩
           go_simp
           with_reducible rfl
          rotate_left
          ·simp only [Act.put, List.setIfInBounds_toArray, List.set_cons_zero, List.set_cons_succ, i64_w, i32_w]
           rfl
          refine one_ (i := 1) (N := some 56) #[true, true, true, false, true, true, false, false, false] rfl rfl (one_of HT_.out (by kernel_rfl)) (by decide) (fun K hK => ?_)
          refine Kd.N_lit_step (Kd.slice 36 k36) _ 65 ?hg (N' := 56) ?hd (xs := ([l0] : List (List (S36)))) (inner := [.slice A0 l0.length c0]) (ok := (fun k_ => (P0_ k_ ∨ w.heap.size ≤ k_) ∧ some k_ ≠ (u5 : Value).ownBlock ∧ k_ ≠ gb596)) (okp := (fun k_ => (P0_ k_ ∨ w.heap.size ≤ k_) ∧ some k_ ≠ (u5 : Value).ownBlock ∧ k_ ≠ gb596)) ?hr ?hp (fun _ hk => hk) ((show ∀ k_, w63.heap.size ≤ k_ → (fun k_ => (P0_ k_ ∨ w.heap.size ≤ k_) ∧ some k_ ≠ (u5 : Value).ownBlock ∧ k_ ≠ gb596) k_ from fun k_ hk => ⟨(.inr (Nat.le_trans (below_size (by repeat (first | (with_reducible first | exact HB.out | apply below_alloc | apply pw_below_drewN | apply below_drew1 | refine below_set ?_ GE596.out) | exact HB.out))) hk)), Kd.fresh' (Kd.N_lt (by (with_reducible repeat (first | apply Kd.N_alloc | apply Kd.N_drewN | apply Kd.N_drew)); exact HO_5.out)) k_ hk, Kd.freshB (g := gb596) (o := .cells #[.int .u64 a1_0, .int .u64 a1_1, .int .u64 a1_2, .string (⟨#[]⟩ : ByteArray), .string a1_4] 24 (0, 0)) (by (with_reducible repeat (first | refine blk_drewN ?_ _ | refine blk_drew ?_ | refine blk_alloc ?_ _)); exact BK596.out) k_ hk⟩) _ (Nat.le_refl _)) (Below.refl _ _) (Nat.le_refl _) (by simp) ?_; (case hd => rfl); (case hg => rfl); (case hr => first | (go_simp; done) | (go_simp; rfl)); (case hp => exact (Reps.one (show Kd.FK (Kd.slice 36 k36) _ _ l0 [.slice A0 l0.length c0] from (Kd.FK_slice_mk (Kd.V_reads' (Kd.V_mono (ok' := (fun k_ => (P0_ k_ ∨ w.heap.size ≤ k_) ∧ some k_ ≠ (u5 : Value).ownBlock ∧ k_ ≠ gb596)) (HO_0.out) (fun k_ hk => ⟨hk.1, ⟨hk.2.1, hk.2.2⟩⟩))).2.1 (Kd.V_F (Kd.V_mono (ok' := (fun k_ => (P0_ k_ ∨ w.heap.size ≤ k_) ∧ some k_ ≠ (u5 : Value).ownBlock ∧ k_ ≠ gb596)) (HO_0.out) (fun k_ hk => ⟨hk.1, ⟨hk.2.1, hk.2.2⟩⟩))))) (Reps.none _ _)))
          intro v614 w64 ho65 hb hg_ hnew_
          clear hg_ hnew_
          (first | rw [← Ny613.out] at ho65 | (simp only [Int.reduceToNat] at ho65; rw [← Ny613.out] at ho65))
          have n0_ := Aside0.mk (Kd.V_elder' (by (with_reducible repeat (first | apply Kd.V_alloc | apply Kd.V_drewN | apply Kd.V_drew)); exact HO_0.out) (Kd.N_base ho65) hb)
          have n1_ := Aside0.mk (Kd.N_elder' (by (with_reducible repeat (first | apply Kd.N_alloc | apply Kd.N_drewN | apply Kd.N_drew)); exact HO_5.out) (Kd.N_base ho65) hb)
          have n2_ := Aside0.mk (Kd.V_elder' (by (with_reducible repeat (first | apply Kd.V_alloc | apply Kd.V_drewN | apply Kd.V_drew)); exact HO_26.out) (Kd.N_base ho65) hb)
          have n3_ := Aside0.mk (Kd.N_lower ho65 (below_size (by repeat (first | (with_reducible first | exact HB.out | apply below_alloc | apply pw_below_drewN | apply below_drew1 | refine below_set ?_ GE596.out) | exact HB.out))))
          have n4_ := Aside0.mk (blk_below (g := gb596) (o := .cells #[.int .u64 a1_0, .int .u64 a1_1, .int .u64 a1_2, .string (⟨#[]⟩ : ByteArray), .string a1_4] 24 (0, 0)) (by (with_reducible repeat (first | refine blk_drewN ?_ _ | refine blk_drew ?_ | refine blk_alloc ?_ _)); exact BK596.out) hb)
          have n5_ := Aside0.mk (below_step (by repeat (first | (with_reducible first | exact HB.out | apply below_alloc | apply pw_below_drewN | apply below_drew1 | refine below_set ?_ GE596.out) | exact HB.out)) hb)
          clear HO_0
          clear HO_5
          clear HO_26
          clear BK596
          clear HB
          have HO_0 := n0_
          have HO_5 := n1_
          have HO_26 := n2_
          have HO615 := n3_
          have BK596 := n4_
          have HB := n5_
          clear n0_ n1_ n2_ n3_ n4_ n5_
          clear hb ho65
          obtain ⟨Ao66, co66, eo66⟩ := Kd.N_slice HO615.out
          (first | subst eo66 | (injection eo66 with f1_ f2_ f3_; have f4_ := f1_.symm; have f5_ := f3_.symm; clear f1_ f2_ f3_; subst f4_; subst f5_))
          refine hK.out _ _ ⟨(blk_cell BK596.out 0).trans rfl, (blk_cell BK596.out 1).trans rfl, (blk_cell BK596.out 2).trans rfl, (blk_cell BK596.out 3).trans rfl, (blk_cell BK596.out 4).trans rfl⟩ (fun hHeld => ?_)
          clear hK K
          refine norm_ (a' := ?_) ?_ ?_
          rotate_left
          ·show Act.put _ (some 56) _ = _
           simp only [Act.put, List.setIfInBounds_toArray, List.set_cons_zero, List.set_cons_succ, i64_w, i32_w]
           rfl
          refine one_ (i := 3) (N := some 58) #[true, true, true, true, true, true, false, false, false] rfl rfl (one_of HT_.out (by kernel_rfl)) (by decide) (fun K hK => ?_)
          refine goes_ Tryd.func55 (by kernel_rfl) rfl #[.slice Ao66 y613.length co66, .agg #[.int .u64 a1_0, .int .u64 a1_1, .int .u64 a1_2, .string (⟨#[]⟩ : ByteArray), .string a1_4], .bool false] (by rfl) rfl rfl (by (try simp only [List.map_toArray, List.map_cons, List.map_nil]); first | done | rfl | (simp only [List.length_drop, List.length_take]; rfl)) ?_
          with_reducible refine (impl_TermsHold.calls k3 _ _ y613 a1_0 a1_1 a1_2 (⟨#[]⟩ : ByteArray) a1_4 false t616 _ ?side1 ?side2 ?side3 A61.out).mono ?_
          (case side1 => repeat (first | exact (Kd.N_reads' HO615.out).2.2 | (with_reducible refine Kd.C_alloc ?_ _) | (with_reducible refine Kd.C_drewN ?_ _) | (with_reducible refine Kd.C_drew ?_)))
          (case side2 => exact (Kd.N_reads' HO615.out).2.1)
          (case side3 => exact globE_below HGE.out (by repeat (first | (with_reducible first | exact HB.out | apply below_alloc | apply pw_below_drewN | apply below_drew1 | refine below_set ?_ GE596.out) | exact HB.out)))
          rintro e w67 ⟨rfl, hb⟩
          refine ⟨_, rfl, ?_⟩
          have n0_ := Aside0.mk (Kd.V_below (by (with_reducible repeat (first | apply Kd.V_alloc | apply Kd.V_drewN | apply Kd.V_drew)); exact HO_0.out) hb)
          have n1_ := Aside0.mk (Kd.N_below (by (with_reducible repeat (first | apply Kd.N_alloc | apply Kd.N_drewN | apply Kd.N_drew)); exact HO_5.out) hb)
          have n2_ := Aside0.mk (Kd.V_below (by (with_reducible repeat (first | apply Kd.V_alloc | apply Kd.V_drewN | apply Kd.V_drew)); exact HO_26.out) hb)
          have n3_ := Aside0.mk (Kd.N_below (by (with_reducible repeat (first | apply Kd.N_alloc | apply Kd.N_drewN | apply Kd.N_drew)); exact HO615.out) hb)
          have n4_ := Aside0.mk (blk_below (g := gb596) (o := .cells #[.int .u64 a1_0, .int .u64 a1_1, .int .u64 a1_2, .string (⟨#[]⟩ : ByteArray), .string a1_4] 24 (0, 0)) (by (with_reducible repeat (first | refine blk_drewN ?_ _ | refine blk_drew ?_ | refine blk_alloc ?_ _)); exact BK596.out) hb)
          have n5_ := Aside0.mk (below_step (by repeat (first | (with_reducible first | exact HB.out | apply below_alloc | apply pw_below_drewN | apply below_drew1 | refine below_set ?_ GE596.out) | exact HB.out)) hb)
          clear HO_0
          clear HO_5
          clear HO_26
          clear HO615
          clear BK596
          clear HB
          have HO_0 := n0_
          have HO_5 := n1_
          have HO_26 := n2_
          have HO615 := n3_
          have BK596 := n4_
          have HB := n5_
          clear n0_ n1_ n2_ n3_ n4_ n5_
          (try clear hb)
          (try clear hb2)
          (try clear hk)
          (try clear hi)
          obtain ⟨Ao68, co68, eo68⟩ := Kd.N_slice HO_5.out
          (first | subst eo68 | (injection eo68 with f1_ f2_ f3_; have f4_ := f1_.symm; have f5_ := f3_.symm; clear f1_ f2_ f3_; subst f4_; subst f5_))
          refine hK.out _ _ ⟨(blk_cell BK596.out 0).trans rfl, (blk_cell BK596.out 1).trans rfl, (blk_cell BK596.out 2).trans rfl, (blk_cell BK596.out 3).trans rfl, (blk_cell BK596.out 4).trans rfl⟩ (fun hHeld => ?_)
          clear hK K
          refine norm_ (a' := ?_) ?_ ?_
          rotate_left
          ·show Act.put _ (some 58) _ = _
           simp only [Act.put, List.setIfInBounds_toArray, List.set_cons_zero, List.set_cons_succ, i64_w, i32_w]
           rfl
          refine one_ (i := 6) (N := some 61) #[true, true, true, true, true, true, true, false, false] rfl rfl (one_of HT_.out (by kernel_rfl)) (by decide) (fun K hK => ?_)
          refine goes_ Tryd.func55 (by kernel_rfl) rfl #[.slice Ao68 x5_3.length co68, .agg #[.int .u64 a1_0, .int .u64 a1_1, .int .u64 a1_2, .string (⟨#[]⟩ : ByteArray), .string a1_4], .bool false] (by rfl) rfl rfl (by (try simp only [List.map_toArray, List.map_cons, List.map_nil]); first | done | rfl | (simp only [List.length_drop, List.length_take]; rfl)) ?_
          with_reducible refine (impl_TermsHold.calls k3 _ _ x5_3 a1_0 a1_1 a1_2 (⟨#[]⟩ : ByteArray) a1_4 false t617 _ ?side1 ?side2 ?side3 A62.out).mono ?_
          (case side1 => repeat (first | exact (Kd.N_reads' HO_5.out).2.2 | (with_reducible refine Kd.C_alloc ?_ _) | (with_reducible refine Kd.C_drewN ?_ _) | (with_reducible refine Kd.C_drew ?_)))
          (case side2 => exact (Kd.N_reads' HO_5.out).2.1)
          (case side3 => exact globE_below HGE.out (by repeat (first | (with_reducible first | exact HB.out | apply below_alloc | apply pw_below_drewN | apply below_drew1 | refine below_set ?_ GE596.out) | exact HB.out)))
          rintro e w69 ⟨rfl, hb⟩
          refine ⟨_, rfl, ?_⟩
          have n0_ := Aside0.mk (Kd.V_below (by (with_reducible repeat (first | apply Kd.V_alloc | apply Kd.V_drewN | apply Kd.V_drew)); exact HO_0.out) hb)
          have n1_ := Aside0.mk (Kd.N_below (by (with_reducible repeat (first | apply Kd.N_alloc | apply Kd.N_drewN | apply Kd.N_drew)); exact HO_5.out) hb)
          have n2_ := Aside0.mk (Kd.V_below (by (with_reducible repeat (first | apply Kd.V_alloc | apply Kd.V_drewN | apply Kd.V_drew)); exact HO_26.out) hb)
          have n3_ := Aside0.mk (Kd.N_below (by (with_reducible repeat (first | apply Kd.N_alloc | apply Kd.N_drewN | apply Kd.N_drew)); exact HO615.out) hb)
          have n4_ := Aside0.mk (blk_below (g := gb596) (o := .cells #[.int .u64 a1_0, .int .u64 a1_1, .int .u64 a1_2, .string (⟨#[]⟩ : ByteArray), .string a1_4] 24 (0, 0)) (by (with_reducible repeat (first | refine blk_drewN ?_ _ | refine blk_drew ?_ | refine blk_alloc ?_ _)); exact BK596.out) hb)
          have n5_ := Aside0.mk (below_step (by repeat (first | (with_reducible first | exact HB.out | apply below_alloc | apply pw_below_drewN | apply below_drew1 | refine below_set ?_ GE596.out) | exact HB.out)) hb)
          clear HO_0
          clear HO_5
          clear HO_26
          clear HO615
          clear BK596
          clear HB
          have HO_0 := n0_
          have HO_5 := n1_
          have HO_26 := n2_
          have HO615 := n3_
          have BK596 := n4_
          have HB := n5_
          clear n0_ n1_ n2_ n3_ n4_ n5_
          (try clear hb)
          (try clear hb2)
          (try clear hk)
          (try clear hi)
          refine hK.out _ _ ⟨(blk_cell BK596.out 0).trans rfl, (blk_cell BK596.out 1).trans rfl, (blk_cell BK596.out 2).trans rfl, (blk_cell BK596.out 3).trans rfl, (blk_cell BK596.out 4).trans rfl⟩ (fun hHeld => ?_)
          clear hK K
          refine norm_ (a' := ?_) ?_ ?_
          rotate_left
          ·show Act.put _ (some 61) _ = _
           simp only [Act.put, List.setIfInBounds_toArray, List.set_cons_zero, List.set_cons_succ, i64_w, i32_w]
           rfl
          refine pure_ (i := 7) (N := some 62) (v := ?_) (a' := ?_) #[true, true, true, true, true, true, true, true, false] rfl rfl (any_of HT_.out (by kernel_rfl)) (fun _ _ _ h => h) (Or.inl ⟨by rfl, ?_⟩) ?_ ?_
          rotate_left
          ·intro w'
           go_simp
           with_reducible rfl
          rotate_left
          ·simp only [Act.put, List.setIfInBounds_toArray, List.set_cons_zero, List.set_cons_succ, i64_w, i32_w]
           rfl
          refine pure_ (i := 8) (N := some 4) (v := ?_) (a' := ?_) #[true, true, true, true, true, true, true, true, true] rfl rfl (any_of HT_.out (by kernel_rfl)) (fun _ _ _ h => h) (Or.inl ⟨by rfl, ?_⟩) ?_ ?_
          rotate_left
          ·intro w'
           go_simp
           with_reducible rfl
          rotate_left
          ·simp only [Act.put, List.setIfInBounds_toArray, List.set_cons_zero, List.set_cons_succ, i64_w, i32_w]
           rfl
          refine done_ (done_of HT_.out (by kernel_rfl)) ?_
          try go_wp2
          go_ret
          exact ⟨by first | rfl | (simp [errW_none, errW_some] <;> rfl) | (simp [*, errW_none, errW_some] <;> rfl), by repeat (first | (with_reducible first | exact HB.out | apply below_alloc | apply pw_below_drewN | apply below_drew1 | refine below_set ?_ GE596.out) | exact HB.out)⟩

end Go.Proofs.YtlooelfkkbgmhaaDoor.QS
