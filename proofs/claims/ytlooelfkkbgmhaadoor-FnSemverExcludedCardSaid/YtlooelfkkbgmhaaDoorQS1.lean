-- written by a program of mine (wip/tools/myprint.py, gather.py) for this claim. Not trusted: Lean checks it.
import Derived.Below
import Derived.Deep.Draws
import Derived.Deep.AppendLies
import Derived.Maps.AppendAt
import Derived.OwnWalk
import Derived.Laws.BytesArg
import Derived.Laws.MakeOwn
import Derived.Laws.OwnMore
import Derived.Deep.OwnRows
import Derived.Tactics
import Derived.Lib.ConvBytes
import Derived.Laws.Slices
import Derived.WalkKit
import Derived.KernelRfl
import Derived.RowKit3
import Derived.Deep.LoopGhost
import Derived.Deep.QuietTactic
import Derived.BigQuiet
import Derived.WideLaws
import Derived.Deep.DeepCutAuto
import Derived.Deep.CutBlock
import Derived.Deep.RegionHeld3
import Derived.Laws.Rows
import Derived.Lib.AppendStr
import Derived.ArgAppend
import Derived.Laws.IdiomCopy
import Derived.OrdersHeld
import Derived.Laws.BitsLemmas
import Derived.RowKit
import Derived.Test.YtlooelfkkbgmhaaDoorQSL
namespace Go.Proofs.YtlooelfkkbgmhaaDoor.QS
open Go.RowKit Go.Proofs.YtlooelfkkbgmhaaDoorW.PrintWords Go.Proofs.YtlooelfkkbgmhaaDoorW.PrintLast

end Go.Proofs.YtlooelfkkbgmhaaDoor.QS
namespace Go.Proofs.YtlooelfkkbgmhaaDoor.QS
open Go.RowKit Go.Proofs.YtlooelfkkbgmhaaDoorW.PrintWords Go.Proofs.YtlooelfkkbgmhaaDoorW.PrintLast

set_option linter.unusedVariables false
set_option linter.unusedSimpArgs false

/-! ### laws_zzFits11: function 52 -/
def laws_zzFits11.l0 : Nat → List (List (S36)) → Int → Int → Option (Bool)
 | 0, _, _, _ => none
 | k + 1, x8, x9, x10 => if x10 < x9 then (if 0 ≤ x10 then (if x10 < (x8.length : Int) then ((laws_zzFits12.f k (rd_L6 x8 x10)).bind fun t516 => (if t516 = true then (laws_zzFits11.l0 k x8 x9 (wrap64 (x10 + 1))) else (some false))) else (none)) else (none)) else (some true)
def laws_zzFits11.f (k : Nat) (l0 : List (List (S36))) : Option (Bool) := if (l0.length : Int) > 2147483647 then (some false) else (laws_zzFits11.l0 k l0 (l0.length : Int) 0)
theorem laws_zzFits11.mono_l : ∀ k, (∀ y0 y1 y2, LeO (laws_zzFits11.l0 k y0 y1 y2) (laws_zzFits11.l0 (k + 1) y0 y1 y2))
 | 0 => fun _ _ _ r h => by simp [laws_zzFits11.l0] at h
 | k + 1 => by
  have ih0 := laws_zzFits11.mono_l k
  ·intro y0 y1 y2
   unfold laws_zzFits11.l0
   repeat' first
   | (with_reducible exact ih0 _ _ _)
   | (with_reducible exact laws_zzFits12.mono _ _)
   | (with_reducible exact LeO.refl _)
   | (with_reducible exact LeO.none _)
   | (with_reducible refine LeO.ite ?_ ?_)
   | (with_reducible refine LeO.bind ?_ (fun _ => ?_))
   | exact ih0 _ _ _
   | exact laws_zzFits12.mono _ _
   | exact LeO.none _
   | refine LeO.ite ?_ ?_
   | refine LeO.bind ?_ (fun _ => ?_)
theorem laws_zzFits11.mono : ∀ a0 k, LeO (laws_zzFits11.f k a0) (laws_zzFits11.f (k + 1) a0) := by
 intro a0 k
 have ih0 := laws_zzFits11.mono_l k
 unfold laws_zzFits11.f
 repeat' first
   | (with_reducible exact ih0 _ _ _)
   | (with_reducible exact laws_zzFits12.mono _ _)
   | (with_reducible exact LeO.refl _)
   | (with_reducible exact LeO.none _)
   | (with_reducible refine LeO.ite ?_ ?_)
   | (with_reducible refine LeO.bind ?_ (fun _ => ?_))
   | exact ih0 _ _ _
   | exact laws_zzFits12.mono _ _
   | exact LeO.none _
   | refine LeO.ite ?_ ?_
   | refine LeO.bind ?_ (fun _ => ?_)
set_option maxHeartbeats 8000000 in
set_option maxRecDepth 100000 in
theorem laws_zzFits11.calls (k : Nat) (A0 : Option Addr) (c0 : Nat) (l0 : List (List (S36))) (r : Bool) (w : World) (hr0 : Kd.C (Kd.slice 36 k36) w A0 l0.length l0) (hc0 : l0.length ≤ c0) (h : laws_zzFits11.f k l0 = some r) :
  Calls Tryd.prog 52 #[.slice A0 l0.length c0] w fun e w' => e = .returned (.bool r) ∧ Below w.heap.size w w' := by
 have HR0 := Aside0.mk hr0
 have HC0 := Aside0.mk hc0
 clear hr0 hc0
 have HB := Aside0.mk (Below.refl w.heap.size w)
 have H : (if (l0.length : Int) > 2147483647 then (some false) else (laws_zzFits11.l0 k l0 (l0.length : Int) 0)) = some r := h
 clear h
 by_cases c2 : (l0.length : Int) > 2147483647
 ·rw [if_pos c2] at H
  have c2b0 : decide (2147483647 < (l0.length : Int)) = true := decide_eq_true c2
  have c2b1 : decide (2147483647 < l0.length) = true := decide_eq_true (by omega)
  clear c2
  obtain rfl := Option.some.inj H
  go_enter Tryd.func52, Tryd.ntmps52
  go_wp2
  go_ret
  exact ⟨by first | rfl | (simp [errW_none, errW_some] <;> rfl) | (simp [*, errW_none, errW_some] <;> rfl), by repeat (first | (with_reducible first | exact HB.out | apply below_alloc | apply pw_below_drewN | apply below_drew1) | exact HB.out)⟩
 ·rw [if_neg c2] at H
  have c2b0 : decide (2147483647 < (l0.length : Int)) = false := decide_eq_false c2
  have c2b1 : decide (2147483647 < l0.length) = false := decide_eq_false (by omega)
  clear c2
  have H' := Aside0.mk H
  clear H
  go_enter Tryd.func52, Tryd.ntmps52
  go_wp2
  go_loopg [10] k (fun kq v10 w' => ∃ (x10_1 : Int), v10 = .int .i64 x10_1 ∧ Aside0 (laws_zzFits11.l0 kq l0 (l0.length : Int) x10_1 = some r) ∧ Aside0 (kq ≤ k) ∧ Aside0 (Below w.heap.size w w'))
  case atStart => exact ⟨(0), (by first | rfl | (simp; done) | (simp [*]; done) | (simp [nil_bne]; done)), H', ⟨Nat.le_refl _⟩, ⟨by repeat (first | (with_reducible first | exact HB.out | apply below_alloc | apply pw_below_drewN | apply below_drew1) | exact HB.out)⟩⟩
  case round =>
   clear H'
   try clear c2
   try clear c2b0
   try clear c2b1
   try clear p2
   obtain ⟨x10_1, rfl, HA, HK1, HB⟩ := hrel
   cases gk with
   | zero => exact absurd HA.out (by simp [laws_zzFits11.l0])
   | succ k1 =>
    have H := HA.out
    clear HA
    simp only [laws_zzFits11.l0] at H
    by_cases c3 : x10_1 < (l0.length : Int)
    ·rw [if_pos c3] at H
     have c3b0 : decide (x10_1 < (l0.length : Int)) = true := decide_eq_true c3
     clear c3
     by_cases c4 : 0 ≤ x10_1
     ·rw [if_pos c4] at H
      have c4b0 : decide (0 ≤ x10_1) = true := decide_eq_true c4
      clear c4
      by_cases c5 : x10_1 < (l0.length : Int)
      ·rw [if_pos c5] at H
       have c5b0 : decide (x10_1 < (l0.length : Int)) = true := decide_eq_true c5
       clear c5
       replace H := Option.bind_eq_some_iff.mp H
       obtain ⟨t516, A60, H⟩ := H
       replace H : (if t516 = true then (laws_zzFits11.l0 k1 l0 (l0.length : Int) (wrap64 (x10_1 + 1))) else (some false)) = some r := H
       have A6 := Aside0.mk A60
       clear A60
       by_cases c7 : t516 = true
       ·subst c7
        have H1 : (laws_zzFits11.l0 k1 l0 (l0.length : Int) (wrap64 (x10_1 + 1))) = some r := by rw [if_pos rfl] at H; exact H
        clear H
        have H := H1
        clear H1
        have H' := Aside0.mk H
        clear H
        have p515 : 0 ≤ (x10_1 : Int) := of_decide_eq_true (by first | (with_reducible assumption) | assumption)
        have q515 : x10_1 < (l0.length : Int) := of_decide_eq_true (by first | (with_reducible assumption) | assumption)
        obtain ⟨ad515, A515_0, c515_0, e515, hx515_0, hl515_0, hi515_0⟩ := at_L6 HR0.out x10_1 p515 q515
        cases e515
        replace hx515_0 := (HB.out.cell (World.block_lt_of_cell? w _ hx515_0)).trans hx515_0
        have HR515_0 := Aside0.mk hi515_0
        have HC515_0 := Aside0.mk hl515_0
        clear hi515_0 hl515_0
        replace p515 := eq_true p515
        replace q515 := eq_true q515
        go_wp2_with (first | ((with_reducible refine only_callee (f := 61) rfl ?_); refine goesL_ (some 15) rfl rfl Tryd.func61 (by kernel_rfl) rfl #[.slice A515_0 (rd_L6 l0 x10_1).length c515_0] rfl (by (try simp only [List.map_toArray, List.map_cons, List.map_nil]); first | done | rfl | (simp only [List.length_drop, List.length_take]; rfl)) ?_; (with_reducible refine (laws_zzFits12.calls k1 _ _ (rd_L6 l0 x10_1) true _ ?side1 ?side2 A6.out).mono ?_); (case side1 => repeat (first | exact (Kd.C_below HR515_0.out HB.out) | (with_reducible refine Kd.C_alloc ?_ _) | (with_reducible refine Kd.C_drewN ?_ _) | (with_reducible refine Kd.C_drew ?_))); (case side2 => exact HC515_0.out); rintro e w8 ⟨rfl, hb⟩; refine ⟨_, rfl, ?_⟩; have n0_ := Aside0.mk (below_step (by repeat (first | (with_reducible first | exact HB.out | apply below_alloc | apply pw_below_drewN | apply below_drew1) | exact HB.out)) hb); clear HB; have HB := n0_; clear n0_; (try clear hb); (try clear hb2); (try clear hk); (try clear hi)))
        go_roundg k1
        case measure => have := HK1.out; omega
        case rel => exact ⟨(wrap64 (x10_1 + 1)), (by first | rfl | (simp; done) | (simp [*]; done) | (simp [nil_bne]; done)), H', ⟨by have := HK1.out; omega⟩, ⟨by repeat (first | (with_reducible first | exact HB.out | apply below_alloc | apply pw_below_drewN | apply below_drew1) | exact HB.out)⟩⟩
       ·replace c7 := Bool.eq_false_iff.mpr c7
        subst c7
        have H1 : (some false) = some r := by rw [if_neg (show ¬ (false = true) by decide)] at H; exact H
        clear H
        have H := H1
        clear H1
        obtain rfl := Option.some.inj H
        have p515 : 0 ≤ (x10_1 : Int) := of_decide_eq_true (by first | (with_reducible assumption) | assumption)
        have q515 : x10_1 < (l0.length : Int) := of_decide_eq_true (by first | (with_reducible assumption) | assumption)
        obtain ⟨ad515, A515_0, c515_0, e515, hx515_0, hl515_0, hi515_0⟩ := at_L6 HR0.out x10_1 p515 q515
        cases e515
        replace hx515_0 := (HB.out.cell (World.block_lt_of_cell? w _ hx515_0)).trans hx515_0
        have HR515_0 := Aside0.mk hi515_0
        have HC515_0 := Aside0.mk hl515_0
        clear hi515_0 hl515_0
        replace p515 := eq_true p515
        replace q515 := eq_true q515
        go_wp2_with (first | ((with_reducible refine only_callee (f := 61) rfl ?_); refine goesL_ (some 15) rfl rfl Tryd.func61 (by kernel_rfl) rfl #[.slice A515_0 (rd_L6 l0 x10_1).length c515_0] rfl (by (try simp only [List.map_toArray, List.map_cons, List.map_nil]); first | done | rfl | (simp only [List.length_drop, List.length_take]; rfl)) ?_; (with_reducible refine (laws_zzFits12.calls k1 _ _ (rd_L6 l0 x10_1) false _ ?side1 ?side2 A6.out).mono ?_); (case side1 => repeat (first | exact (Kd.C_below HR515_0.out HB.out) | (with_reducible refine Kd.C_alloc ?_ _) | (with_reducible refine Kd.C_drewN ?_ _) | (with_reducible refine Kd.C_drew ?_))); (case side2 => exact HC515_0.out); rintro e w9 ⟨rfl, hb⟩; refine ⟨_, rfl, ?_⟩; have n0_ := Aside0.mk (below_step (by repeat (first | (with_reducible first | exact HB.out | apply below_alloc | apply pw_below_drewN | apply below_drew1) | exact HB.out)) hb); clear HB; have HB := n0_; clear n0_; (try clear hb); (try clear hb2); (try clear hk); (try clear hi)))
        go_ret
        exact ⟨by first | rfl | (simp [errW_none, errW_some] <;> rfl) | (simp [*, errW_none, errW_some] <;> rfl), by repeat (first | (with_reducible first | exact HB.out | apply below_alloc | apply pw_below_drewN | apply below_drew1) | exact HB.out)⟩
      ·rw [if_neg c5] at H
       exact absurd H (by simp)
     ·rw [if_neg c4] at H
      exact absurd H (by simp)
    ·rw [if_neg c3] at H
     have c3b0 : decide (x10_1 < (l0.length : Int)) = false := decide_eq_false c3
     clear c3
     obtain rfl := Option.some.inj H
     go_wp2
     go_ret
     exact ⟨by first | rfl | (simp [errW_none, errW_some] <;> rfl) | (simp [*, errW_none, errW_some] <;> rfl), by repeat (first | (with_reducible first | exact HB.out | apply below_alloc | apply pw_below_drewN | apply below_drew1) | exact HB.out)⟩

end Go.Proofs.YtlooelfkkbgmhaaDoor.QS
namespace Go.Proofs.YtlooelfkkbgmhaaDoor.QS
open Go.RowKit Go.Proofs.YtlooelfkkbgmhaaDoorW.PrintWords Go.Proofs.YtlooelfkkbgmhaaDoorW.PrintLast

set_option linter.unusedVariables false
set_option linter.unusedSimpArgs false

/-! ### laws_siGood: function 53 -/
def laws_siGood.l0 : Nat → List (List (List (S36))) → Int → Int → Option (Bool)
 | 0, _, _, _ => none
 | k + 1, x5, x6, x7 => if x7 < x6 then (if 0 ≤ x7 then (if x7 < (x5.length : Int) then ((spec_GoodTerms.f k (rd_L7 x5 x7) 10).bind fun t526 => (if t526 = true then ((laws_scGood.f k (rd_L7 x5 x7)).bind fun t527 => (if t527 = true then (laws_siGood.l0 k x5 x6 (wrap64 (x7 + 1))) else (some false))) else (some false))) else (none)) else (none)) else (some true)
def laws_siGood.f (k : Nat) (l0 : List (List (List (S36)))) : Option (Bool) := laws_siGood.l0 k l0 (l0.length : Int) 0
theorem laws_siGood.mono_l : ∀ k, (∀ y0 y1 y2, LeO (laws_siGood.l0 k y0 y1 y2) (laws_siGood.l0 (k + 1) y0 y1 y2))
 | 0 => fun _ _ _ r h => by simp [laws_siGood.l0] at h
 | k + 1 => by
  have ih0 := laws_siGood.mono_l k
  ·intro y0 y1 y2
   unfold laws_siGood.l0
   repeat' first
   | (with_reducible exact ih0 _ _ _)
   | (with_reducible exact laws_scGood.mono _ _)
   | (with_reducible exact spec_GoodTerms.mono _ _ _)
   | (with_reducible exact LeO.refl _)
   | (with_reducible exact LeO.none _)
   | (with_reducible refine LeO.ite ?_ ?_)
   | (with_reducible refine LeO.bind ?_ (fun _ => ?_))
   | exact ih0 _ _ _
   | exact laws_scGood.mono _ _
   | exact spec_GoodTerms.mono _ _ _
   | exact LeO.none _
   | refine LeO.ite ?_ ?_
   | refine LeO.bind ?_ (fun _ => ?_)
theorem laws_siGood.mono : ∀ a0 k, LeO (laws_siGood.f k a0) (laws_siGood.f (k + 1) a0) := by
 intro a0 k
 have ih0 := laws_siGood.mono_l k
 unfold laws_siGood.f
 repeat' first
   | (with_reducible exact ih0 _ _ _)
   | (with_reducible exact laws_scGood.mono _ _)
   | (with_reducible exact spec_GoodTerms.mono _ _ _)
   | (with_reducible exact LeO.refl _)
   | (with_reducible exact LeO.none _)
   | (with_reducible refine LeO.ite ?_ ?_)
   | (with_reducible refine LeO.bind ?_ (fun _ => ?_))
   | exact ih0 _ _ _
   | exact laws_scGood.mono _ _
   | exact spec_GoodTerms.mono _ _ _
   | exact LeO.none _
   | refine LeO.ite ?_ ?_
   | refine LeO.bind ?_ (fun _ => ?_)
set_option maxHeartbeats 8000000 in
set_option maxRecDepth 100000 in
theorem laws_siGood.calls (k : Nat) (A0 : Option Addr) (c0 : Nat) (l0 : List (List (List (S36)))) (r : Bool) (w : World) (hr0 : Kd.C (Kd.slice 65 (Kd.slice 36 k36)) w A0 l0.length l0) (hc0 : l0.length ≤ c0) (h : laws_siGood.f k l0 = some r) :
  Calls Tryd.prog 53 #[.slice A0 l0.length c0] w fun e w' => e = .returned (.bool r) ∧ Below w.heap.size w w' := by
 have HR0 := Aside0.mk hr0
 have HC0 := Aside0.mk hc0
 clear hr0 hc0
 have HB := Aside0.mk (Below.refl w.heap.size w)
 have H : (laws_siGood.l0 k l0 (l0.length : Int) 0) = some r := h
 clear h
 have H' := Aside0.mk H
 clear H
 go_enter Tryd.func53, Tryd.ntmps53
 go_wp2
 go_loopg [7] k (fun kq v7 w' => ∃ (x7_1 : Int), v7 = .int .i64 x7_1 ∧ Aside0 (laws_siGood.l0 kq l0 (l0.length : Int) x7_1 = some r) ∧ Aside0 (kq ≤ k) ∧ Aside0 (Below w.heap.size w w'))
 case atStart => exact ⟨(0), (by first | rfl | (simp; done) | (simp [*]; done) | (simp [nil_bne]; done)), H', ⟨Nat.le_refl _⟩, ⟨by repeat (first | (with_reducible first | exact HB.out | apply below_alloc | apply pw_below_drewN | apply below_drew1) | exact HB.out)⟩⟩
 case round =>
  clear H'
  obtain ⟨x7_1, rfl, HA, HK1, HB⟩ := hrel
  cases gk with
  | zero => exact absurd HA.out (by simp [laws_siGood.l0])
  | succ k1 =>
   have H := HA.out
   clear HA
   simp only [laws_siGood.l0] at H
   by_cases c2 : x7_1 < (l0.length : Int)
   ·rw [if_pos c2] at H
    have c2b0 : decide (x7_1 < (l0.length : Int)) = true := decide_eq_true c2
    clear c2
    by_cases c3 : 0 ≤ x7_1
    ·rw [if_pos c3] at H
     have c3b0 : decide (0 ≤ x7_1) = true := decide_eq_true c3
     clear c3
     by_cases c4 : x7_1 < (l0.length : Int)
     ·rw [if_pos c4] at H
      have c4b0 : decide (x7_1 < (l0.length : Int)) = true := decide_eq_true c4
      clear c4
      replace H := Option.bind_eq_some_iff.mp H
      obtain ⟨t526, A50, H⟩ := H
      replace H : (if t526 = true then ((laws_scGood.f k1 (rd_L7 l0 x7_1)).bind fun t527 => (if t527 = true then (laws_siGood.l0 k1 l0 (l0.length : Int) (wrap64 (x7_1 + 1))) else (some false))) else (some false)) = some r := H
      have A5 := Aside0.mk A50
      clear A50
      by_cases c6 : t526 = true
      ·subst c6
       have H1 : ((laws_scGood.f k1 (rd_L7 l0 x7_1)).bind fun t527 => (if t527 = true then (laws_siGood.l0 k1 l0 (l0.length : Int) (wrap64 (x7_1 + 1))) else (some false))) = some r := by rw [if_pos rfl] at H; exact H
       clear H
       have H := H1
       clear H1
       replace H := Option.bind_eq_some_iff.mp H
       obtain ⟨t527, A70, H⟩ := H
       replace H : (if t527 = true then (laws_siGood.l0 k1 l0 (l0.length : Int) (wrap64 (x7_1 + 1))) else (some false)) = some r := H
       have A7 := Aside0.mk A70
       clear A70
       by_cases c8 : t527 = true
       ·subst c8
        have H1 : (laws_siGood.l0 k1 l0 (l0.length : Int) (wrap64 (x7_1 + 1))) = some r := by rw [if_pos rfl] at H; exact H
        clear H
        have H := H1
        clear H1
        have H' := Aside0.mk H
        clear H
        have p525 : 0 ≤ (x7_1 : Int) := of_decide_eq_true (by first | (with_reducible assumption) | assumption)
        have q525 : x7_1 < (l0.length : Int) := of_decide_eq_true (by first | (with_reducible assumption) | assumption)
        obtain ⟨ad525, A525_0, c525_0, e525, hx525_0, hl525_0, hi525_0⟩ := at_L7 HR0.out x7_1 p525 q525
        cases e525
        replace hx525_0 := (HB.out.cell (World.block_lt_of_cell? w _ hx525_0)).trans hx525_0
        have HR525_0 := Aside0.mk hi525_0
        have HC525_0 := Aside0.mk hl525_0
        clear hi525_0 hl525_0
        replace p525 := eq_true p525
        replace q525 := eq_true q525
        go_wp2_with (first | ((with_reducible refine only_callee (f := 97) rfl ?_); refine goesL_ (some 12) rfl rfl Tryd.func97 (by kernel_rfl) rfl #[.slice A525_0 (rd_L7 l0 x7_1).length c525_0, .int .i64 10] rfl (by (try simp only [List.map_toArray, List.map_cons, List.map_nil]); first | done | rfl | (simp only [List.length_drop, List.length_take]; rfl)) ?_; (with_reducible refine (spec_GoodTerms.calls k1 _ _ (rd_L7 l0 x7_1) 10 true _ ?side1 ?side2 A5.out).mono ?_); (case side1 => repeat (first | exact (Kd.C_below HR525_0.out HB.out) | (with_reducible refine Kd.C_alloc ?_ _) | (with_reducible refine Kd.C_drewN ?_ _) | (with_reducible refine Kd.C_drew ?_))); (case side2 => exact HC525_0.out); rintro e w9 ⟨rfl, hb⟩; refine ⟨_, rfl, ?_⟩; have n0_ := Aside0.mk (below_step (by repeat (first | (with_reducible first | exact HB.out | apply below_alloc | apply pw_below_drewN | apply below_drew1) | exact HB.out)) hb); clear HB; have HB := n0_; clear n0_; (try clear hb); (try clear hb2); (try clear hk); (try clear hi)) | (go_at_call 98; (with_reducible refine (laws_scGood.calls k1 _ _ (rd_L7 l0 x7_1) true _ ?side1 ?side2 A7.out).mono ?_); (case side1 => repeat (first | exact (Kd.C_below HR525_0.out HB.out) | (with_reducible refine Kd.C_alloc ?_ _) | (with_reducible refine Kd.C_drewN ?_ _) | (with_reducible refine Kd.C_drew ?_))); (case side2 => exact HC525_0.out); rintro e w10 ⟨rfl, hb⟩; have n0_ := Aside0.mk (below_step (by repeat (first | (with_reducible first | exact HB.out | apply below_alloc | apply pw_below_drewN | apply below_drew1) | exact HB.out)) hb); clear HB; have HB := n0_; clear n0_; (try clear hb); (try clear hb2); (try clear hk); (try clear hi)))
        go_roundg k1
        case measure => have := HK1.out; omega
        case rel => exact ⟨(wrap64 (x7_1 + 1)), (by first | rfl | (simp; done) | (simp [*]; done) | (simp [nil_bne]; done)), H', ⟨by have := HK1.out; omega⟩, ⟨by repeat (first | (with_reducible first | exact HB.out | apply below_alloc | apply pw_below_drewN | apply below_drew1) | exact HB.out)⟩⟩
       ·replace c8 := Bool.eq_false_iff.mpr c8
        subst c8
        have H1 : (some false) = some r := by rw [if_neg (show ¬ (false = true) by decide)] at H; exact H
        clear H
        have H := H1
        clear H1
        obtain rfl := Option.some.inj H
        have p525 : 0 ≤ (x7_1 : Int) := of_decide_eq_true (by first | (with_reducible assumption) | assumption)
        have q525 : x7_1 < (l0.length : Int) := of_decide_eq_true (by first | (with_reducible assumption) | assumption)
        obtain ⟨ad525, A525_0, c525_0, e525, hx525_0, hl525_0, hi525_0⟩ := at_L7 HR0.out x7_1 p525 q525
        cases e525
        replace hx525_0 := (HB.out.cell (World.block_lt_of_cell? w _ hx525_0)).trans hx525_0
        have HR525_0 := Aside0.mk hi525_0
        have HC525_0 := Aside0.mk hl525_0
        clear hi525_0 hl525_0
        replace p525 := eq_true p525
        replace q525 := eq_true q525
        go_wp2_with (first | ((with_reducible refine only_callee (f := 97) rfl ?_); refine goesL_ (some 12) rfl rfl Tryd.func97 (by kernel_rfl) rfl #[.slice A525_0 (rd_L7 l0 x7_1).length c525_0, .int .i64 10] rfl (by (try simp only [List.map_toArray, List.map_cons, List.map_nil]); first | done | rfl | (simp only [List.length_drop, List.length_take]; rfl)) ?_; (with_reducible refine (spec_GoodTerms.calls k1 _ _ (rd_L7 l0 x7_1) 10 true _ ?side1 ?side2 A5.out).mono ?_); (case side1 => repeat (first | exact (Kd.C_below HR525_0.out HB.out) | (with_reducible refine Kd.C_alloc ?_ _) | (with_reducible refine Kd.C_drewN ?_ _) | (with_reducible refine Kd.C_drew ?_))); (case side2 => exact HC525_0.out); rintro e w11 ⟨rfl, hb⟩; refine ⟨_, rfl, ?_⟩; have n0_ := Aside0.mk (below_step (by repeat (first | (with_reducible first | exact HB.out | apply below_alloc | apply pw_below_drewN | apply below_drew1) | exact HB.out)) hb); clear HB; have HB := n0_; clear n0_; (try clear hb); (try clear hb2); (try clear hk); (try clear hi)) | (go_at_call 98; (with_reducible refine (laws_scGood.calls k1 _ _ (rd_L7 l0 x7_1) false _ ?side1 ?side2 A7.out).mono ?_); (case side1 => repeat (first | exact (Kd.C_below HR525_0.out HB.out) | (with_reducible refine Kd.C_alloc ?_ _) | (with_reducible refine Kd.C_drewN ?_ _) | (with_reducible refine Kd.C_drew ?_))); (case side2 => exact HC525_0.out); rintro e w12 ⟨rfl, hb⟩; have n0_ := Aside0.mk (below_step (by repeat (first | (with_reducible first | exact HB.out | apply below_alloc | apply pw_below_drewN | apply below_drew1) | exact HB.out)) hb); clear HB; have HB := n0_; clear n0_; (try clear hb); (try clear hb2); (try clear hk); (try clear hi)))
        go_ret
        exact ⟨by first | rfl | (simp [errW_none, errW_some] <;> rfl) | (simp [*, errW_none, errW_some] <;> rfl), by repeat (first | (with_reducible first | exact HB.out | apply below_alloc | apply pw_below_drewN | apply below_drew1) | exact HB.out)⟩
      ·replace c6 := Bool.eq_false_iff.mpr c6
       subst c6
       have H1 : (some false) = some r := by rw [if_neg (show ¬ (false = true) by decide)] at H; exact H
       clear H
       have H := H1
       clear H1
       obtain rfl := Option.some.inj H
       have p525 : 0 ≤ (x7_1 : Int) := of_decide_eq_true (by first | (with_reducible assumption) | assumption)
       have q525 : x7_1 < (l0.length : Int) := of_decide_eq_true (by first | (with_reducible assumption) | assumption)
       obtain ⟨ad525, A525_0, c525_0, e525, hx525_0, hl525_0, hi525_0⟩ := at_L7 HR0.out x7_1 p525 q525
       cases e525
       replace hx525_0 := (HB.out.cell (World.block_lt_of_cell? w _ hx525_0)).trans hx525_0
       have HR525_0 := Aside0.mk hi525_0
       have HC525_0 := Aside0.mk hl525_0
       clear hi525_0 hl525_0
       replace p525 := eq_true p525
       replace q525 := eq_true q525
       go_wp2_with (first | ((with_reducible refine only_callee (f := 97) rfl ?_); refine goesL_ (some 12) rfl rfl Tryd.func97 (by kernel_rfl) rfl #[.slice A525_0 (rd_L7 l0 x7_1).length c525_0, .int .i64 10] rfl (by (try simp only [List.map_toArray, List.map_cons, List.map_nil]); first | done | rfl | (simp only [List.length_drop, List.length_take]; rfl)) ?_; (with_reducible refine (spec_GoodTerms.calls k1 _ _ (rd_L7 l0 x7_1) 10 false _ ?side1 ?side2 A5.out).mono ?_); (case side1 => repeat (first | exact (Kd.C_below HR525_0.out HB.out) | (with_reducible refine Kd.C_alloc ?_ _) | (with_reducible refine Kd.C_drewN ?_ _) | (with_reducible refine Kd.C_drew ?_))); (case side2 => exact HC525_0.out); rintro e w13 ⟨rfl, hb⟩; refine ⟨_, rfl, ?_⟩; have n0_ := Aside0.mk (below_step (by repeat (first | (with_reducible first | exact HB.out | apply below_alloc | apply pw_below_drewN | apply below_drew1) | exact HB.out)) hb); clear HB; have HB := n0_; clear n0_; (try clear hb); (try clear hb2); (try clear hk); (try clear hi)))
       go_ret
       exact ⟨by first | rfl | (simp [errW_none, errW_some] <;> rfl) | (simp [*, errW_none, errW_some] <;> rfl), by repeat (first | (with_reducible first | exact HB.out | apply below_alloc | apply pw_below_drewN | apply below_drew1) | exact HB.out)⟩
     ·rw [if_neg c4] at H
      exact absurd H (by simp)
    ·rw [if_neg c3] at H
     exact absurd H (by simp)
   ·rw [if_neg c2] at H
    have c2b0 : decide (x7_1 < (l0.length : Int)) = false := decide_eq_false c2
    clear c2
    obtain rfl := Option.some.inj H
    go_wp2
    go_ret
    exact ⟨by first | rfl | (simp [errW_none, errW_some] <;> rfl) | (simp [*, errW_none, errW_some] <;> rfl), by repeat (first | (with_reducible first | exact HB.out | apply below_alloc | apply pw_below_drewN | apply below_drew1) | exact HB.out)⟩

end Go.Proofs.YtlooelfkkbgmhaaDoor.QS
namespace Go.Proofs.YtlooelfkkbgmhaaDoor.QS
open Go.RowKit Go.Proofs.YtlooelfkkbgmhaaDoorW.PrintWords Go.Proofs.YtlooelfkkbgmhaaDoorW.PrintLast
set_option linter.unusedVariables false
set_option linter.unusedSimpArgs false
/-! ### spec_Bare: function 39 -/
def spec_Bare.f (a0_0 : Int) (a0_1 : Int) (a0_2 : Int) (a0_3 : ByteArray) (a0_4 : ByteArray) : Option (Int × Int × Int × ByteArray × ByteArray) := some (a0_0, a0_1, a0_2, (⟨#[]⟩ : ByteArray), (⟨#[]⟩ : ByteArray))
set_option maxHeartbeats 8000000 in
set_option maxRecDepth 100000 in
theorem spec_Bare.calls (a0_0 : Int) (a0_1 : Int) (a0_2 : Int) (a0_3 : ByteArray) (a0_4 : ByteArray) (r1 : Int) (r2 : Int) (r3 : Int) (r4 : ByteArray) (r5 : ByteArray) (w : World) (h : spec_Bare.f a0_0 a0_1 a0_2 a0_3 a0_4 = some (r1, r2, r3, r4, r5)) :
  Calls Tryd.prog 39 #[.agg #[.int .u64 a0_0, .int .u64 a0_1, .int .u64 a0_2, .string a0_3, .string a0_4]] w fun e w' => e = .returned (.agg #[.int .u64 r1, .int .u64 r2, .int .u64 r3, .string r4, .string r5]) ∧ Below w.heap.size w w' := by
 have hu24 := Tryd.underlying24
 have HB := Aside0.mk (Below.refl w.heap.size w)
 have H : (some (a0_0, a0_1, a0_2, (⟨#[]⟩ : ByteArray), (⟨#[]⟩ : ByteArray))) = some (r1, r2, r3, r4, r5) := h
 clear h
 simp only [Option.some.injEq, Prod.mk.injEq] at H
 obtain ⟨rfl, rfl, rfl, rfl, rfl⟩ := H
 go_enter Tryd.func39, Tryd.ntmps39
 go_wp2_with (first | ((with_reducible refine gate_dst (N := 1) rfl ?_); refine box_event ?hg (N := 1) ?hd (cs := #[.int .u64 a0_0, .int .u64 a0_1, .int .u64 a0_2, .string a0_3, .string a0_4]) (t := 24) ?hr ?_; (case hd => rfl); (case hg => rfl); (case hr => first | (go_simp; done) | (go_simp; rfl)); intro gb213 hg w2 hbox hb; have n0_ := Aside0.mk (below_step (by repeat (first | (with_reducible first | exact HB.out | apply below_alloc | apply pw_below_drewN | apply below_drew1) | exact HB.out)) hb); have n1_ := Aside0.mk (hbox); have n2_ := Aside0.mk ((by rw [hg]; exact (below_size (by repeat (first | (with_reducible first | exact HB.out | apply below_alloc | apply pw_below_drewN | apply below_drew1) | exact HB.out))) : w.heap.size ≤ gb213)); have n3_ := Aside0.mk ((by rw [hg]; exact (below_size (by repeat (first | (with_reducible first | exact HB.out | apply below_alloc | apply pw_below_drewN | apply below_drew1) | exact HB.out))) : w.heap.size ≤ gb213)); clear HB; have HB := n0_; have BK213 := n1_; have GW213 := n2_; have GE213 := n3_; clear n0_ n1_ n2_ n3_; clear hb hbox hg) | ((with_reducible refine gate_dst (N := 2) rfl ?_); refine box_event ?hg (N := 2) ?hd (cs := #[.int .u64 0, .int .u64 0, .int .u64 0, .string (⟨#[]⟩ : ByteArray), .string (⟨#[]⟩ : ByteArray)]) (t := 24) ?hr ?_; (case hd => rfl); (case hg => rfl); (case hr => first | (go_simp; done) | (go_simp; rfl)); intro gb214 hg w3 hbox hb; have n0_ := Aside0.mk (blk_below (g := gb213) (o := .cells #[.int .u64 a0_0, .int .u64 a0_1, .int .u64 a0_2, .string a0_3, .string a0_4] 24 (0, 0)) (by (with_reducible repeat (first | refine blk_drewN ?_ _ | refine blk_drew ?_ | refine blk_alloc ?_ _)); exact BK213.out) hb); have n1_ := Aside0.mk (below_step (by repeat (first | (with_reducible first | exact HB.out | apply below_alloc | apply pw_below_drewN | apply below_drew1 | refine below_set ?_ GE213.out) | exact HB.out)) hb); have n2_ := Aside0.mk (hbox); have n3_ := Aside0.mk ((by rw [hg]; exact (below_size (by repeat (first | (with_reducible first | exact HB.out | apply below_alloc | apply pw_below_drewN | apply below_drew1 | refine below_set ?_ GE213.out) | exact HB.out))) : w.heap.size ≤ gb214)); have n4_ := Aside0.mk ((by rw [hg]; exact (below_size (by repeat (first | (with_reducible first | exact HB.out | apply below_alloc | apply pw_below_drewN | apply below_drew1 | refine below_set ?_ GE213.out) | exact HB.out))) : w.heap.size ≤ gb214)); have n5_ := Aside0.mk ((by rw [hg]; exact Nat.ne_of_lt (blk_lt (g := gb213) (o := .cells #[.int .u64 a0_0, .int .u64 a0_1, .int .u64 a0_2, .string a0_3, .string a0_4] 24 (0, 0)) (by (with_reducible repeat (first | refine blk_drewN ?_ _ | refine blk_drew ?_ | refine blk_alloc ?_ _)); exact BK213.out)) : gb213 ≠ gb214)); have n6_ := Aside0.mk ((by rw [hg]; exact Nat.ne_of_gt (blk_lt (g := gb213) (o := .cells #[.int .u64 a0_0, .int .u64 a0_1, .int .u64 a0_2, .string a0_3, .string a0_4] 24 (0, 0)) (by (with_reducible repeat (first | refine blk_drewN ?_ _ | refine blk_drew ?_ | refine blk_alloc ?_ _)); exact BK213.out)) : gb214 ≠ gb213)); clear BK213; clear HB; have BK213 := n0_; have HB := n1_; have BK214 := n2_; have GW214 := n3_; have GE214 := n4_; have NB213_214 := n5_; have NB214_213 := n6_; clear n0_ n1_ n2_ n3_ n4_ n5_ n6_; clear hb hbox hg; have hnb4 := NB213_214.out; have hnc4 := NB214_213.out; have hcz5_0 : w3.cell? ⟨gb213, 0, none⟩ = some (.int .u64 a0_0) := (blk_cell BK213.out 0).trans rfl; have hcz5_1 : w3.cell? ⟨gb213, 1, none⟩ = some (.int .u64 a0_1) := (blk_cell BK213.out 1).trans rfl; have hcz5_2 : w3.cell? ⟨gb213, 2, none⟩ = some (.int .u64 a0_2) := (blk_cell BK213.out 2).trans rfl; have hcz5_3 : w3.cell? ⟨gb213, 3, none⟩ = some (.string a0_3) := (blk_cell BK213.out 3).trans rfl; have hcz5_4 : w3.cell? ⟨gb213, 4, none⟩ = some (.string a0_4) := (blk_cell BK213.out 4).trans rfl; have hfz5_0 := blk_frozen BK213.out 0; have hfz5_1 := blk_frozen BK213.out 1; have hfz5_2 := blk_frozen BK213.out 2; have hfz5_3 := blk_frozen BK213.out 3; have hfz5_4 := blk_frozen BK213.out 4; have hcz6_0 : w3.cell? ⟨gb214, 0, none⟩ = some (.int .u64 0) := (blk_cell BK214.out 0).trans rfl; have hcz6_1 : w3.cell? ⟨gb214, 1, none⟩ = some (.int .u64 0) := (blk_cell BK214.out 1).trans rfl; have hcz6_2 : w3.cell? ⟨gb214, 2, none⟩ = some (.int .u64 0) := (blk_cell BK214.out 2).trans rfl; have hcz6_3 : w3.cell? ⟨gb214, 3, none⟩ = some (.string (⟨#[]⟩ : ByteArray)) := (blk_cell BK214.out 3).trans rfl; have hcz6_4 : w3.cell? ⟨gb214, 4, none⟩ = some (.string (⟨#[]⟩ : ByteArray)) := (blk_cell BK214.out 4).trans rfl; have hfz6_0 := blk_frozen BK214.out 0; have hfz6_1 := blk_frozen BK214.out 1; have hfz6_2 := blk_frozen BK214.out 2; have hfz6_3 := blk_frozen BK214.out 3; have hfz6_4 := blk_frozen BK214.out 4))
 refine bodyPost_ret (results_cell_row rfl _ _ gb214 24 #[.int .u64 a0_0, .int .u64 a0_1, .int .u64 a0_2, .string (⟨#[]⟩ : ByteArray), .string (⟨#[]⟩ : ByteArray)] (0, 0) _ rfl (by (with_reducible repeat (first | refine blk_drewN ?_ _ | refine blk_drew ?_ | refine blk_alloc ?_ _)); refine blk_put (cs := #[.int .u64 a0_0, .int .u64 a0_1, .int .u64 a0_2, .string (⟨#[]⟩ : ByteArray), .string (⟨#[]⟩ : ByteArray)]) ?_ 4 _ rfl; (with_reducible repeat (first | refine blk_drewN ?_ _ | refine blk_drew ?_ | refine blk_alloc ?_ _)); refine blk_put (cs := #[.int .u64 a0_0, .int .u64 a0_1, .int .u64 a0_2, .string (⟨#[]⟩ : ByteArray), .string (⟨#[]⟩ : ByteArray)]) ?_ 3 _ rfl; (with_reducible repeat (first | refine blk_drewN ?_ _ | refine blk_drew ?_ | refine blk_alloc ?_ _)); refine blk_put (cs := #[.int .u64 a0_0, .int .u64 a0_1, .int .u64 0, .string (⟨#[]⟩ : ByteArray), .string (⟨#[]⟩ : ByteArray)]) ?_ 2 _ rfl; (with_reducible repeat (first | refine blk_drewN ?_ _ | refine blk_drew ?_ | refine blk_alloc ?_ _)); refine blk_put (cs := #[.int .u64 a0_0, .int .u64 0, .int .u64 0, .string (⟨#[]⟩ : ByteArray), .string (⟨#[]⟩ : ByteArray)]) ?_ 1 _ rfl; (with_reducible repeat (first | refine blk_drewN ?_ _ | refine blk_drew ?_ | refine blk_alloc ?_ _)); refine blk_put (cs := #[.int .u64 0, .int .u64 0, .int .u64 0, .string (⟨#[]⟩ : ByteArray), .string (⟨#[]⟩ : ByteArray)]) ?_ 0 _ rfl; (with_reducible repeat (first | refine blk_drewN ?_ _ | refine blk_drew ?_ | refine blk_alloc ?_ _)); exact BK214.out) Tryd.underlying24 rfl (by kernel_rfl)) rfl ?_
 exact ⟨by first | rfl | (simp [errW_none, errW_some] <;> rfl) | (simp [*, errW_none, errW_some] <;> rfl), by repeat (first | (with_reducible first | exact HB.out | apply below_alloc | apply pw_below_drewN | apply below_drew1 | refine below_set ?_ GE213.out | refine below_set ?_ GE214.out) | exact HB.out)⟩

end Go.Proofs.YtlooelfkkbgmhaaDoor.QS
