-- written by a program of mine (wip/tools/myprint.py, gather.py) for this claim. Not trusted: Lean checks it.
import Derived.Below
import Derived.Deep.Draws
import Derived.Deep.AppendLies
import Derived.Maps.AppendAt
import Derived.OwnWalk
import Derived.Laws.BytesArg
import Derived.Laws.MakeOwn
import Derived.Laws.OwnMore
import Derived.Deep.OwnRows
import Derived.Tactics
import Derived.Lib.ConvBytes
import Derived.Laws.Slices
import Derived.WalkKit
import Derived.KernelRfl
import Derived.RowKit3
import Derived.Deep.LoopGhost
import Derived.Deep.QuietTactic
import Derived.BigQuiet
import Derived.WideLaws
import Derived.Deep.DeepCutAuto
import Derived.Deep.CutBlock
import Derived.Deep.RegionHeld3
import Derived.Laws.Rows
import Derived.Lib.AppendStr
import Derived.ArgAppend
import Derived.Laws.IdiomCopy
import Derived.OrdersHeld
import Derived.Laws.BitsLemmas
import Derived.RowKit
import Derived.Test.YtlooelfkkbgmhaaDoorQSL
import Derived.Test.YtlooelfkkbgmhaaDoorU2
namespace Go.Proofs.YtlooelfkkbgmhaaDoor.QS
open Go.RowKit Go.Proofs.YtlooelfkkbgmhaaDoorW.PrintWords Go.Proofs.YtlooelfkkbgmhaaDoorW.PrintLast

end Go.Proofs.YtlooelfkkbgmhaaDoor.QS
namespace Go.Proofs.YtlooelfkkbgmhaaDoor.QS
open Go.RowKit Go.Proofs.YtlooelfkkbgmhaaDoorW.PrintWords Go.Proofs.YtlooelfkkbgmhaaDoorW.PrintLast

set_option linter.unusedVariables false
set_option linter.unusedSimpArgs false

/-! ### spec_Cross: function 56 -/
mutual
def spec_Cross.l0 : Nat → List (List (S36)) → List (List (S36)) → List (List (S36)) → Int → Int → Option ((List (List (S36))))
 | 0, _, _, _, _, _ => none
 | k + 1, x1, x5, x10, x11, x12 => if x12 < x11 then (if 0 ≤ x12 then (if x12 < (x10.length : Int) then (spec_Cross.l1 k x1 x5 (rd_L6 x10 x12) x10 x11 x12 x1 (x1.length : Int) 0) else (none)) else (none)) else (some x5)
def spec_Cross.l1 : Nat → List (List (S36)) → List (List (S36)) → List (S36) → List (List (S36)) → Int → Int → List (List (S36)) → Int → Int → Option ((List (List (S36))))
 | 0, _, _, _, _, _, _, _, _, _ => none
 | k + 1, x1, x5, x7, x10, x11, x12, x16, x17, x18 => if x18 < x17 then (if 0 ≤ x18 then (if x18 < (x16.length : Int) then ((some (([] : List (S36)) : List (S36))).bind fun y530 => (if y530.length + x7.length < 2513169434916 then ((some (y530 ++ x7 : List (S36))).bind fun y533 => (if y533.length + (rd_L6 x16 x18).length < 2513169434916 then (if x5.length < 5864062014805 then (spec_Cross.l1 k x1 (x5 ++ [(y533 ++ (rd_L6 x16 x18))]) x7 x10 x11 x12 x16 x17 (wrap64 (x18 + 1))) else (none)) else (none))) else (none))) else (none)) else (none)) else (spec_Cross.l0 k x1 x5 x10 x11 (wrap64 (x12 + 1)))
end
def spec_Cross.f (k : Nat) (l0 : List (List (S36))) (l1 : List (List (S36))) : Option ((List (List (S36)))) := spec_Cross.l0 k l1 ([] : List (List (S36))) l0 (l0.length : Int) 0
theorem spec_Cross.mono_l : ∀ k, (∀ y0 y1 y2 y3 y4, LeO (spec_Cross.l0 k y0 y1 y2 y3 y4) (spec_Cross.l0 (k + 1) y0 y1 y2 y3 y4)) ∧ (∀ y0 y1 y2 y3 y4 y5 y6 y7 y8, LeO (spec_Cross.l1 k y0 y1 y2 y3 y4 y5 y6 y7 y8) (spec_Cross.l1 (k + 1) y0 y1 y2 y3 y4 y5 y6 y7 y8))
 | 0 => ⟨fun _ _ _ _ _ r h => by simp [spec_Cross.l0] at h, fun _ _ _ _ _ _ _ _ _ r h => by simp [spec_Cross.l1] at h⟩
 | k + 1 => by
  obtain ⟨ih0, ih1⟩ := spec_Cross.mono_l k
  refine ⟨?_, ?_⟩
  ·intro y0 y1 y2 y3 y4
   unfold spec_Cross.l0
   repeat' first
   | (with_reducible exact ih0 _ _ _ _ _)
   | (with_reducible exact ih1 _ _ _ _ _ _ _ _ _)
   | (with_reducible exact LeO.refl _)
   | (with_reducible exact LeO.none _)
   | (with_reducible refine LeO.ite ?_ ?_)
   | (with_reducible refine LeO.bind ?_ (fun _ => ?_))
   | exact ih0 _ _ _ _ _
   | exact ih1 _ _ _ _ _ _ _ _ _
   | exact LeO.none _
   | refine LeO.ite ?_ ?_
   | refine LeO.bind ?_ (fun _ => ?_)
  ·intro y0 y1 y2 y3 y4 y5 y6 y7 y8
   unfold spec_Cross.l1
   repeat' first
   | (with_reducible exact ih0 _ _ _ _ _)
   | (with_reducible exact ih1 _ _ _ _ _ _ _ _ _)
   | (with_reducible exact LeO.refl _)
   | (with_reducible exact LeO.none _)
   | (with_reducible refine LeO.ite ?_ ?_)
   | (with_reducible refine LeO.bind ?_ (fun _ => ?_))
   | exact ih0 _ _ _ _ _
   | exact ih1 _ _ _ _ _ _ _ _ _
   | exact LeO.none _
   | refine LeO.ite ?_ ?_
   | refine LeO.bind ?_ (fun _ => ?_)
theorem spec_Cross.mono : ∀ a0 a1 k, LeO (spec_Cross.f k a0 a1) (spec_Cross.f (k + 1) a0 a1) := by
 intro a0 a1 k
 obtain ⟨ih0, ih1⟩ := spec_Cross.mono_l k
 unfold spec_Cross.f
 repeat' first
   | (with_reducible exact ih0 _ _ _ _ _)
   | (with_reducible exact ih1 _ _ _ _ _ _ _ _ _)
   | (with_reducible exact LeO.refl _)
   | (with_reducible exact LeO.none _)
   | (with_reducible refine LeO.ite ?_ ?_)
   | (with_reducible refine LeO.bind ?_ (fun _ => ?_))
   | exact ih0 _ _ _ _ _
   | exact ih1 _ _ _ _ _ _ _ _ _
   | exact LeO.none _
   | refine LeO.ite ?_ ?_
   | refine LeO.bind ?_ (fun _ => ?_)
set_option maxHeartbeats 8000000 in
set_option maxRecDepth 100000 in
theorem spec_Cross.calls (k : Nat) (A0 : Option Addr) (c0 : Nat) (l0 : List (List (S36))) (A1 : Option Addr) (c1 : Nat) (l1 : List (List (S36))) (r : List (List (S36))) (w : World) (hr0 : Kd.C (Kd.slice 36 k36) w A0 l0.length l0) (hc0 : l0.length ≤ c0) (hr1 : Kd.C (Kd.slice 36 k36) w A1 l1.length l1) (hc1 : l1.length ≤ c1) (h : spec_Cross.f k l0 l1 = some r) :
  Calls Tryd.prog 56 #[.slice A0 l0.length c0, .slice A1 l1.length c1] w fun e w' => ∃ v0_ : Value, e = .returned (v0_) ∧ Kd.S (Kd.slice 36 k36) 65 w' w.heap.size (fun _ => True) v0_ r ∧ Below w.heap.size w w' := by
 have HR0 := Aside0.mk hr0
 have HC0 := Aside0.mk hc0
 clear hr0 hc0
 have HR1 := Aside0.mk hr1
 have HC1 := Aside0.mk hc1
 clear hr1 hc1
 have HB := Aside0.mk (Below.refl w.heap.size w)
 have H : (spec_Cross.l0 k l1 ([] : List (List (S36))) l0 (l0.length : Int) 0) = some r := h
 clear h
 have H' := Aside0.mk H
 clear H
 go_enter Tryd.func56, Tryd.ntmps56
 go_wp2
 go_loopg [5, 12] k (fun kq v5 v12 w' => ∃ (x5_1 : List (List (S36))) (x12_1 : Int), v12 = .int .i64 x12_1 ∧ Aside0 (spec_Cross.l0 kq l1 x5_1 l0 (l0.length : Int) x12_1 = some r) ∧ Aside0 (kq ≤ k) ∧ Aside0 (Kd.S (Kd.slice 36 k36) 65 w' w.heap.size (fun _ => True) v5 x5_1) ∧ Aside0 (Below w.heap.size w w'))
 case atStart => exact ⟨(([] : List (List (S36)))), (0), (by first | rfl | (simp; done) | (simp [*]; done) | (simp [nil_bne]; done)), H', ⟨Nat.le_refl _⟩, ⟨by first | exact Kd.S_nil _ _ _ _ _ | exact Kd.N_nil _ _ _ _ _ | exact Kd.V_nil _ _ _ _ _ | exact Kd.Q_nil _ _ _ _ _ | exact Kd.R_nil _ _ _ _ _⟩, ⟨by repeat (first | (with_reducible first | exact HB.out | apply below_alloc | apply pw_below_drewN | apply below_drew1) | exact HB.out)⟩⟩
 case round =>
  clear H'
  try clear c1
  try clear p2
  obtain ⟨x5_1, x12_1, rfl, HA, HK1, HO_5, HB⟩ := hrel
  cases gk with
  | zero => exact absurd HA.out (by simp [spec_Cross.l0])
  | succ k1 =>
   have H := HA.out
   clear HA
   simp only [spec_Cross.l0] at H
   by_cases c3 : x12_1 < (l0.length : Int)
   ·rw [if_pos c3] at H
    have c3b0 : decide (x12_1 < (l0.length : Int)) = true := decide_eq_true c3
    clear c3
    by_cases c4 : 0 ≤ x12_1
    ·rw [if_pos c4] at H
     have c4b0 : decide (0 ≤ x12_1) = true := decide_eq_true c4
     clear c4
     by_cases c5 : x12_1 < (l0.length : Int)
     ·rw [if_pos c5] at H
      have c5b0 : decide (x12_1 < (l0.length : Int)) = true := decide_eq_true c5
      clear c5
      have H' := Aside0.mk H
      clear H
      have p528 : 0 ≤ (x12_1 : Int) := of_decide_eq_true (by first | (with_reducible assumption) | assumption)
      have q528 : x12_1 < (l0.length : Int) := of_decide_eq_true (by first | (with_reducible assumption) | assumption)
      obtain ⟨ad528, A528_0, c528_0, e528, hx528_0, hl528_0, hi528_0⟩ := at_L6 HR0.out x12_1 p528 q528
      cases e528
      replace hx528_0 := (HB.out.cell (World.block_lt_of_cell? w _ hx528_0)).trans hx528_0
      have HR528_0 := Aside0.mk hi528_0
      have HC528_0 := Aside0.mk hl528_0
      clear hi528_0 hl528_0
      replace p528 := eq_true p528
      replace q528 := eq_true q528
      go_wp2
      go_loopg [5, 18] k1 (fun kq v5 v18 w' => ∃ (x5_2 : List (List (S36))) (x18_2 : Int), v18 = .int .i64 x18_2 ∧ Aside0 (spec_Cross.l1 kq l1 x5_2 (rd_L6 l0 x12_1) l0 (l0.length : Int) x12_1 l1 (l1.length : Int) x18_2 = some r) ∧ Aside0 (kq ≤ k1) ∧ Aside0 (Kd.S (Kd.slice 36 k36) 65 w' w.heap.size (fun _ => True) v5 x5_2) ∧ Aside0 (Below w.heap.size w w'))
      case atStart => exact ⟨(x5_1), (0), (by first | rfl | (simp; done) | (simp [*]; done) | (simp [nil_bne]; done)), H', ⟨Nat.le_refl _⟩, ⟨by (with_reducible repeat (first | apply Kd.S_alloc | apply Kd.S_drewN | apply Kd.S_drew)); exact HO_5.out⟩, ⟨by repeat (first | (with_reducible first | exact HB.out | apply below_alloc | apply pw_below_drewN | apply below_drew1) | exact HB.out)⟩⟩
      case round =>
       clear H'
       try clear c1
       try clear p2
       try clear c3
       try clear c3b0
       try clear c4
       try clear c4b0
       try clear c5
       try clear c5b0
       try clear p5
       try clear q5
       try clear hx5
       try clear hx528_0
       try clear p2
       try clear p528
       try clear q528
       obtain ⟨x5_2, x18_2, rfl, HA, HK2, HO_5, HB⟩ := hrel
       cases gk with
       | zero => exact absurd HA.out (by simp [spec_Cross.l1])
       | succ k2 =>
        have H := HA.out
        clear HA
        simp only [spec_Cross.l1] at H
        by_cases c6 : x18_2 < (l1.length : Int)
        ·rw [if_pos c6] at H
         have c6b0 : decide (x18_2 < (l1.length : Int)) = true := decide_eq_true c6
         clear c6
         by_cases c7 : 0 ≤ x18_2
         ·rw [if_pos c7] at H
          have c7b0 : decide (0 ≤ x18_2) = true := decide_eq_true c7
          clear c7
          by_cases c8 : x18_2 < (l1.length : Int)
          ·rw [if_pos c8] at H
           have c8b0 : decide (x18_2 < (l1.length : Int)) = true := decide_eq_true c8
           clear c8
           obtain ⟨y530, hy530⟩ : ∃ y_ : List (S36), y_ = (([] : List (S36))) := ⟨_, rfl⟩
           replace H : (if y530.length + (rd_L6 l0 x12_1).length < 2513169434916 then ((some (y530 ++ (rd_L6 l0 x12_1) : List (S36))).bind fun y533 => (if y533.length + (rd_L6 l1 x18_2).length < 2513169434916 then (if x5_2.length < 5864062014805 then (spec_Cross.l1 k2 l1 (x5_2 ++ [(y533 ++ (rd_L6 l1 x18_2))]) (rd_L6 l0 x12_1) l0 (l0.length : Int) x12_1 l1 (l1.length : Int) (wrap64 (x18_2 + 1))) else (none)) else (none))) else (none)) = some r := by first | (rw [hy530]; with_reducible exact H) | (have H2_ := (Option.bind_some _ _).symm.trans H; rw [hy530]; with_reducible exact H2_) | (have H2_ := (Option.bind_some _ _).symm.trans H; with_reducible exact H2_) | with_reducible exact H | (rw [hy530]; exact H) | exact H
           have Ny530 := Aside0.mk hy530
           clear hy530
           by_cases c9 : y530.length + (rd_L6 l0 x12_1).length < 2513169434916
           ·rw [if_pos c9] at H
            have LMc9 := Aside0.mk c9
            clear c9
            obtain ⟨y533, hy533⟩ : ∃ y_ : List (S36), y_ = (y530 ++ (rd_L6 l0 x12_1)) := ⟨_, rfl⟩
            replace H : (if y533.length + (rd_L6 l1 x18_2).length < 2513169434916 then (if x5_2.length < 5864062014805 then (spec_Cross.l1 k2 l1 (x5_2 ++ [(y533 ++ (rd_L6 l1 x18_2))]) (rd_L6 l0 x12_1) l0 (l0.length : Int) x12_1 l1 (l1.length : Int) (wrap64 (x18_2 + 1))) else (none)) else (none)) = some r := by first | (rw [hy533]; with_reducible exact H) | (have H2_ := (Option.bind_some _ _).symm.trans H; rw [hy533]; with_reducible exact H2_) | (have H2_ := (Option.bind_some _ _).symm.trans H; with_reducible exact H2_) | with_reducible exact H | (rw [hy533]; exact H) | exact H
            have Ny533 := Aside0.mk hy533
            clear hy533
            by_cases c10 : y533.length + (rd_L6 l1 x18_2).length < 2513169434916
            ·rw [if_pos c10] at H
             have LMc10 := Aside0.mk c10
             clear c10
             obtain ⟨y536, hy536⟩ : ∃ y_ : List (S36), y_ = (y533 ++ (rd_L6 l1 x18_2)) := ⟨_, rfl⟩
             replace H : (if x5_2.length < 5864062014805 then (spec_Cross.l1 k2 l1 (x5_2 ++ [y536]) (rd_L6 l0 x12_1) l0 (l0.length : Int) x12_1 l1 (l1.length : Int) (wrap64 (x18_2 + 1))) else (none)) = some r := by first | (rw [hy536]; with_reducible exact H) | (have H2_ := (Option.bind_some _ _).symm.trans H; rw [hy536]; with_reducible exact H2_) | (have H2_ := (Option.bind_some _ _).symm.trans H; with_reducible exact H2_) | with_reducible exact H | (rw [hy536]; exact H) | exact H
             have Ny536 := Aside0.mk hy536
             clear hy536
             by_cases c11 : x5_2.length < 5864062014805
             ·rw [if_pos c11] at H
              have LMc11 := Aside0.mk c11
              clear c11
              obtain ⟨y539, hy539⟩ : ∃ y_ : List (List (S36)), y_ = (x5_2 ++ [y536]) := ⟨_, rfl⟩
              replace H : (spec_Cross.l1 k2 l1 y539 (rd_L6 l0 x12_1) l0 (l0.length : Int) x12_1 l1 (l1.length : Int) (wrap64 (x18_2 + 1))) = some r := by first | (rw [hy539]; with_reducible exact H) | (have H2_ := (Option.bind_some _ _).symm.trans H; rw [hy539]; with_reducible exact H2_) | (have H2_ := (Option.bind_some _ _).symm.trans H; with_reducible exact H2_) | with_reducible exact H | (rw [hy539]; exact H) | exact H
              have Ny539 := Aside0.mk hy539
              clear hy539
              have H' := Aside0.mk H
              clear H
              have p529 : 0 ≤ (x18_2 : Int) := of_decide_eq_true (by first | (with_reducible assumption) | assumption)
              have q529 : x18_2 < (l1.length : Int) := of_decide_eq_true (by first | (with_reducible assumption) | assumption)
              obtain ⟨ad529, A529_0, c529_0, e529, hx529_0, hl529_0, hi529_0⟩ := at_L6 HR1.out x18_2 p529 q529
              cases e529
              replace hx529_0 := (HB.out.cell (World.block_lt_of_cell? w _ hx529_0)).trans hx529_0
              have HR529_0 := Aside0.mk hi529_0
              have HC529_0 := Aside0.mk hl529_0
              clear hi529_0 hl529_0
              replace p529 := eq_true p529
              replace q529 := eq_true q529
              go_wp2_with (first | ((with_reducible refine gate_dst (N := 23) rfl ?_); refine Kd.R_lit k36 _ 36 ?hg (N := 23) ?hd (xs := ([] : List (S36))) (inner := []) (ok := fun _ => True) (okp := fun _ => True) ?hr ?hp (fun _ hk => hk) trivial (Below.refl _ _) (Nat.le_refl _) (by simp) ?_; (case hd => rfl); (case hg => rfl); (case hr => first | (go_simp; done) | (go_simp; rfl)); (case hp => exact (Reps.none _ _)); intro v531 w12 ho13 hb hg_ hnew_; clear hg_ hnew_; (first | rw [← Ny530.out] at ho13 | (simp only [Int.reduceToNat] at ho13; rw [← Ny530.out] at ho13)); have n0_ := Aside0.mk (Kd.S_elder' (by (with_reducible repeat (first | apply Kd.S_alloc | apply Kd.S_drewN | apply Kd.S_drew)); exact HO_5.out) (Kd.R_base ho13) hb); have n1_ := Aside0.mk (Kd.R_lower ho13 (below_size (by repeat (first | (with_reducible first | exact HB.out | apply below_alloc | apply pw_below_drewN | apply below_drew1) | exact HB.out)))); have n2_ := Aside0.mk (below_step (by repeat (first | (with_reducible first | exact HB.out | apply below_alloc | apply pw_below_drewN | apply below_drew1) | exact HB.out)) hb); clear HO_5; clear HB; have HO_5 := n0_; have HO532 := n1_; have HB := n2_; clear n0_ n1_ n2_; clear hb ho13) | ((with_reducible refine only_builtin (b := .append) (xs := #[.tmp 23, .tmp 24]) rfl ?_); at_builtin; refine Kd.R_append_rows k36 (w0 := w) w.heap.size rfl (.tmp 23) (.tmp 24) 65 36 (.agg #[(.int .i64 0), (.int .i64 0), (.int .u64 0), (.int .u64 0), (.int .u64 0), (.string ⟨#[]⟩)]) 56 rfl Tryd.underlying65 info36 rfl (by decide) (by omega) v531 y530 (rd_L6 l0 x12_1) _ _ _ (fun _ => True) (fun _ => False) rfl rfl ?aO ?aR (fun _ _ h => h) (fun _ h => h.elim) ?aF ?aB ?aS ?aL ?_; (case aR => repeat (first | exact (Kd.C_below HR528_0.out HB.out) | (with_reducible refine Kd.C_alloc ?_ _) | (with_reducible refine Kd.C_drewN ?_ _) | (with_reducible refine Kd.C_drew ?_))); (case aB => exact (by repeat (first | (with_reducible first | exact HB.out | apply below_alloc | apply pw_below_drewN | apply below_drew1) | exact HB.out))); (case aF => exact (fun _ _ => trivial)); (case aO => exact (by (with_reducible repeat (first | apply Kd.R_alloc | apply Kd.R_drewN | apply Kd.R_drew)); exact HO532.out)); (case aS => exact (below_size (by repeat (first | (with_reducible first | exact HB.out | apply below_alloc | apply pw_below_drewN | apply below_drew1) | exact HB.out)))); (case aL => have := LMc9.out; omega); intro v534 w14 ho hb hg hat; rw [← Ny533.out] at ho; have n0_ := Aside0.mk (Kd.S_after (ok := (fun _ => True)) (by (with_reducible repeat (first | apply Kd.S_alloc | apply Kd.S_drewN | apply Kd.S_drew)); exact HO_5.out) hg hat); have n1_ := Aside0.mk (hb); have n2_ := Aside0.mk (ho); clear HO_5; clear HB; clear HO532; have HO_5 := n0_; have HB := n1_; have HO535 := n2_; clear n0_ n1_ n2_; clear ho hb hg hat) | ((with_reducible refine only_builtin (b := .append) (xs := #[.tmp 25, .tmp 26]) rfl ?_); at_builtin; refine Kd.R_append_rows k36 (w0 := w) w.heap.size rfl (.tmp 25) (.tmp 26) 65 36 (.agg #[(.int .i64 0), (.int .i64 0), (.int .u64 0), (.int .u64 0), (.int .u64 0), (.string ⟨#[]⟩)]) 56 rfl Tryd.underlying65 info36 rfl (by decide) (by omega) v534 y533 (rd_L6 l1 x18_2) _ _ _ (fun _ => True) (fun _ => False) rfl rfl ?aO ?aR (fun _ _ h => h) (fun _ h => h.elim) ?aF ?aB ?aS ?aL ?_; (case aR => repeat (first | exact (Kd.C_below HR529_0.out HB.out) | (with_reducible refine Kd.C_alloc ?_ _) | (with_reducible refine Kd.C_drewN ?_ _) | (with_reducible refine Kd.C_drew ?_))); (case aB => exact (by repeat (first | (with_reducible first | exact HB.out | apply below_alloc | apply pw_below_drewN | apply below_drew1) | exact HB.out))); (case aF => exact (fun _ _ => trivial)); (case aO => exact (by (with_reducible repeat (first | apply Kd.R_alloc | apply Kd.R_drewN | apply Kd.R_drew)); exact HO535.out)); (case aS => exact (below_size (by repeat (first | (with_reducible first | exact HB.out | apply below_alloc | apply pw_below_drewN | apply below_drew1) | exact HB.out)))); (case aL => have := LMc10.out; omega); intro v537 w15 ho hb hg hat; rw [← Ny536.out] at ho; have n0_ := Aside0.mk (Kd.S_after (ok := (fun _ => True)) (by (with_reducible repeat (first | apply Kd.S_alloc | apply Kd.S_drewN | apply Kd.S_drew)); exact HO_5.out) hg hat); have n1_ := Aside0.mk (hb); have n2_ := Aside0.mk (ho); clear HO_5; clear HB; clear HO535; have HO_5 := n0_; have HB := n1_; have HO538 := n2_; clear n0_ n1_ n2_; clear ho hb hg hat; obtain ⟨Ao17, co17, eo17⟩ := Kd.R_slice HO538.out; subst eo17) | ((with_reducible refine only_builtin (b := .append) (xs := #[.tmp 22, .tmp 28]) rfl ?_); at_builtin; refine Kd.S_append (Kd.slice 36 k36) (w0 := w) w.heap.size rfl (.tmp 22) (.tmp 28) 54 65 (.slice none 0 0) 24 rfl Tryd.underlying54 info65 rfl (by decide) (by omega) u5 x5_2 y536 [.slice Ao17 y536.length co17] (fun _ => True) (fun k_ => some k_ = (.slice Ao17 y536.length co17 : Value).ownBlock) rfl rfl ?aP (fun k_ hk_ => ((Kd.R_mono (ok' := fun k_ => ((fun _ => True)) k_ ∧ some k_ ≠ (u5 : Value).ownBlock) (Kd.R_apart' (HO538.out) (Kd.S_typed HO_5.out) (by decide)) (fun k_ hk => ⟨trivial, hk.2⟩))).1 k_ hk_.symm) ?aF ?aO ?aB ?aS ?aL ?_; (case aP => exact Kd.M_row (Kd.R_mono (Kd.R_tight rfl (Kd.R_mono (ok' := fun k_ => ((fun _ => True)) k_ ∧ some k_ ≠ (u5 : Value).ownBlock) (Kd.R_apart' (HO538.out) (Kd.S_typed HO_5.out) (by decide)) (fun k_ hk => ⟨trivial, hk.2⟩))) (fun _ h_ => h_))); (case aB => exact (by repeat (first | (with_reducible first | exact HB.out | apply below_alloc | apply pw_below_drewN | apply below_drew1) | exact HB.out))); (case aF => exact (fun _ _ => trivial)); (case aO => exact (by (with_reducible repeat (first | apply Kd.S_alloc | apply Kd.S_drewN | apply Kd.S_drew)); exact Kd.S_mono HO_5.out (fun k_ hk => ⟨trivial, fun e_ => hk.2 e_⟩))); (case aS => exact (below_size (by repeat (first | (with_reducible first | exact HB.out | apply below_alloc | apply pw_below_drewN | apply below_drew1) | exact HB.out)))); (case aL => have := LMc11.out; omega); intro v540 w16 ho hb hg hat; rw [← Ny539.out] at ho; have n0_ := Aside0.mk (hb); have n1_ := Aside0.mk (ho); clear HB; clear HO_5; clear HO538; have HB := n0_; have HO541 := n1_; clear n0_ n1_; clear ho hb hg hat))
              go_roundg k2
              case measure => have := HK1.out; have := HK2.out; omega
              case rel => exact ⟨(y539), (wrap64 (x18_2 + 1)), (by first | rfl | (simp; done) | (simp [*]; done) | (simp [nil_bne]; done)), H', ⟨by have := HK1.out; have := HK2.out; omega⟩, ⟨by (with_reducible repeat (first | apply Kd.S_alloc | apply Kd.S_drewN | apply Kd.S_drew)); exact HO541.out⟩, ⟨by repeat (first | (with_reducible first | exact HB.out | apply below_alloc | apply pw_below_drewN | apply below_drew1) | exact HB.out)⟩⟩
             ·rw [if_neg c11] at H
              exact absurd H (by simp)
            ·rw [if_neg c10] at H
             exact absurd H (by simp)
           ·rw [if_neg c9] at H
            exact absurd H (by simp)
          ·rw [if_neg c8] at H
           exact absurd H (by simp)
         ·rw [if_neg c7] at H
          exact absurd H (by simp)
        ·rw [if_neg c6] at H
         have c6b0 : decide (x18_2 < (l1.length : Int)) = false := decide_eq_false c6
         clear c6
         have H' := Aside0.mk H
         clear H
         go_wp2
         go_roundg k2
         case measure => have := HK1.out; have := HK2.out; omega
         case rel => exact ⟨(x5_2), (wrap64 (x12_1 + 1)), (by first | rfl | (simp; done) | (simp [*]; done) | (simp [nil_bne]; done)), H', ⟨by have := HK1.out; have := HK2.out; omega⟩, ⟨by (with_reducible repeat (first | apply Kd.S_alloc | apply Kd.S_drewN | apply Kd.S_drew)); exact HO_5.out⟩, ⟨by repeat (first | (with_reducible first | exact HB.out | apply below_alloc | apply pw_below_drewN | apply below_drew1) | exact HB.out)⟩⟩
     ·rw [if_neg c5] at H
      exact absurd H (by simp)
    ·rw [if_neg c4] at H
     exact absurd H (by simp)
   ·rw [if_neg c3] at H
    have c3b0 : decide (x12_1 < (l0.length : Int)) = false := decide_eq_false c3
    clear c3
    obtain rfl := Option.some.inj H
    go_wp2
    go_ret
    exact ⟨_, by first | rfl | (simp [errW_none, errW_some] <;> rfl) | (simp [*, errW_none, errW_some] <;> rfl), by (with_reducible repeat (first | apply Kd.S_alloc | apply Kd.S_drewN | apply Kd.S_drew)); exact HO_5.out, by repeat (first | (with_reducible first | exact HB.out | apply below_alloc | apply pw_below_drewN | apply below_drew1) | exact HB.out)⟩

end Go.Proofs.YtlooelfkkbgmhaaDoor.QS
namespace Go.Proofs.YtlooelfkkbgmhaaDoor.QS
open Go.RowKit Go.Proofs.YtlooelfkkbgmhaaDoorW.PrintWords Go.Proofs.YtlooelfkkbgmhaaDoorW.PrintLast

set_option linter.unusedVariables false
set_option linter.unusedSimpArgs false

/-! ### spec_Opposite: function 99 -/
def spec_Opposite.f (a0 : Int) : Option (Int × Bool) := if a0 = 0 then (some (1, true)) else (if a0 = 1 then (some (0, true)) else (if a0 = 2 then (some (5, true)) else (if a0 = 5 then (some (2, true)) else (if a0 = 3 then (some (4, true)) else (if a0 = 4 then (some (3, true)) else (some (a0, false)))))))
set_option maxHeartbeats 8000000 in
set_option maxRecDepth 100000 in
theorem spec_Opposite.calls (a0 : Int) (r1 : Int) (r2 : Bool) (w : World) (h : spec_Opposite.f a0 = some (r1, r2)) :
  Calls Tryd.prog 99 #[.int .i64 a0] w fun e w' => e = .returned (.tuple #[.int .i64 r1, .bool r2]) ∧ Drawn0 w w' := by
 have H : (if a0 = 0 then (some (1, true)) else (if a0 = 1 then (some (0, true)) else (if a0 = 2 then (some (5, true)) else (if a0 = 5 then (some (2, true)) else (if a0 = 3 then (some (4, true)) else (if a0 = 4 then (some (3, true)) else (some (a0, false)))))))) = some (r1, r2) := h
 clear h
 by_cases c2 : a0 = 0
 ·rw [if_pos c2] at H
  have c2b0 : (a0 == 0) = true := beq_iff_eq.mpr c2
  have c2b1 : (a0 != 0) = false := bne_eq_false_iff_eq.mpr c2
  clear c2
  simp only [Option.some.injEq, Prod.mk.injEq] at H
  obtain ⟨rfl, rfl⟩ := H
  go_enter Tryd.func99, Tryd.ntmps99
  go_wp2
  go_ret2
  exact ⟨by first | rfl | (simp; done) | (simp [*]; done) | (simp [nil_bne]; done), by repeat (first | exact Drawn0.refl _ | apply Drawn0.step)⟩
 ·rw [if_neg c2] at H
  have c2b0 : (a0 == 0) = false := beq_eq_false_iff_ne.mpr c2
  have c2b1 : (a0 != 0) = true := bne_iff_ne.mpr c2
  by_cases c3 : a0 = 1
  ·rw [if_pos c3] at H
   have c3b0 : (a0 == 1) = true := beq_iff_eq.mpr c3
   have c3b1 : (a0 != 1) = false := bne_eq_false_iff_eq.mpr c3
   clear c3
   simp only [Option.some.injEq, Prod.mk.injEq] at H
   obtain ⟨rfl, rfl⟩ := H
   go_enter Tryd.func99, Tryd.ntmps99
   go_wp2
   go_ret2
   exact ⟨by first | rfl | (simp; done) | (simp [*]; done) | (simp [nil_bne]; done), by repeat (first | exact Drawn0.refl _ | apply Drawn0.step)⟩
  ·rw [if_neg c3] at H
   have c3b0 : (a0 == 1) = false := beq_eq_false_iff_ne.mpr c3
   have c3b1 : (a0 != 1) = true := bne_iff_ne.mpr c3
   by_cases c4 : a0 = 2
   ·rw [if_pos c4] at H
    have c4b0 : (a0 == 2) = true := beq_iff_eq.mpr c4
    have c4b1 : (a0 != 2) = false := bne_eq_false_iff_eq.mpr c4
    clear c4
    simp only [Option.some.injEq, Prod.mk.injEq] at H
    obtain ⟨rfl, rfl⟩ := H
    go_enter Tryd.func99, Tryd.ntmps99
    go_wp2
    go_ret2
    exact ⟨by first | rfl | (simp; done) | (simp [*]; done) | (simp [nil_bne]; done), by repeat (first | exact Drawn0.refl _ | apply Drawn0.step)⟩
   ·rw [if_neg c4] at H
    have c4b0 : (a0 == 2) = false := beq_eq_false_iff_ne.mpr c4
    have c4b1 : (a0 != 2) = true := bne_iff_ne.mpr c4
    by_cases c5 : a0 = 5
    ·rw [if_pos c5] at H
     have c5b0 : (a0 == 5) = true := beq_iff_eq.mpr c5
     have c5b1 : (a0 != 5) = false := bne_eq_false_iff_eq.mpr c5
     clear c5
     simp only [Option.some.injEq, Prod.mk.injEq] at H
     obtain ⟨rfl, rfl⟩ := H
     go_enter Tryd.func99, Tryd.ntmps99
     go_wp2
     go_ret2
     exact ⟨by first | rfl | (simp; done) | (simp [*]; done) | (simp [nil_bne]; done), by repeat (first | exact Drawn0.refl _ | apply Drawn0.step)⟩
    ·rw [if_neg c5] at H
     have c5b0 : (a0 == 5) = false := beq_eq_false_iff_ne.mpr c5
     have c5b1 : (a0 != 5) = true := bne_iff_ne.mpr c5
     by_cases c6 : a0 = 3
     ·rw [if_pos c6] at H
      have c6b0 : (a0 == 3) = true := beq_iff_eq.mpr c6
      have c6b1 : (a0 != 3) = false := bne_eq_false_iff_eq.mpr c6
      clear c6
      simp only [Option.some.injEq, Prod.mk.injEq] at H
      obtain ⟨rfl, rfl⟩ := H
      go_enter Tryd.func99, Tryd.ntmps99
      go_wp2
      go_ret2
      exact ⟨by first | rfl | (simp; done) | (simp [*]; done) | (simp [nil_bne]; done), by repeat (first | exact Drawn0.refl _ | apply Drawn0.step)⟩
     ·rw [if_neg c6] at H
      have c6b0 : (a0 == 3) = false := beq_eq_false_iff_ne.mpr c6
      have c6b1 : (a0 != 3) = true := bne_iff_ne.mpr c6
      by_cases c7 : a0 = 4
      ·rw [if_pos c7] at H
       have c7b0 : (a0 == 4) = true := beq_iff_eq.mpr c7
       have c7b1 : (a0 != 4) = false := bne_eq_false_iff_eq.mpr c7
       clear c7
       simp only [Option.some.injEq, Prod.mk.injEq] at H
       obtain ⟨rfl, rfl⟩ := H
       go_enter Tryd.func99, Tryd.ntmps99
       go_wp2
       go_ret2
       exact ⟨by first | rfl | (simp; done) | (simp [*]; done) | (simp [nil_bne]; done), by repeat (first | exact Drawn0.refl _ | apply Drawn0.step)⟩
      ·rw [if_neg c7] at H
       have c7b0 : (a0 == 4) = false := beq_eq_false_iff_ne.mpr c7
       have c7b1 : (a0 != 4) = true := bne_iff_ne.mpr c7
       simp only [Option.some.injEq, Prod.mk.injEq] at H
       obtain ⟨rfl, rfl⟩ := H
       go_enter Tryd.func99, Tryd.ntmps99
       go_wp2
       go_ret2
       exact ⟨by first | rfl | (simp; done) | (simp [*]; done) | (simp [nil_bne]; done), by repeat (first | exact Drawn0.refl _ | apply Drawn0.step)⟩

end Go.Proofs.YtlooelfkkbgmhaaDoor.QS
