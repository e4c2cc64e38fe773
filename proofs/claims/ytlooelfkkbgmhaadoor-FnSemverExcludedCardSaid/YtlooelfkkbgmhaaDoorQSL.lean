-- written by a program of mine (wip/tools/myprint.py, gather.py) for this claim. Not trusted: Lean checks it.
import Derived.Below
import Derived.Deep.Draws
import Derived.Deep.AppendLies
import Derived.Maps.AppendAt
import Derived.OwnWalk
import Derived.Laws.BytesArg
import Derived.Laws.MakeOwn
import Derived.Laws.OwnMore
import Derived.Deep.OwnRows
import Derived.Tactics
import Derived.Lib.ConvBytes
import Derived.Laws.Slices
import Derived.WalkKit
import Derived.KernelRfl
import Derived.RowKit3
import Derived.Deep.LoopGhost
import Derived.Deep.QuietTactic
import Derived.BigQuiet
import Derived.WideLaws
import Derived.Deep.DeepCutAuto
import Derived.Deep.CutBlock
import Derived.Deep.RegionHeld3
import Derived.Laws.Rows
import Derived.Lib.AppendStr
import Derived.ArgAppend
import Derived.Laws.IdiomCopy
import Derived.OrdersHeld
import Derived.Laws.BitsLemmas
import Derived.RowKit
import Derived.Test.YtlooelfkkbgmhaaDoorU
import Derived.Test.YtlooelfkkbgmhaaDoorMyWords
import Derived.Test.YtlooelfkkbgmhaaDoorQSA
import Derived.Test.YtlooelfkkbgmhaaDoorQSB
namespace Go.Proofs.YtlooelfkkbgmhaaDoor.QS
open Go.RowKit Go.Proofs.YtlooelfkkbgmhaaDoorW.PrintWords Go.Proofs.YtlooelfkkbgmhaaDoorW.PrintLast
theorem info54 : (Tryd.prog.info? 54).map (fun i => (i.zero, i.size, i.bytes)) = some (some (.slice none 0 0), 1, 24) := by kernel_rfl
theorem k24_mkF (W : World) (ok : Nat → Prop) (x : S24) : Kd.FK k24 W ok x [.int .u64 x.f0, .int .u64 x.f1, .int .u64 x.f2, .string x.f3, .string x.f4] := fun W2 _ => k24_mk W2 x
theorem k36_mkF (W : World) (ok : Nat → Prop) (x : S36) : Kd.FK k36 W ok x [.int .i64 x.f0, .int .i64 x.f1, .int .u64 x.f2, .int .u64 x.f3, .int .u64 x.f4, .string x.f5] := fun W2 _ => k36_mk W2 x
end Go.Proofs.YtlooelfkkbgmhaaDoor.QS
namespace Go.Proofs.YtlooelfkkbgmhaaDoor.QS
open Go.RowKit Go.Proofs.YtlooelfkkbgmhaaDoorW.PrintWords Go.Proofs.YtlooelfkkbgmhaaDoorW.PrintLast

set_option linter.unusedVariables false
set_option linter.unusedSimpArgs false

/-! ### laws_zzFits12: function 61 -/
def laws_zzFits12.l0 : Nat → List (S36) → Int → Int → Option (Bool)
 | 0, _, _, _ => none
 | k + 1, x8, x9, x10 => if x10 < x9 then (if 0 ≤ x10 then (if x10 < (x8.length : Int) then ((laws_zzFits13.f ((rd_T36 x8 x10).f0) ((rd_T36 x8 x10).f1) ((rd_T36 x8 x10).f2) ((rd_T36 x8 x10).f3) ((rd_T36 x8 x10).f4) ((rd_T36 x8 x10).f5)).bind fun t514 => (if t514 = true then (laws_zzFits12.l0 k x8 x9 (wrap64 (x10 + 1))) else (some false))) else (none)) else (none)) else (some true)
def laws_zzFits12.f (k : Nat) (l0 : List (S36)) : Option (Bool) := if (l0.length : Int) > 2147483647 then (some false) else (laws_zzFits12.l0 k l0 (l0.length : Int) 0)
theorem laws_zzFits12.mono_l : ∀ k, (∀ y0 y1 y2, LeO (laws_zzFits12.l0 k y0 y1 y2) (laws_zzFits12.l0 (k + 1) y0 y1 y2))
 | 0 => fun _ _ _ r h => by simp [laws_zzFits12.l0] at h
 | k + 1 => by
  have ih0 := laws_zzFits12.mono_l k
  ·intro y0 y1 y2
   unfold laws_zzFits12.l0
   repeat' first
   | (with_reducible exact ih0 _ _ _)
   | (with_reducible exact LeO.refl _)
   | (with_reducible exact LeO.none _)
   | (with_reducible refine LeO.ite ?_ ?_)
   | (with_reducible refine LeO.bind ?_ (fun _ => ?_))
   | exact ih0 _ _ _
   | exact LeO.none _
   | refine LeO.ite ?_ ?_
   | refine LeO.bind ?_ (fun _ => ?_)
theorem laws_zzFits12.mono : ∀ a0 k, LeO (laws_zzFits12.f k a0) (laws_zzFits12.f (k + 1) a0) := by
 intro a0 k
 have ih0 := laws_zzFits12.mono_l k
 unfold laws_zzFits12.f
 repeat' first
   | (with_reducible exact ih0 _ _ _)
   | (with_reducible exact LeO.refl _)
   | (with_reducible exact LeO.none _)
   | (with_reducible refine LeO.ite ?_ ?_)
   | (with_reducible refine LeO.bind ?_ (fun _ => ?_))
   | exact ih0 _ _ _
   | exact LeO.none _
   | refine LeO.ite ?_ ?_
   | refine LeO.bind ?_ (fun _ => ?_)
set_option maxHeartbeats 8000000 in
set_option maxRecDepth 100000 in
theorem laws_zzFits12.calls (k : Nat) (A0 : Option Addr) (c0 : Nat) (l0 : List (S36)) (r : Bool) (w : World) (hr0 : Kd.C k36 w A0 l0.length l0) (hc0 : l0.length ≤ c0) (h : laws_zzFits12.f k l0 = some r) :
  Calls Tryd.prog 61 #[.slice A0 l0.length c0] w fun e w' => e = .returned (.bool r) ∧ Below w.heap.size w w' := by
 have hu36 := Tryd.underlying36
 have HR0 := Aside0.mk hr0
 have HC0 := Aside0.mk hc0
 clear hr0 hc0
 have HB := Aside0.mk (Below.refl w.heap.size w)
 have H : (if (l0.length : Int) > 2147483647 then (some false) else (laws_zzFits12.l0 k l0 (l0.length : Int) 0)) = some r := h
 clear h
 by_cases c2 : (l0.length : Int) > 2147483647
 ·rw [if_pos c2] at H
  have c2b0 : decide (2147483647 < (l0.length : Int)) = true := decide_eq_true c2
  have c2b1 : decide (2147483647 < l0.length) = true := decide_eq_true (by omega)
  clear c2
  obtain rfl := Option.some.inj H
  go_enter Tryd.func61, Tryd.ntmps61
  go_wp2
  go_ret
  exact ⟨by first | rfl | (simp [errW_none, errW_some] <;> rfl) | (simp [*, errW_none, errW_some] <;> rfl), by repeat (first | (with_reducible first | exact HB.out | apply below_alloc | apply pw_below_drewN | apply below_drew1) | exact HB.out)⟩
 ·rw [if_neg c2] at H
  have c2b0 : decide (2147483647 < (l0.length : Int)) = false := decide_eq_false c2
  have c2b1 : decide (2147483647 < l0.length) = false := decide_eq_false (by omega)
  clear c2
  have H' := Aside0.mk H
  clear H
  go_enter Tryd.func61, Tryd.ntmps61
  go_wp2
  go_loopg [10] k (fun kq v10 w' => ∃ (x10_1 : Int), v10 = .int .i64 x10_1 ∧ Aside0 (laws_zzFits12.l0 kq l0 (l0.length : Int) x10_1 = some r) ∧ Aside0 (kq ≤ k) ∧ Aside0 (Below w.heap.size w w'))
  case atStart => exact ⟨(0), (by first | rfl | (simp; done) | (simp [*]; done) | (simp [nil_bne]; done)), H', ⟨Nat.le_refl _⟩, ⟨by repeat (first | (with_reducible first | exact HB.out | apply below_alloc | apply pw_below_drewN | apply below_drew1) | exact HB.out)⟩⟩
  case round =>
   clear H'
   try clear c2
   try clear c2b0
   try clear c2b1
   try clear p2
   obtain ⟨x10_1, rfl, HA, HK1, HB⟩ := hrel
   cases gk with
   | zero => exact absurd HA.out (by simp [laws_zzFits12.l0])
   | succ k1 =>
    have H := HA.out
    clear HA
    simp only [laws_zzFits12.l0] at H
    by_cases c3 : x10_1 < (l0.length : Int)
    ·rw [if_pos c3] at H
     have c3b0 : decide (x10_1 < (l0.length : Int)) = true := decide_eq_true c3
     clear c3
     by_cases c4 : 0 ≤ x10_1
     ·rw [if_pos c4] at H
      have c4b0 : decide (0 ≤ x10_1) = true := decide_eq_true c4
      clear c4
      by_cases c5 : x10_1 < (l0.length : Int)
      ·rw [if_pos c5] at H
       have c5b0 : decide (x10_1 < (l0.length : Int)) = true := decide_eq_true c5
       clear c5
       replace H := Option.bind_eq_some_iff.mp H
       obtain ⟨t514, A60, H⟩ := H
       replace H : (if t514 = true then (laws_zzFits12.l0 k1 l0 (l0.length : Int) (wrap64 (x10_1 + 1))) else (some false)) = some r := H
       have A6 := Aside0.mk A60
       clear A60
       by_cases c7 : t514 = true
       ·subst c7
        have H1 : (laws_zzFits12.l0 k1 l0 (l0.length : Int) (wrap64 (x10_1 + 1))) = some r := by rw [if_pos rfl] at H; exact H
        clear H
        have H := H1
        clear H1
        have H' := Aside0.mk H
        clear H
        have p512 : 0 ≤ (x10_1 : Int) := of_decide_eq_true (by first | (with_reducible assumption) | assumption)
        have q512 : x10_1 < (l0.length : Int) := of_decide_eq_true (by first | (with_reducible assumption) | assumption)
        obtain ⟨ad512, e512, hx512_0, hx512_1, hx512_2, hx512_3, hx512_4, hx512_5⟩ := at_T36 HR0.out x10_1 p512 q512
        cases e512
        replace hx512_0 := (HB.out.cell (World.block_lt_of_cell? w _ hx512_0)).trans hx512_0
        replace hx512_1 := (HB.out.cell (World.block_lt_of_cell? w _ hx512_1)).trans hx512_1
        replace hx512_2 := (HB.out.cell (World.block_lt_of_cell? w _ hx512_2)).trans hx512_2
        replace hx512_3 := (HB.out.cell (World.block_lt_of_cell? w _ hx512_3)).trans hx512_3
        replace hx512_4 := (HB.out.cell (World.block_lt_of_cell? w _ hx512_4)).trans hx512_4
        replace hx512_5 := (HB.out.cell (World.block_lt_of_cell? w _ hx512_5)).trans hx512_5
        replace p512 := eq_true p512
        replace q512 := eq_true q512
        go_wp2_with (first | ((with_reducible refine gate_dst (N := 4) rfl ?_); refine box_event ?hg (N := 4) ?hd (cs := #[.int .i64 0, .int .i64 0, .int .u64 0, .int .u64 0, .int .u64 0, .string (⟨#[]⟩ : ByteArray)]) (t := 36) ?hr ?_; (case hd => rfl); (case hg => rfl); (case hr => first | (go_simp; done) | (go_simp; rfl)); intro gb513 hg w8 hbox hb; have n0_ := Aside0.mk (below_step (by repeat (first | (with_reducible first | exact HB.out | apply below_alloc | apply pw_below_drewN | apply below_drew1) | exact HB.out)) hb); have n1_ := Aside0.mk (hbox); have n2_ := Aside0.mk ((by rw [hg]; exact (below_size (by repeat (first | (with_reducible first | exact HB.out | apply below_alloc | apply pw_below_drewN | apply below_drew1) | exact HB.out))) : w.heap.size ≤ gb513)); have n3_ := Aside0.mk ((by rw [hg]; exact (below_size (by repeat (first | (with_reducible first | exact HB.out | apply below_alloc | apply pw_below_drewN | apply below_drew1) | exact HB.out))) : w.heap.size ≤ gb513)); clear HB; have HB := n0_; have BK513 := n1_; have GW513 := n2_; have GE513 := n3_; clear n0_ n1_ n2_ n3_; clear hb hbox hg; have hcz9_0 : w8.cell? ⟨gb513, 0, none⟩ = some (.int .i64 0) := (blk_cell BK513.out 0).trans rfl; have hcz9_1 : w8.cell? ⟨gb513, 1, none⟩ = some (.int .i64 0) := (blk_cell BK513.out 1).trans rfl; have hcz9_2 : w8.cell? ⟨gb513, 2, none⟩ = some (.int .u64 0) := (blk_cell BK513.out 2).trans rfl; have hcz9_3 : w8.cell? ⟨gb513, 3, none⟩ = some (.int .u64 0) := (blk_cell BK513.out 3).trans rfl; have hcz9_4 : w8.cell? ⟨gb513, 4, none⟩ = some (.int .u64 0) := (blk_cell BK513.out 4).trans rfl; have hcz9_5 : w8.cell? ⟨gb513, 5, none⟩ = some (.string (⟨#[]⟩ : ByteArray)) := (blk_cell BK513.out 5).trans rfl; have hfz9_0 := blk_frozen BK513.out 0; have hfz9_1 := blk_frozen BK513.out 1; have hfz9_2 := blk_frozen BK513.out 2; have hfz9_3 := blk_frozen BK513.out 3; have hfz9_4 := blk_frozen BK513.out 4; have hfz9_5 := blk_frozen BK513.out 5) | ((with_reducible refine only_callee (f := 33) rfl ?_); refine goesL_ (some 15) rfl rfl Tryd.func33 (by kernel_rfl) rfl #[.agg #[.int .i64 ((rd_T36 l0 x10_1).f0), .int .i64 ((rd_T36 l0 x10_1).f1), .int .u64 ((rd_T36 l0 x10_1).f2), .int .u64 ((rd_T36 l0 x10_1).f3), .int .u64 ((rd_T36 l0 x10_1).f4), .string ((rd_T36 l0 x10_1).f5)]] rfl (by (try simp only [List.map_toArray, List.map_cons, List.map_nil]); first | done | rfl | (simp only [List.length_drop, List.length_take]; rfl)) ?_; (with_reducible refine (laws_zzFits13.calls ((rd_T36 l0 x10_1).f0) ((rd_T36 l0 x10_1).f1) ((rd_T36 l0 x10_1).f2) ((rd_T36 l0 x10_1).f3) ((rd_T36 l0 x10_1).f4) ((rd_T36 l0 x10_1).f5) true _ A6.out).mono ?_); rintro e w10 ⟨rfl, hb⟩; refine ⟨_, rfl, ?_⟩; have n0_ := Aside0.mk (blk_below (g := gb513) (o := .cells #[.int .i64 ((rd_T36 l0 x10_1).f0), .int .i64 ((rd_T36 l0 x10_1).f1), .int .u64 ((rd_T36 l0 x10_1).f2), .int .u64 ((rd_T36 l0 x10_1).f3), .int .u64 ((rd_T36 l0 x10_1).f4), .string ((rd_T36 l0 x10_1).f5)] 36 (0, 0)) (by (with_reducible repeat (first | refine blk_drewN ?_ _ | refine blk_drew ?_ | refine blk_alloc ?_ _)); refine blk_put (cs := #[.int .i64 ((rd_T36 l0 x10_1).f0), .int .i64 ((rd_T36 l0 x10_1).f1), .int .u64 ((rd_T36 l0 x10_1).f2), .int .u64 ((rd_T36 l0 x10_1).f3), .int .u64 ((rd_T36 l0 x10_1).f4), .string (⟨#[]⟩ : ByteArray)]) ?_ 5 _ rfl; (with_reducible repeat (first | refine blk_drewN ?_ _ | refine blk_drew ?_ | refine blk_alloc ?_ _)); refine blk_put (cs := #[.int .i64 ((rd_T36 l0 x10_1).f0), .int .i64 ((rd_T36 l0 x10_1).f1), .int .u64 ((rd_T36 l0 x10_1).f2), .int .u64 ((rd_T36 l0 x10_1).f3), .int .u64 0, .string (⟨#[]⟩ : ByteArray)]) ?_ 4 _ rfl; (with_reducible repeat (first | refine blk_drewN ?_ _ | refine blk_drew ?_ | refine blk_alloc ?_ _)); refine blk_put (cs := #[.int .i64 ((rd_T36 l0 x10_1).f0), .int .i64 ((rd_T36 l0 x10_1).f1), .int .u64 ((rd_T36 l0 x10_1).f2), .int .u64 0, .int .u64 0, .string (⟨#[]⟩ : ByteArray)]) ?_ 3 _ rfl; (with_reducible repeat (first | refine blk_drewN ?_ _ | refine blk_drew ?_ | refine blk_alloc ?_ _)); refine blk_put (cs := #[.int .i64 ((rd_T36 l0 x10_1).f0), .int .i64 ((rd_T36 l0 x10_1).f1), .int .u64 0, .int .u64 0, .int .u64 0, .string (⟨#[]⟩ : ByteArray)]) ?_ 2 _ rfl; (with_reducible repeat (first | refine blk_drewN ?_ _ | refine blk_drew ?_ | refine blk_alloc ?_ _)); refine blk_put (cs := #[.int .i64 ((rd_T36 l0 x10_1).f0), .int .i64 0, .int .u64 0, .int .u64 0, .int .u64 0, .string (⟨#[]⟩ : ByteArray)]) ?_ 1 _ rfl; (with_reducible repeat (first | refine blk_drewN ?_ _ | refine blk_drew ?_ | refine blk_alloc ?_ _)); refine blk_put (cs := #[.int .i64 0, .int .i64 0, .int .u64 0, .int .u64 0, .int .u64 0, .string (⟨#[]⟩ : ByteArray)]) ?_ 0 _ rfl; (with_reducible repeat (first | refine blk_drewN ?_ _ | refine blk_drew ?_ | refine blk_alloc ?_ _)); exact BK513.out) hb); have n1_ := Aside0.mk (below_step (by repeat (first | (with_reducible first | exact HB.out | apply below_alloc | apply pw_below_drewN | apply below_drew1 | refine below_set ?_ GE513.out) | exact HB.out)) hb); clear BK513; clear HB; have BK513 := n0_; have HB := n1_; clear n0_ n1_; (try clear hb); (try clear hb2); (try clear hk); (try clear hi)))
        go_roundg k1
        case measure => have := HK1.out; omega
        case rel => exact ⟨(wrap64 (x10_1 + 1)), (by first | rfl | (simp; done) | (simp [*]; done) | (simp [nil_bne]; done)), H', ⟨by have := HK1.out; omega⟩, ⟨by repeat (first | (with_reducible first | exact HB.out | apply below_alloc | apply pw_below_drewN | apply below_drew1 | refine below_set ?_ GE513.out) | exact HB.out)⟩⟩
       ·replace c7 := Bool.eq_false_iff.mpr c7
        subst c7
        have H1 : (some false) = some r := by rw [if_neg (show ¬ (false = true) by decide)] at H; exact H
        clear H
        have H := H1
        clear H1
        obtain rfl := Option.some.inj H
        have p512 : 0 ≤ (x10_1 : Int) := of_decide_eq_true (by first | (with_reducible assumption) | assumption)
        have q512 : x10_1 < (l0.length : Int) := of_decide_eq_true (by first | (with_reducible assumption) | assumption)
        obtain ⟨ad512, e512, hx512_0, hx512_1, hx512_2, hx512_3, hx512_4, hx512_5⟩ := at_T36 HR0.out x10_1 p512 q512
        cases e512
        replace hx512_0 := (HB.out.cell (World.block_lt_of_cell? w _ hx512_0)).trans hx512_0
        replace hx512_1 := (HB.out.cell (World.block_lt_of_cell? w _ hx512_1)).trans hx512_1
        replace hx512_2 := (HB.out.cell (World.block_lt_of_cell? w _ hx512_2)).trans hx512_2
        replace hx512_3 := (HB.out.cell (World.block_lt_of_cell? w _ hx512_3)).trans hx512_3
        replace hx512_4 := (HB.out.cell (World.block_lt_of_cell? w _ hx512_4)).trans hx512_4
        replace hx512_5 := (HB.out.cell (World.block_lt_of_cell? w _ hx512_5)).trans hx512_5
        replace p512 := eq_true p512
        replace q512 := eq_true q512
        go_wp2_with (first | ((with_reducible refine gate_dst (N := 4) rfl ?_); refine box_event ?hg (N := 4) ?hd (cs := #[.int .i64 0, .int .i64 0, .int .u64 0, .int .u64 0, .int .u64 0, .string (⟨#[]⟩ : ByteArray)]) (t := 36) ?hr ?_; (case hd => rfl); (case hg => rfl); (case hr => first | (go_simp; done) | (go_simp; rfl)); intro gb513 hg w11 hbox hb; have n0_ := Aside0.mk (below_step (by repeat (first | (with_reducible first | exact HB.out | apply below_alloc | apply pw_below_drewN | apply below_drew1) | exact HB.out)) hb); have n1_ := Aside0.mk (hbox); have n2_ := Aside0.mk ((by rw [hg]; exact (below_size (by repeat (first | (with_reducible first | exact HB.out | apply below_alloc | apply pw_below_drewN | apply below_drew1) | exact HB.out))) : w.heap.size ≤ gb513)); have n3_ := Aside0.mk ((by rw [hg]; exact (below_size (by repeat (first | (with_reducible first | exact HB.out | apply below_alloc | apply pw_below_drewN | apply below_drew1) | exact HB.out))) : w.heap.size ≤ gb513)); clear HB; have HB := n0_; have BK513 := n1_; have GW513 := n2_; have GE513 := n3_; clear n0_ n1_ n2_ n3_; clear hb hbox hg; have hcz12_0 : w11.cell? ⟨gb513, 0, none⟩ = some (.int .i64 0) := (blk_cell BK513.out 0).trans rfl; have hcz12_1 : w11.cell? ⟨gb513, 1, none⟩ = some (.int .i64 0) := (blk_cell BK513.out 1).trans rfl; have hcz12_2 : w11.cell? ⟨gb513, 2, none⟩ = some (.int .u64 0) := (blk_cell BK513.out 2).trans rfl; have hcz12_3 : w11.cell? ⟨gb513, 3, none⟩ = some (.int .u64 0) := (blk_cell BK513.out 3).trans rfl; have hcz12_4 : w11.cell? ⟨gb513, 4, none⟩ = some (.int .u64 0) := (blk_cell BK513.out 4).trans rfl; have hcz12_5 : w11.cell? ⟨gb513, 5, none⟩ = some (.string (⟨#[]⟩ : ByteArray)) := (blk_cell BK513.out 5).trans rfl; have hfz12_0 := blk_frozen BK513.out 0; have hfz12_1 := blk_frozen BK513.out 1; have hfz12_2 := blk_frozen BK513.out 2; have hfz12_3 := blk_frozen BK513.out 3; have hfz12_4 := blk_frozen BK513.out 4; have hfz12_5 := blk_frozen BK513.out 5) | ((with_reducible refine only_callee (f := 33) rfl ?_); refine goesL_ (some 15) rfl rfl Tryd.func33 (by kernel_rfl) rfl #[.agg #[.int .i64 ((rd_T36 l0 x10_1).f0), .int .i64 ((rd_T36 l0 x10_1).f1), .int .u64 ((rd_T36 l0 x10_1).f2), .int .u64 ((rd_T36 l0 x10_1).f3), .int .u64 ((rd_T36 l0 x10_1).f4), .string ((rd_T36 l0 x10_1).f5)]] rfl (by (try simp only [List.map_toArray, List.map_cons, List.map_nil]); first | done | rfl | (simp only [List.length_drop, List.length_take]; rfl)) ?_; (with_reducible refine (laws_zzFits13.calls ((rd_T36 l0 x10_1).f0) ((rd_T36 l0 x10_1).f1) ((rd_T36 l0 x10_1).f2) ((rd_T36 l0 x10_1).f3) ((rd_T36 l0 x10_1).f4) ((rd_T36 l0 x10_1).f5) false _ A6.out).mono ?_); rintro e w13 ⟨rfl, hb⟩; refine ⟨_, rfl, ?_⟩; have n0_ := Aside0.mk (blk_below (g := gb513) (o := .cells #[.int .i64 ((rd_T36 l0 x10_1).f0), .int .i64 ((rd_T36 l0 x10_1).f1), .int .u64 ((rd_T36 l0 x10_1).f2), .int .u64 ((rd_T36 l0 x10_1).f3), .int .u64 ((rd_T36 l0 x10_1).f4), .string ((rd_T36 l0 x10_1).f5)] 36 (0, 0)) (by (with_reducible repeat (first | refine blk_drewN ?_ _ | refine blk_drew ?_ | refine blk_alloc ?_ _)); refine blk_put (cs := #[.int .i64 ((rd_T36 l0 x10_1).f0), .int .i64 ((rd_T36 l0 x10_1).f1), .int .u64 ((rd_T36 l0 x10_1).f2), .int .u64 ((rd_T36 l0 x10_1).f3), .int .u64 ((rd_T36 l0 x10_1).f4), .string (⟨#[]⟩ : ByteArray)]) ?_ 5 _ rfl; (with_reducible repeat (first | refine blk_drewN ?_ _ | refine blk_drew ?_ | refine blk_alloc ?_ _)); refine blk_put (cs := #[.int .i64 ((rd_T36 l0 x10_1).f0), .int .i64 ((rd_T36 l0 x10_1).f1), .int .u64 ((rd_T36 l0 x10_1).f2), .int .u64 ((rd_T36 l0 x10_1).f3), .int .u64 0, .string (⟨#[]⟩ : ByteArray)]) ?_ 4 _ rfl; (with_reducible repeat (first | refine blk_drewN ?_ _ | refine blk_drew ?_ | refine blk_alloc ?_ _)); refine blk_put (cs := #[.int .i64 ((rd_T36 l0 x10_1).f0), .int .i64 ((rd_T36 l0 x10_1).f1), .int .u64 ((rd_T36 l0 x10_1).f2), .int .u64 0, .int .u64 0, .string (⟨#[]⟩ : ByteArray)]) ?_ 3 _ rfl; (with_reducible repeat (first | refine blk_drewN ?_ _ | refine blk_drew ?_ | refine blk_alloc ?_ _)); refine blk_put (cs := #[.int .i64 ((rd_T36 l0 x10_1).f0), .int .i64 ((rd_T36 l0 x10_1).f1), .int .u64 0, .int .u64 0, .int .u64 0, .string (⟨#[]⟩ : ByteArray)]) ?_ 2 _ rfl; (with_reducible repeat (first | refine blk_drewN ?_ _ | refine blk_drew ?_ | refine blk_alloc ?_ _)); refine blk_put (cs := #[.int .i64 ((rd_T36 l0 x10_1).f0), .int .i64 0, .int .u64 0, .int .u64 0, .int .u64 0, .string (⟨#[]⟩ : ByteArray)]) ?_ 1 _ rfl; (with_reducible repeat (first | refine blk_drewN ?_ _ | refine blk_drew ?_ | refine blk_alloc ?_ _)); refine blk_put (cs := #[.int .i64 0, .int .i64 0, .int .u64 0, .int .u64 0, .int .u64 0, .string (⟨#[]⟩ : ByteArray)]) ?_ 0 _ rfl; (with_reducible repeat (first | refine blk_drewN ?_ _ | refine blk_drew ?_ | refine blk_alloc ?_ _)); exact BK513.out) hb); have n1_ := Aside0.mk (below_step (by repeat (first | (with_reducible first | exact HB.out | apply below_alloc | apply pw_below_drewN | apply below_drew1 | refine below_set ?_ GE513.out) | exact HB.out)) hb); clear BK513; clear HB; have BK513 := n0_; have HB := n1_; clear n0_ n1_; (try clear hb); (try clear hb2); (try clear hk); (try clear hi)))
        go_ret
        exact ⟨by first | rfl | (simp [errW_none, errW_some] <;> rfl) | (simp [*, errW_none, errW_some] <;> rfl), by repeat (first | (with_reducible first | exact HB.out | apply below_alloc | apply pw_below_drewN | apply below_drew1 | refine below_set ?_ GE513.out) | exact HB.out)⟩
      ·rw [if_neg c5] at H
       exact absurd H (by simp)
     ·rw [if_neg c4] at H
      exact absurd H (by simp)
    ·rw [if_neg c3] at H
     have c3b0 : decide (x10_1 < (l0.length : Int)) = false := decide_eq_false c3
     clear c3
     obtain rfl := Option.some.inj H
     go_wp2
     go_ret
     exact ⟨by first | rfl | (simp [errW_none, errW_some] <;> rfl) | (simp [*, errW_none, errW_some] <;> rfl), by repeat (first | (with_reducible first | exact HB.out | apply below_alloc | apply pw_below_drewN | apply below_drew1) | exact HB.out)⟩

end Go.Proofs.YtlooelfkkbgmhaaDoor.QS
namespace Go.Proofs.YtlooelfkkbgmhaaDoor.QS
open Go.RowKit Go.Proofs.YtlooelfkkbgmhaaDoorW.PrintWords Go.Proofs.YtlooelfkkbgmhaaDoorW.PrintLast

set_option linter.unusedVariables false
set_option linter.unusedSimpArgs false

/-! ### spec_GoodTerms: function 97 -/
mutual
def spec_GoodTerms.l0 : Nat → Int → Int → List (List (S36)) → Int → Int → Option (Bool)
 | 0, _, _, _, _, _ => none
 | k + 1, x1, x5, x10, x11, x12 => if x12 < x11 then (if 0 ≤ x12 then (if x12 < (x10.length : Int) then (spec_GoodTerms.l1 k x1 x5 (rd_L6 x10 x12) x10 x11 x12 (rd_L6 x10 x12) ((rd_L6 x10 x12).length : Int) 0) else (none)) else (none)) else (some (decide (x5 > 0)))
def spec_GoodTerms.l1 : Nat → Int → Int → List (S36) → List (List (S36)) → Int → Int → List (S36) → Int → Int → Option (Bool)
 | 0, _, _, _, _, _, _, _, _, _ => none
 | k + 1, x1, x5, x7, x10, x11, x12, x16, x17, x18 => if x18 < x17 then (if 0 ≤ x18 then (if x18 < (x16.length : Int) then ((spec_GoodTerm.f k ((rd_T36 x16 x18).f0) ((rd_T36 x16 x18).f1) ((rd_T36 x16 x18).f2) ((rd_T36 x16 x18).f3) ((rd_T36 x16 x18).f4) ((rd_T36 x16 x18).f5)).bind fun t520 => (if t520 = true then (spec_GoodTerms.l1 k x1 x5 x7 x10 x11 x12 x16 x17 (wrap64 (x18 + 1))) else (some false))) else (none)) else (none)) else (if (x7.length : Int) = 0 then (some false) else (if (wrap64 (x5 + (x7.length : Int))) > x1 then (some false) else (spec_GoodTerms.l0 k x1 (wrap64 (x5 + (x7.length : Int))) x10 x11 (wrap64 (x12 + 1)))))
end
def spec_GoodTerms.f (k : Nat) (l0 : List (List (S36))) (a1 : Int) : Option (Bool) := spec_GoodTerms.l0 k a1 0 l0 (l0.length : Int) 0
theorem spec_GoodTerms.mono_l : ∀ k, (∀ y0 y1 y2 y3 y4, LeO (spec_GoodTerms.l0 k y0 y1 y2 y3 y4) (spec_GoodTerms.l0 (k + 1) y0 y1 y2 y3 y4)) ∧ (∀ y0 y1 y2 y3 y4 y5 y6 y7 y8, LeO (spec_GoodTerms.l1 k y0 y1 y2 y3 y4 y5 y6 y7 y8) (spec_GoodTerms.l1 (k + 1) y0 y1 y2 y3 y4 y5 y6 y7 y8))
 | 0 => ⟨fun _ _ _ _ _ r h => by simp [spec_GoodTerms.l0] at h, fun _ _ _ _ _ _ _ _ _ r h => by simp [spec_GoodTerms.l1] at h⟩
 | k + 1 => by
  obtain ⟨ih0, ih1⟩ := spec_GoodTerms.mono_l k
  refine ⟨?_, ?_⟩
  ·intro y0 y1 y2 y3 y4
   unfold spec_GoodTerms.l0
   repeat' first
   | (with_reducible exact ih0 _ _ _ _ _)
   | (with_reducible exact ih1 _ _ _ _ _ _ _ _ _)
   | (with_reducible exact spec_GoodTerm.mono _ _ _ _ _ _ _)
   | (with_reducible exact LeO.refl _)
   | (with_reducible exact LeO.none _)
   | (with_reducible refine LeO.ite ?_ ?_)
   | (with_reducible refine LeO.bind ?_ (fun _ => ?_))
   | exact ih0 _ _ _ _ _
   | exact ih1 _ _ _ _ _ _ _ _ _
   | exact spec_GoodTerm.mono _ _ _ _ _ _ _
   | exact LeO.none _
   | refine LeO.ite ?_ ?_
   | refine LeO.bind ?_ (fun _ => ?_)
  ·intro y0 y1 y2 y3 y4 y5 y6 y7 y8
   unfold spec_GoodTerms.l1
   repeat' first
   | (with_reducible exact ih0 _ _ _ _ _)
   | (with_reducible exact ih1 _ _ _ _ _ _ _ _ _)
   | (with_reducible exact spec_GoodTerm.mono _ _ _ _ _ _ _)
   | (with_reducible exact LeO.refl _)
   | (with_reducible exact LeO.none _)
   | (with_reducible refine LeO.ite ?_ ?_)
   | (with_reducible refine LeO.bind ?_ (fun _ => ?_))
   | exact ih0 _ _ _ _ _
   | exact ih1 _ _ _ _ _ _ _ _ _
   | exact spec_GoodTerm.mono _ _ _ _ _ _ _
   | exact LeO.none _
   | refine LeO.ite ?_ ?_
   | refine LeO.bind ?_ (fun _ => ?_)
theorem spec_GoodTerms.mono : ∀ a0 a1 k, LeO (spec_GoodTerms.f k a0 a1) (spec_GoodTerms.f (k + 1) a0 a1) := by
 intro a0 a1 k
 obtain ⟨ih0, ih1⟩ := spec_GoodTerms.mono_l k
 unfold spec_GoodTerms.f
 repeat' first
   | (with_reducible exact ih0 _ _ _ _ _)
   | (with_reducible exact ih1 _ _ _ _ _ _ _ _ _)
   | (with_reducible exact spec_GoodTerm.mono _ _ _ _ _ _ _)
   | (with_reducible exact LeO.refl _)
   | (with_reducible exact LeO.none _)
   | (with_reducible refine LeO.ite ?_ ?_)
   | (with_reducible refine LeO.bind ?_ (fun _ => ?_))
   | exact ih0 _ _ _ _ _
   | exact ih1 _ _ _ _ _ _ _ _ _
   | exact spec_GoodTerm.mono _ _ _ _ _ _ _
   | exact LeO.none _
   | refine LeO.ite ?_ ?_
   | refine LeO.bind ?_ (fun _ => ?_)
set_option maxHeartbeats 8000000 in
set_option maxRecDepth 100000 in
theorem spec_GoodTerms.calls (k : Nat) (A0 : Option Addr) (c0 : Nat) (l0 : List (List (S36))) (a1 : Int) (r : Bool) (w : World) (hr0 : Kd.C (Kd.slice 36 k36) w A0 l0.length l0) (hc0 : l0.length ≤ c0) (h : spec_GoodTerms.f k l0 a1 = some r) :
  Calls Tryd.prog 97 #[.slice A0 l0.length c0, .int .i64 a1] w fun e w' => e = .returned (.bool r) ∧ Below w.heap.size w w' := by
 have hu36 := Tryd.underlying36
 have HR0 := Aside0.mk hr0
 have HC0 := Aside0.mk hc0
 clear hr0 hc0
 have HB := Aside0.mk (Below.refl w.heap.size w)
 have H : (spec_GoodTerms.l0 k a1 0 l0 (l0.length : Int) 0) = some r := h
 clear h
 have H' := Aside0.mk H
 clear H
 go_enter Tryd.func97, Tryd.ntmps97
 go_wp2
 go_loopg [5, 12] k (fun kq v5 v12 w' => ∃ (x5_1 : Int) (x12_1 : Int), v5 = .int .i64 x5_1 ∧ v12 = .int .i64 x12_1 ∧ Aside0 (spec_GoodTerms.l0 kq a1 x5_1 l0 (l0.length : Int) x12_1 = some r) ∧ Aside0 (kq ≤ k) ∧ Aside0 (Below w.heap.size w w'))
 case atStart => exact ⟨(0), (0), (by first | rfl | (simp; done) | (simp [*]; done) | (simp [nil_bne]; done)), (by first | rfl | (simp; done) | (simp [*]; done) | (simp [nil_bne]; done)), H', ⟨Nat.le_refl _⟩, ⟨by repeat (first | (with_reducible first | exact HB.out | apply below_alloc | apply pw_below_drewN | apply below_drew1) | exact HB.out)⟩⟩
 case round =>
  clear H'
  try clear p2
  obtain ⟨x5_1, x12_1, rfl, rfl, HA, HK1, HB⟩ := hrel
  cases gk with
  | zero => exact absurd HA.out (by simp [spec_GoodTerms.l0])
  | succ k1 =>
   have H := HA.out
   clear HA
   simp only [spec_GoodTerms.l0] at H
   by_cases c3 : x12_1 < (l0.length : Int)
   ·rw [if_pos c3] at H
    have c3b0 : decide (x12_1 < (l0.length : Int)) = true := decide_eq_true c3
    clear c3
    by_cases c4 : 0 ≤ x12_1
    ·rw [if_pos c4] at H
     have c4b0 : decide (0 ≤ x12_1) = true := decide_eq_true c4
     clear c4
     by_cases c5 : x12_1 < (l0.length : Int)
     ·rw [if_pos c5] at H
      have c5b0 : decide (x12_1 < (l0.length : Int)) = true := decide_eq_true c5
      clear c5
      have H' := Aside0.mk H
      clear H
      have p517 : 0 ≤ (x12_1 : Int) := of_decide_eq_true (by first | (with_reducible assumption) | assumption)
      have q517 : x12_1 < (l0.length : Int) := of_decide_eq_true (by first | (with_reducible assumption) | assumption)
      obtain ⟨ad517, A517_0, c517_0, e517, hx517_0, hl517_0, hi517_0⟩ := at_L6 HR0.out x12_1 p517 q517
      cases e517
      replace hx517_0 := (HB.out.cell (World.block_lt_of_cell? w _ hx517_0)).trans hx517_0
      have HR517_0 := Aside0.mk hi517_0
      have HC517_0 := Aside0.mk hl517_0
      clear hi517_0 hl517_0
      replace p517 := eq_true p517
      replace q517 := eq_true q517
      go_wp2
      go_loopg [18] k1 (fun kq v18 w' => ∃ (x18_2 : Int), v18 = .int .i64 x18_2 ∧ Aside0 (spec_GoodTerms.l1 kq a1 x5_1 (rd_L6 l0 x12_1) l0 (l0.length : Int) x12_1 (rd_L6 l0 x12_1) ((rd_L6 l0 x12_1).length : Int) x18_2 = some r) ∧ Aside0 (kq ≤ k1) ∧ Aside0 (Below w.heap.size w w'))
      case atStart => exact ⟨(0), (by first | rfl | (simp; done) | (simp [*]; done) | (simp [nil_bne]; done)), H', ⟨Nat.le_refl _⟩, ⟨by repeat (first | (with_reducible first | exact HB.out | apply below_alloc | apply pw_below_drewN | apply below_drew1) | exact HB.out)⟩⟩
      case round =>
       clear H'
       try clear p2
       try clear c3
       try clear c3b0
       try clear c4
       try clear c4b0
       try clear c5
       try clear c5b0
       try clear p5
       try clear q5
       try clear hx5
       try clear hx517_0
       try clear p2
       try clear p517
       try clear q517
       obtain ⟨x18_2, rfl, HA, HK2, HB⟩ := hrel
       cases gk with
       | zero => exact absurd HA.out (by simp [spec_GoodTerms.l1])
       | succ k2 =>
        have H := HA.out
        clear HA
        simp only [spec_GoodTerms.l1] at H
        by_cases c6 : x18_2 < ((rd_L6 l0 x12_1).length : Int)
        ·rw [if_pos c6] at H
         have c6b0 : decide (x18_2 < ((rd_L6 l0 x12_1).length : Int)) = true := decide_eq_true c6
         clear c6
         by_cases c7 : 0 ≤ x18_2
         ·rw [if_pos c7] at H
          have c7b0 : decide (0 ≤ x18_2) = true := decide_eq_true c7
          clear c7
          by_cases c8 : x18_2 < ((rd_L6 l0 x12_1).length : Int)
          ·rw [if_pos c8] at H
           have c8b0 : decide (x18_2 < ((rd_L6 l0 x12_1).length : Int)) = true := decide_eq_true c8
           clear c8
           replace H := Option.bind_eq_some_iff.mp H
           obtain ⟨t520, A90, H⟩ := H
           replace H : (if t520 = true then (spec_GoodTerms.l1 k2 a1 x5_1 (rd_L6 l0 x12_1) l0 (l0.length : Int) x12_1 (rd_L6 l0 x12_1) ((rd_L6 l0 x12_1).length : Int) (wrap64 (x18_2 + 1))) else (some false)) = some r := H
           have A9 := Aside0.mk A90
           clear A90
           by_cases c10 : t520 = true
           ·subst c10
            have H1 : (spec_GoodTerms.l1 k2 a1 x5_1 (rd_L6 l0 x12_1) l0 (l0.length : Int) x12_1 (rd_L6 l0 x12_1) ((rd_L6 l0 x12_1).length : Int) (wrap64 (x18_2 + 1))) = some r := by rw [if_pos rfl] at H; exact H
            clear H
            have H := H1
            clear H1
            have H' := Aside0.mk H
            clear H
            have p518 : 0 ≤ (x18_2 : Int) := of_decide_eq_true (by first | (with_reducible assumption) | assumption)
            have q518 : x18_2 < ((rd_L6 l0 x12_1).length : Int) := of_decide_eq_true (by first | (with_reducible assumption) | assumption)
            obtain ⟨ad518, e518, hx518_0, hx518_1, hx518_2, hx518_3, hx518_4, hx518_5⟩ := at_T36 HR517_0.out x18_2 p518 q518
            cases e518
            replace hx518_0 := (HB.out.cell (World.block_lt_of_cell? w _ hx518_0)).trans hx518_0
            replace hx518_1 := (HB.out.cell (World.block_lt_of_cell? w _ hx518_1)).trans hx518_1
            replace hx518_2 := (HB.out.cell (World.block_lt_of_cell? w _ hx518_2)).trans hx518_2
            replace hx518_3 := (HB.out.cell (World.block_lt_of_cell? w _ hx518_3)).trans hx518_3
            replace hx518_4 := (HB.out.cell (World.block_lt_of_cell? w _ hx518_4)).trans hx518_4
            replace hx518_5 := (HB.out.cell (World.block_lt_of_cell? w _ hx518_5)).trans hx518_5
            replace p518 := eq_true p518
            replace q518 := eq_true q518
            go_wp2_with (first | ((with_reducible refine gate_dst (N := 9) rfl ?_); refine box_event ?hg (N := 9) ?hd (cs := #[.int .i64 0, .int .i64 0, .int .u64 0, .int .u64 0, .int .u64 0, .string (⟨#[]⟩ : ByteArray)]) (t := 36) ?hr ?_; (case hd => rfl); (case hg => rfl); (case hr => first | (go_simp; done) | (go_simp; rfl)); intro gb519 hg w11 hbox hb; have n0_ := Aside0.mk (below_step (by repeat (first | (with_reducible first | exact HB.out | apply below_alloc | apply pw_below_drewN | apply below_drew1) | exact HB.out)) hb); have n1_ := Aside0.mk (hbox); have n2_ := Aside0.mk ((by rw [hg]; exact (below_size (by repeat (first | (with_reducible first | exact HB.out | apply below_alloc | apply pw_below_drewN | apply below_drew1) | exact HB.out))) : w.heap.size ≤ gb519)); have n3_ := Aside0.mk ((by rw [hg]; exact (below_size (by repeat (first | (with_reducible first | exact HB.out | apply below_alloc | apply pw_below_drewN | apply below_drew1) | exact HB.out))) : w.heap.size ≤ gb519)); clear HB; have HB := n0_; have BK519 := n1_; have GW519 := n2_; have GE519 := n3_; clear n0_ n1_ n2_ n3_; clear hb hbox hg; have hcz12_0 : w11.cell? ⟨gb519, 0, none⟩ = some (.int .i64 0) := (blk_cell BK519.out 0).trans rfl; have hcz12_1 : w11.cell? ⟨gb519, 1, none⟩ = some (.int .i64 0) := (blk_cell BK519.out 1).trans rfl; have hcz12_2 : w11.cell? ⟨gb519, 2, none⟩ = some (.int .u64 0) := (blk_cell BK519.out 2).trans rfl; have hcz12_3 : w11.cell? ⟨gb519, 3, none⟩ = some (.int .u64 0) := (blk_cell BK519.out 3).trans rfl; have hcz12_4 : w11.cell? ⟨gb519, 4, none⟩ = some (.int .u64 0) := (blk_cell BK519.out 4).trans rfl; have hcz12_5 : w11.cell? ⟨gb519, 5, none⟩ = some (.string (⟨#[]⟩ : ByteArray)) := (blk_cell BK519.out 5).trans rfl; have hfz12_0 := blk_frozen BK519.out 0; have hfz12_1 := blk_frozen BK519.out 1; have hfz12_2 := blk_frozen BK519.out 2; have hfz12_3 := blk_frozen BK519.out 3; have hfz12_4 := blk_frozen BK519.out 4; have hfz12_5 := blk_frozen BK519.out 5) | ((with_reducible refine only_callee (f := 46) rfl ?_); refine goesL_ (some 23) rfl rfl Tryd.func46 (by kernel_rfl) rfl #[.agg #[.int .i64 ((rd_T36 (rd_L6 l0 x12_1) x18_2).f0), .int .i64 ((rd_T36 (rd_L6 l0 x12_1) x18_2).f1), .int .u64 ((rd_T36 (rd_L6 l0 x12_1) x18_2).f2), .int .u64 ((rd_T36 (rd_L6 l0 x12_1) x18_2).f3), .int .u64 ((rd_T36 (rd_L6 l0 x12_1) x18_2).f4), .string ((rd_T36 (rd_L6 l0 x12_1) x18_2).f5)]] rfl (by (try simp only [List.map_toArray, List.map_cons, List.map_nil]); first | done | rfl | (simp only [List.length_drop, List.length_take]; rfl)) ?_; (with_reducible refine (spec_GoodTerm.calls k2 ((rd_T36 (rd_L6 l0 x12_1) x18_2).f0) ((rd_T36 (rd_L6 l0 x12_1) x18_2).f1) ((rd_T36 (rd_L6 l0 x12_1) x18_2).f2) ((rd_T36 (rd_L6 l0 x12_1) x18_2).f3) ((rd_T36 (rd_L6 l0 x12_1) x18_2).f4) ((rd_T36 (rd_L6 l0 x12_1) x18_2).f5) true _ A9.out).mono ?_); rintro e w13 ⟨rfl, hb⟩; refine ⟨_, rfl, ?_⟩; have n0_ := Aside0.mk (blk_below (g := gb519) (o := .cells #[.int .i64 ((rd_T36 (rd_L6 l0 x12_1) x18_2).f0), .int .i64 ((rd_T36 (rd_L6 l0 x12_1) x18_2).f1), .int .u64 ((rd_T36 (rd_L6 l0 x12_1) x18_2).f2), .int .u64 ((rd_T36 (rd_L6 l0 x12_1) x18_2).f3), .int .u64 ((rd_T36 (rd_L6 l0 x12_1) x18_2).f4), .string ((rd_T36 (rd_L6 l0 x12_1) x18_2).f5)] 36 (0, 0)) (by (with_reducible repeat (first | refine blk_drewN ?_ _ | refine blk_drew ?_ | refine blk_alloc ?_ _)); refine blk_put (cs := #[.int .i64 ((rd_T36 (rd_L6 l0 x12_1) x18_2).f0), .int .i64 ((rd_T36 (rd_L6 l0 x12_1) x18_2).f1), .int .u64 ((rd_T36 (rd_L6 l0 x12_1) x18_2).f2), .int .u64 ((rd_T36 (rd_L6 l0 x12_1) x18_2).f3), .int .u64 ((rd_T36 (rd_L6 l0 x12_1) x18_2).f4), .string (⟨#[]⟩ : ByteArray)]) ?_ 5 _ rfl; (with_reducible repeat (first | refine blk_drewN ?_ _ | refine blk_drew ?_ | refine blk_alloc ?_ _)); refine blk_put (cs := #[.int .i64 ((rd_T36 (rd_L6 l0 x12_1) x18_2).f0), .int .i64 ((rd_T36 (rd_L6 l0 x12_1) x18_2).f1), .int .u64 ((rd_T36 (rd_L6 l0 x12_1) x18_2).f2), .int .u64 ((rd_T36 (rd_L6 l0 x12_1) x18_2).f3), .int .u64 0, .string (⟨#[]⟩ : ByteArray)]) ?_ 4 _ rfl; (with_reducible repeat (first | refine blk_drewN ?_ _ | refine blk_drew ?_ | refine blk_alloc ?_ _)); refine blk_put (cs := #[.int .i64 ((rd_T36 (rd_L6 l0 x12_1) x18_2).f0), .int .i64 ((rd_T36 (rd_L6 l0 x12_1) x18_2).f1), .int .u64 ((rd_T36 (rd_L6 l0 x12_1) x18_2).f2), .int .u64 0, .int .u64 0, .string (⟨#[]⟩ : ByteArray)]) ?_ 3 _ rfl; (with_reducible repeat (first | refine blk_drewN ?_ _ | refine blk_drew ?_ | refine blk_alloc ?_ _)); refine blk_put (cs := #[.int .i64 ((rd_T36 (rd_L6 l0 x12_1) x18_2).f0), .int .i64 ((rd_T36 (rd_L6 l0 x12_1) x18_2).f1), .int .u64 0, .int .u64 0, .int .u64 0, .string (⟨#[]⟩ : ByteArray)]) ?_ 2 _ rfl; (with_reducible repeat (first | refine blk_drewN ?_ _ | refine blk_drew ?_ | refine blk_alloc ?_ _)); refine blk_put (cs := #[.int .i64 ((rd_T36 (rd_L6 l0 x12_1) x18_2).f0), .int .i64 0, .int .u64 0, .int .u64 0, .int .u64 0, .string (⟨#[]⟩ : ByteArray)]) ?_ 1 _ rfl; (with_reducible repeat (first | refine blk_drewN ?_ _ | refine blk_drew ?_ | refine blk_alloc ?_ _)); refine blk_put (cs := #[.int .i64 0, .int .i64 0, .int .u64 0, .int .u64 0, .int .u64 0, .string (⟨#[]⟩ : ByteArray)]) ?_ 0 _ rfl; (with_reducible repeat (first | refine blk_drewN ?_ _ | refine blk_drew ?_ | refine blk_alloc ?_ _)); exact BK519.out) hb); have n1_ := Aside0.mk (below_step (by repeat (first | (with_reducible first | exact HB.out | apply below_alloc | apply pw_below_drewN | apply below_drew1 | refine below_set ?_ GE519.out) | exact HB.out)) hb); clear BK519; clear HB; have BK519 := n0_; have HB := n1_; clear n0_ n1_; (try clear hb); (try clear hb2); (try clear hk); (try clear hi)))
            go_roundg k2
            case measure => have := HK1.out; have := HK2.out; omega
            case rel => exact ⟨(wrap64 (x18_2 + 1)), (by first | rfl | (simp; done) | (simp [*]; done) | (simp [nil_bne]; done)), H', ⟨by have := HK1.out; have := HK2.out; omega⟩, ⟨by repeat (first | (with_reducible first | exact HB.out | apply below_alloc | apply pw_below_drewN | apply below_drew1 | refine below_set ?_ GE519.out) | exact HB.out)⟩⟩
           ·replace c10 := Bool.eq_false_iff.mpr c10
            subst c10
            have H1 : (some false) = some r := by rw [if_neg (show ¬ (false = true) by decide)] at H; exact H
            clear H
            have H := H1
            clear H1
            obtain rfl := Option.some.inj H
            have p518 : 0 ≤ (x18_2 : Int) := of_decide_eq_true (by first | (with_reducible assumption) | assumption)
            have q518 : x18_2 < ((rd_L6 l0 x12_1).length : Int) := of_decide_eq_true (by first | (with_reducible assumption) | assumption)
            obtain ⟨ad518, e518, hx518_0, hx518_1, hx518_2, hx518_3, hx518_4, hx518_5⟩ := at_T36 HR517_0.out x18_2 p518 q518
            cases e518
            replace hx518_0 := (HB.out.cell (World.block_lt_of_cell? w _ hx518_0)).trans hx518_0
            replace hx518_1 := (HB.out.cell (World.block_lt_of_cell? w _ hx518_1)).trans hx518_1
            replace hx518_2 := (HB.out.cell (World.block_lt_of_cell? w _ hx518_2)).trans hx518_2
            replace hx518_3 := (HB.out.cell (World.block_lt_of_cell? w _ hx518_3)).trans hx518_3
            replace hx518_4 := (HB.out.cell (World.block_lt_of_cell? w _ hx518_4)).trans hx518_4
            replace hx518_5 := (HB.out.cell (World.block_lt_of_cell? w _ hx518_5)).trans hx518_5
            replace p518 := eq_true p518
            replace q518 := eq_true q518
            go_wp2_with (first | ((with_reducible refine gate_dst (N := 9) rfl ?_); refine box_event ?hg (N := 9) ?hd (cs := #[.int .i64 0, .int .i64 0, .int .u64 0, .int .u64 0, .int .u64 0, .string (⟨#[]⟩ : ByteArray)]) (t := 36) ?hr ?_; (case hd => rfl); (case hg => rfl); (case hr => first | (go_simp; done) | (go_simp; rfl)); intro gb519 hg w14 hbox hb; have n0_ := Aside0.mk (below_step (by repeat (first | (with_reducible first | exact HB.out | apply below_alloc | apply pw_below_drewN | apply below_drew1) | exact HB.out)) hb); have n1_ := Aside0.mk (hbox); have n2_ := Aside0.mk ((by rw [hg]; exact (below_size (by repeat (first | (with_reducible first | exact HB.out | apply below_alloc | apply pw_below_drewN | apply below_drew1) | exact HB.out))) : w.heap.size ≤ gb519)); have n3_ := Aside0.mk ((by rw [hg]; exact (below_size (by repeat (first | (with_reducible first | exact HB.out | apply below_alloc | apply pw_below_drewN | apply below_drew1) | exact HB.out))) : w.heap.size ≤ gb519)); clear HB; have HB := n0_; have BK519 := n1_; have GW519 := n2_; have GE519 := n3_; clear n0_ n1_ n2_ n3_; clear hb hbox hg; have hcz15_0 : w14.cell? ⟨gb519, 0, none⟩ = some (.int .i64 0) := (blk_cell BK519.out 0).trans rfl; have hcz15_1 : w14.cell? ⟨gb519, 1, none⟩ = some (.int .i64 0) := (blk_cell BK519.out 1).trans rfl; have hcz15_2 : w14.cell? ⟨gb519, 2, none⟩ = some (.int .u64 0) := (blk_cell BK519.out 2).trans rfl; have hcz15_3 : w14.cell? ⟨gb519, 3, none⟩ = some (.int .u64 0) := (blk_cell BK519.out 3).trans rfl; have hcz15_4 : w14.cell? ⟨gb519, 4, none⟩ = some (.int .u64 0) := (blk_cell BK519.out 4).trans rfl; have hcz15_5 : w14.cell? ⟨gb519, 5, none⟩ = some (.string (⟨#[]⟩ : ByteArray)) := (blk_cell BK519.out 5).trans rfl; have hfz15_0 := blk_frozen BK519.out 0; have hfz15_1 := blk_frozen BK519.out 1; have hfz15_2 := blk_frozen BK519.out 2; have hfz15_3 := blk_frozen BK519.out 3; have hfz15_4 := blk_frozen BK519.out 4; have hfz15_5 := blk_frozen BK519.out 5) | ((with_reducible refine only_callee (f := 46) rfl ?_); refine goesL_ (some 23) rfl rfl Tryd.func46 (by kernel_rfl) rfl #[.agg #[.int .i64 ((rd_T36 (rd_L6 l0 x12_1) x18_2).f0), .int .i64 ((rd_T36 (rd_L6 l0 x12_1) x18_2).f1), .int .u64 ((rd_T36 (rd_L6 l0 x12_1) x18_2).f2), .int .u64 ((rd_T36 (rd_L6 l0 x12_1) x18_2).f3), .int .u64 ((rd_T36 (rd_L6 l0 x12_1) x18_2).f4), .string ((rd_T36 (rd_L6 l0 x12_1) x18_2).f5)]] rfl (by (try simp only [List.map_toArray, List.map_cons, List.map_nil]); first | done | rfl | (simp only [List.length_drop, List.length_take]; rfl)) ?_; (with_reducible refine (spec_GoodTerm.calls k2 ((rd_T36 (rd_L6 l0 x12_1) x18_2).f0) ((rd_T36 (rd_L6 l0 x12_1) x18_2).f1) ((rd_T36 (rd_L6 l0 x12_1) x18_2).f2) ((rd_T36 (rd_L6 l0 x12_1) x18_2).f3) ((rd_T36 (rd_L6 l0 x12_1) x18_2).f4) ((rd_T36 (rd_L6 l0 x12_1) x18_2).f5) false _ A9.out).mono ?_); rintro e w16 ⟨rfl, hb⟩; refine ⟨_, rfl, ?_⟩; have n0_ := Aside0.mk (blk_below (g := gb519) (o := .cells #[.int .i64 ((rd_T36 (rd_L6 l0 x12_1) x18_2).f0), .int .i64 ((rd_T36 (rd_L6 l0 x12_1) x18_2).f1), .int .u64 ((rd_T36 (rd_L6 l0 x12_1) x18_2).f2), .int .u64 ((rd_T36 (rd_L6 l0 x12_1) x18_2).f3), .int .u64 ((rd_T36 (rd_L6 l0 x12_1) x18_2).f4), .string ((rd_T36 (rd_L6 l0 x12_1) x18_2).f5)] 36 (0, 0)) (by (with_reducible repeat (first | refine blk_drewN ?_ _ | refine blk_drew ?_ | refine blk_alloc ?_ _)); refine blk_put (cs := #[.int .i64 ((rd_T36 (rd_L6 l0 x12_1) x18_2).f0), .int .i64 ((rd_T36 (rd_L6 l0 x12_1) x18_2).f1), .int .u64 ((rd_T36 (rd_L6 l0 x12_1) x18_2).f2), .int .u64 ((rd_T36 (rd_L6 l0 x12_1) x18_2).f3), .int .u64 ((rd_T36 (rd_L6 l0 x12_1) x18_2).f4), .string (⟨#[]⟩ : ByteArray)]) ?_ 5 _ rfl; (with_reducible repeat (first | refine blk_drewN ?_ _ | refine blk_drew ?_ | refine blk_alloc ?_ _)); refine blk_put (cs := #[.int .i64 ((rd_T36 (rd_L6 l0 x12_1) x18_2).f0), .int .i64 ((rd_T36 (rd_L6 l0 x12_1) x18_2).f1), .int .u64 ((rd_T36 (rd_L6 l0 x12_1) x18_2).f2), .int .u64 ((rd_T36 (rd_L6 l0 x12_1) x18_2).f3), .int .u64 0, .string (⟨#[]⟩ : ByteArray)]) ?_ 4 _ rfl; (with_reducible repeat (first | refine blk_drewN ?_ _ | refine blk_drew ?_ | refine blk_alloc ?_ _)); refine blk_put (cs := #[.int .i64 ((rd_T36 (rd_L6 l0 x12_1) x18_2).f0), .int .i64 ((rd_T36 (rd_L6 l0 x12_1) x18_2).f1), .int .u64 ((rd_T36 (rd_L6 l0 x12_1) x18_2).f2), .int .u64 0, .int .u64 0, .string (⟨#[]⟩ : ByteArray)]) ?_ 3 _ rfl; (with_reducible repeat (first | refine blk_drewN ?_ _ | refine blk_drew ?_ | refine blk_alloc ?_ _)); refine blk_put (cs := #[.int .i64 ((rd_T36 (rd_L6 l0 x12_1) x18_2).f0), .int .i64 ((rd_T36 (rd_L6 l0 x12_1) x18_2).f1), .int .u64 0, .int .u64 0, .int .u64 0, .string (⟨#[]⟩ : ByteArray)]) ?_ 2 _ rfl; (with_reducible repeat (first | refine blk_drewN ?_ _ | refine blk_drew ?_ | refine blk_alloc ?_ _)); refine blk_put (cs := #[.int .i64 ((rd_T36 (rd_L6 l0 x12_1) x18_2).f0), .int .i64 0, .int .u64 0, .int .u64 0, .int .u64 0, .string (⟨#[]⟩ : ByteArray)]) ?_ 1 _ rfl; (with_reducible repeat (first | refine blk_drewN ?_ _ | refine blk_drew ?_ | refine blk_alloc ?_ _)); refine blk_put (cs := #[.int .i64 0, .int .i64 0, .int .u64 0, .int .u64 0, .int .u64 0, .string (⟨#[]⟩ : ByteArray)]) ?_ 0 _ rfl; (with_reducible repeat (first | refine blk_drewN ?_ _ | refine blk_drew ?_ | refine blk_alloc ?_ _)); exact BK519.out) hb); have n1_ := Aside0.mk (below_step (by repeat (first | (with_reducible first | exact HB.out | apply below_alloc | apply pw_below_drewN | apply below_drew1 | refine below_set ?_ GE519.out) | exact HB.out)) hb); clear BK519; clear HB; have BK519 := n0_; have HB := n1_; clear n0_ n1_; (try clear hb); (try clear hb2); (try clear hk); (try clear hi)))
            go_ret
            exact ⟨by first | rfl | (simp [errW_none, errW_some] <;> rfl) | (simp [*, errW_none, errW_some] <;> rfl), by repeat (first | (with_reducible first | exact HB.out | apply below_alloc | apply pw_below_drewN | apply below_drew1 | refine below_set ?_ GE519.out) | exact HB.out)⟩
          ·rw [if_neg c8] at H
           exact absurd H (by simp)
         ·rw [if_neg c7] at H
          exact absurd H (by simp)
        ·rw [if_neg c6] at H
         have c6b0 : decide (x18_2 < ((rd_L6 l0 x12_1).length : Int)) = false := decide_eq_false c6
         clear c6
         by_cases c17 : ((rd_L6 l0 x12_1).length : Int) = 0
         ·rw [if_pos c17] at H
          have c17b0 : (((rd_L6 l0 x12_1).length : Int) == 0) = true := beq_iff_eq.mpr c17
          have c17b1 : (((rd_L6 l0 x12_1).length : Int) != 0) = false := bne_eq_false_iff_eq.mpr c17
          clear c17
          obtain rfl := Option.some.inj H
          go_wp2
          go_ret
          exact ⟨by first | rfl | (simp [errW_none, errW_some] <;> rfl) | (simp [*, errW_none, errW_some] <;> rfl), by repeat (first | (with_reducible first | exact HB.out | apply below_alloc | apply pw_below_drewN | apply below_drew1) | exact HB.out)⟩
         ·rw [if_neg c17] at H
          have c17b0 : (((rd_L6 l0 x12_1).length : Int) == 0) = false := beq_eq_false_iff_ne.mpr c17
          have c17b1 : (((rd_L6 l0 x12_1).length : Int) != 0) = true := bne_iff_ne.mpr c17
          have c17b2 : ¬ ((rd_L6 l0 x12_1) = []) := fun h_ => c17 (by rw [h_]; rfl)
          by_cases c18 : (wrap64 (x5_1 + ((rd_L6 l0 x12_1).length : Int))) > a1
          ·rw [if_pos c18] at H
           have c18b0 : decide (a1 < (wrap64 (x5_1 + ((rd_L6 l0 x12_1).length : Int)))) = true := decide_eq_true c18
           clear c18
           obtain rfl := Option.some.inj H
           go_wp2
           go_ret
           exact ⟨by first | rfl | (simp [errW_none, errW_some] <;> rfl) | (simp [*, errW_none, errW_some] <;> rfl), by repeat (first | (with_reducible first | exact HB.out | apply below_alloc | apply pw_below_drewN | apply below_drew1) | exact HB.out)⟩
          ·rw [if_neg c18] at H
           have c18b0 : decide (a1 < (wrap64 (x5_1 + ((rd_L6 l0 x12_1).length : Int)))) = false := decide_eq_false c18
           clear c18
           have H' := Aside0.mk H
           clear H
           go_wp2
           go_roundg k2
           case measure => have := HK1.out; have := HK2.out; omega
           case rel => exact ⟨(wrap64 (x5_1 + ((rd_L6 l0 x12_1).length : Int))), (wrap64 (x12_1 + 1)), (by first | rfl | (simp; done) | (simp [*]; done) | (simp [nil_bne]; done)), (by first | rfl | (simp; done) | (simp [*]; done) | (simp [nil_bne]; done)), H', ⟨by have := HK1.out; have := HK2.out; omega⟩, ⟨by repeat (first | (with_reducible first | exact HB.out | apply below_alloc | apply pw_below_drewN | apply below_drew1) | exact HB.out)⟩⟩
     ·rw [if_neg c5] at H
      exact absurd H (by simp)
    ·rw [if_neg c4] at H
     exact absurd H (by simp)
   ·rw [if_neg c3] at H
    have c3b0 : decide (x12_1 < (l0.length : Int)) = false := decide_eq_false c3
    clear c3
    obtain rfl := Option.some.inj H
    go_wp2
    go_ret
    exact ⟨by first | rfl | (simp [errW_none, errW_some] <;> rfl) | (simp [*, errW_none, errW_some] <;> rfl), by repeat (first | (with_reducible first | exact HB.out | apply below_alloc | apply pw_below_drewN | apply below_drew1) | exact HB.out)⟩

end Go.Proofs.YtlooelfkkbgmhaaDoor.QS
namespace Go.Proofs.YtlooelfkkbgmhaaDoor.QS
open Go.RowKit Go.Proofs.YtlooelfkkbgmhaaDoorW.PrintWords Go.Proofs.YtlooelfkkbgmhaaDoorW.PrintLast

set_option linter.unusedVariables false
set_option linter.unusedSimpArgs false

/-! ### laws_scGood: function 98 -/
mutual
def laws_scGood.l0 : Nat → List (List (S36)) → Int → Int → Option (Bool)
 | 0, _, _, _ => none
 | k + 1, x10, x11, x12 => if x12 < x11 then (if 0 ≤ x12 then (if x12 < (x10.length : Int) then (laws_scGood.l1 k x10 x11 x12 (rd_L6 x10 x12) ((rd_L6 x10 x12).length : Int) 0) else (none)) else (none)) else (some true)
def laws_scGood.l1 : Nat → List (List (S36)) → Int → Int → List (S36) → Int → Int → Option (Bool)
 | 0, _, _, _, _, _, _ => none
 | k + 1, x10, x11, x12, x16, x17, x18 => if x18 < x17 then (if 0 ≤ x18 then (if x18 < (x16.length : Int) then (if (((rd_T36 x16 x18).f5).size : Int) > 64 then (some false) else (laws_scGood.l1 k x10 x11 x12 x16 x17 (wrap64 (x18 + 1)))) else (none)) else (none)) else (laws_scGood.l0 k x10 x11 (wrap64 (x12 + 1)))
end
def laws_scGood.f (k : Nat) (l0 : List (List (S36))) : Option (Bool) := (spec_GoodTerms.f k l0 24).bind fun t521 => (if t521 = true then (laws_scGood.l0 k l0 (l0.length : Int) 0) else (some false))
theorem laws_scGood.mono_l : ∀ k, (∀ y0 y1 y2, LeO (laws_scGood.l0 k y0 y1 y2) (laws_scGood.l0 (k + 1) y0 y1 y2)) ∧ (∀ y0 y1 y2 y3 y4 y5, LeO (laws_scGood.l1 k y0 y1 y2 y3 y4 y5) (laws_scGood.l1 (k + 1) y0 y1 y2 y3 y4 y5))
 | 0 => ⟨fun _ _ _ r h => by simp [laws_scGood.l0] at h, fun _ _ _ _ _ _ r h => by simp [laws_scGood.l1] at h⟩
 | k + 1 => by
  obtain ⟨ih0, ih1⟩ := laws_scGood.mono_l k
  refine ⟨?_, ?_⟩
  ·intro y0 y1 y2
   unfold laws_scGood.l0
   repeat' first
   | (with_reducible exact ih0 _ _ _)
   | (with_reducible exact ih1 _ _ _ _ _ _)
   | (with_reducible exact spec_GoodTerms.mono _ _ _)
   | (with_reducible exact LeO.refl _)
   | (with_reducible exact LeO.none _)
   | (with_reducible refine LeO.ite ?_ ?_)
   | (with_reducible refine LeO.bind ?_ (fun _ => ?_))
   | exact ih0 _ _ _
   | exact ih1 _ _ _ _ _ _
   | exact spec_GoodTerms.mono _ _ _
   | exact LeO.none _
   | refine LeO.ite ?_ ?_
   | refine LeO.bind ?_ (fun _ => ?_)
  ·intro y0 y1 y2 y3 y4 y5
   unfold laws_scGood.l1
   repeat' first
   | (with_reducible exact ih0 _ _ _)
   | (with_reducible exact ih1 _ _ _ _ _ _)
   | (with_reducible exact spec_GoodTerms.mono _ _ _)
   | (with_reducible exact LeO.refl _)
   | (with_reducible exact LeO.none _)
   | (with_reducible refine LeO.ite ?_ ?_)
   | (with_reducible refine LeO.bind ?_ (fun _ => ?_))
   | exact ih0 _ _ _
   | exact ih1 _ _ _ _ _ _
   | exact spec_GoodTerms.mono _ _ _
   | exact LeO.none _
   | refine LeO.ite ?_ ?_
   | refine LeO.bind ?_ (fun _ => ?_)
theorem laws_scGood.mono : ∀ a0 k, LeO (laws_scGood.f k a0) (laws_scGood.f (k + 1) a0) := by
 intro a0 k
 obtain ⟨ih0, ih1⟩ := laws_scGood.mono_l k
 unfold laws_scGood.f
 repeat' first
   | (with_reducible exact ih0 _ _ _)
   | (with_reducible exact ih1 _ _ _ _ _ _)
   | (with_reducible exact spec_GoodTerms.mono _ _ _)
   | (with_reducible exact LeO.refl _)
   | (with_reducible exact LeO.none _)
   | (with_reducible refine LeO.ite ?_ ?_)
   | (with_reducible refine LeO.bind ?_ (fun _ => ?_))
   | exact ih0 _ _ _
   | exact ih1 _ _ _ _ _ _
   | exact spec_GoodTerms.mono _ _ _
   | exact LeO.none _
   | refine LeO.ite ?_ ?_
   | refine LeO.bind ?_ (fun _ => ?_)
set_option maxHeartbeats 8000000 in
set_option maxRecDepth 100000 in
theorem laws_scGood.calls (k : Nat) (A0 : Option Addr) (c0 : Nat) (l0 : List (List (S36))) (r : Bool) (w : World) (hr0 : Kd.C (Kd.slice 36 k36) w A0 l0.length l0) (hc0 : l0.length ≤ c0) (h : laws_scGood.f k l0 = some r) :
  Calls Tryd.prog 98 #[.slice A0 l0.length c0] w fun e w' => e = .returned (.bool r) ∧ Below w.heap.size w w' := by
 have hu36 := Tryd.underlying36
 have HR0 := Aside0.mk hr0
 have HC0 := Aside0.mk hc0
 clear hr0 hc0
 have HB := Aside0.mk (Below.refl w.heap.size w)
 have H : ((spec_GoodTerms.f k l0 24).bind fun t521 => (if t521 = true then (laws_scGood.l0 k l0 (l0.length : Int) 0) else (some false))) = some r := h
 clear h
 replace H := Option.bind_eq_some_iff.mp H
 obtain ⟨t521, A20, H⟩ := H
 replace H : (if t521 = true then (laws_scGood.l0 k l0 (l0.length : Int) 0) else (some false)) = some r := H
 have A2 := Aside0.mk A20
 clear A20
 by_cases c3 : t521 = true
 ·subst c3
  have H1 : (laws_scGood.l0 k l0 (l0.length : Int) 0) = some r := by rw [if_pos rfl] at H; exact H
  clear H
  have H := H1
  clear H1
  have H' := Aside0.mk H
  clear H
  go_enter Tryd.func98, Tryd.ntmps98
  go_wp2_with (first | ((with_reducible refine only_callee (f := 97) rfl ?_); refine goesL_ (some 8) rfl rfl Tryd.func97 (by kernel_rfl) rfl #[.slice A0 l0.length c0, .int .i64 24] rfl (by (try simp only [List.map_toArray, List.map_cons, List.map_nil]); first | done | rfl | (simp only [List.length_drop, List.length_take]; rfl)) ?_; (with_reducible refine (spec_GoodTerms.calls k _ _ l0 24 true _ ?side1 ?side2 A2.out).mono ?_); (case side1 => repeat (first | exact HR0.out | (with_reducible refine Kd.C_alloc ?_ _) | (with_reducible refine Kd.C_drewN ?_ _) | (with_reducible refine Kd.C_drew ?_))); (case side2 => exact HC0.out); rintro e w4 ⟨rfl, hb⟩; refine ⟨_, rfl, ?_⟩; have n0_ := Aside0.mk (below_step (by repeat (first | (with_reducible first | exact HB.out | apply below_alloc | apply pw_below_drewN | apply below_drew1) | exact HB.out)) hb); clear HB; have HB := n0_; clear n0_; (try clear hb); (try clear hb2); (try clear hk); (try clear hi)))
  go_loopg [12] k (fun kq v12 w' => ∃ (x12_1 : Int), v12 = .int .i64 x12_1 ∧ Aside0 (laws_scGood.l0 kq l0 (l0.length : Int) x12_1 = some r) ∧ Aside0 (kq ≤ k) ∧ Aside0 (Below w.heap.size w w'))
  case atStart => exact ⟨(0), (by first | rfl | (simp; done) | (simp [*]; done) | (simp [nil_bne]; done)), H', ⟨Nat.le_refl _⟩, ⟨by repeat (first | (with_reducible first | exact HB.out | apply below_alloc | apply pw_below_drewN | apply below_drew1) | exact HB.out)⟩⟩
  case round =>
   clear H'
   try clear p2
   try clear c3
   obtain ⟨x12_1, rfl, HA, HK1, HB⟩ := hrel
   cases gk with
   | zero => exact absurd HA.out (by simp [laws_scGood.l0])
   | succ k1 =>
    have H := HA.out
    clear HA
    simp only [laws_scGood.l0] at H
    by_cases c5 : x12_1 < (l0.length : Int)
    ·rw [if_pos c5] at H
     have c5b0 : decide (x12_1 < (l0.length : Int)) = true := decide_eq_true c5
     clear c5
     by_cases c6 : 0 ≤ x12_1
     ·rw [if_pos c6] at H
      have c6b0 : decide (0 ≤ x12_1) = true := decide_eq_true c6
      clear c6
      by_cases c7 : x12_1 < (l0.length : Int)
      ·rw [if_pos c7] at H
       have c7b0 : decide (x12_1 < (l0.length : Int)) = true := decide_eq_true c7
       clear c7
       have H' := Aside0.mk H
       clear H
       have p522 : 0 ≤ (x12_1 : Int) := of_decide_eq_true (by first | (with_reducible assumption) | assumption)
       have q522 : x12_1 < (l0.length : Int) := of_decide_eq_true (by first | (with_reducible assumption) | assumption)
       obtain ⟨ad522, A522_0, c522_0, e522, hx522_0, hl522_0, hi522_0⟩ := at_L6 HR0.out x12_1 p522 q522
       cases e522
       replace hx522_0 := (HB.out.cell (World.block_lt_of_cell? w _ hx522_0)).trans hx522_0
       have HR522_0 := Aside0.mk hi522_0
       have HC522_0 := Aside0.mk hl522_0
       clear hi522_0 hl522_0
       replace p522 := eq_true p522
       replace q522 := eq_true q522
       go_wp2
       go_loopg [18] k1 (fun kq v18 w' => ∃ (x18_2 : Int), v18 = .int .i64 x18_2 ∧ Aside0 (laws_scGood.l1 kq l0 (l0.length : Int) x12_1 (rd_L6 l0 x12_1) ((rd_L6 l0 x12_1).length : Int) x18_2 = some r) ∧ Aside0 (kq ≤ k1) ∧ Aside0 (Below w.heap.size w w'))
       case atStart => exact ⟨(0), (by first | rfl | (simp; done) | (simp [*]; done) | (simp [nil_bne]; done)), H', ⟨Nat.le_refl _⟩, ⟨by repeat (first | (with_reducible first | exact HB.out | apply below_alloc | apply pw_below_drewN | apply below_drew1) | exact HB.out)⟩⟩
       case round =>
        clear H'
        try clear p2
        try clear c3
        try clear c5
        try clear c5b0
        try clear p5
        try clear q5
        try clear hx5
        try clear c6
        try clear c6b0
        try clear c7
        try clear c7b0
        try clear hx522_0
        try clear p2
        try clear p522
        try clear q522
        obtain ⟨x18_2, rfl, HA, HK2, HB⟩ := hrel
        cases gk with
        | zero => exact absurd HA.out (by simp [laws_scGood.l1])
        | succ k2 =>
         have H := HA.out
         clear HA
         simp only [laws_scGood.l1] at H
         by_cases c8 : x18_2 < ((rd_L6 l0 x12_1).length : Int)
         ·rw [if_pos c8] at H
          have c8b0 : decide (x18_2 < ((rd_L6 l0 x12_1).length : Int)) = true := decide_eq_true c8
          clear c8
          by_cases c9 : 0 ≤ x18_2
          ·rw [if_pos c9] at H
           have c9b0 : decide (0 ≤ x18_2) = true := decide_eq_true c9
           clear c9
           by_cases c10 : x18_2 < ((rd_L6 l0 x12_1).length : Int)
           ·rw [if_pos c10] at H
            have c10b0 : decide (x18_2 < ((rd_L6 l0 x12_1).length : Int)) = true := decide_eq_true c10
            clear c10
            by_cases c11 : (((rd_T36 (rd_L6 l0 x12_1) x18_2).f5).size : Int) > 64
            ·rw [if_pos c11] at H
             have c11b0 : decide (64 < (((rd_T36 (rd_L6 l0 x12_1) x18_2).f5).size : Int)) = true := decide_eq_true c11
             have c11b1 : decide (64 < ((rd_T36 (rd_L6 l0 x12_1) x18_2).f5).size) = true := decide_eq_true (by omega)
             clear c11
             obtain rfl := Option.some.inj H
             have p523 : 0 ≤ (x18_2 : Int) := of_decide_eq_true (by first | (with_reducible assumption) | assumption)
             have q523 : x18_2 < ((rd_L6 l0 x12_1).length : Int) := of_decide_eq_true (by first | (with_reducible assumption) | assumption)
             obtain ⟨ad523, e523, hx523_0, hx523_1, hx523_2, hx523_3, hx523_4, hx523_5⟩ := at_T36 HR522_0.out x18_2 p523 q523
             cases e523
             replace hx523_0 := (HB.out.cell (World.block_lt_of_cell? w _ hx523_0)).trans hx523_0
             replace hx523_1 := (HB.out.cell (World.block_lt_of_cell? w _ hx523_1)).trans hx523_1
             replace hx523_2 := (HB.out.cell (World.block_lt_of_cell? w _ hx523_2)).trans hx523_2
             replace hx523_3 := (HB.out.cell (World.block_lt_of_cell? w _ hx523_3)).trans hx523_3
             replace hx523_4 := (HB.out.cell (World.block_lt_of_cell? w _ hx523_4)).trans hx523_4
             replace hx523_5 := (HB.out.cell (World.block_lt_of_cell? w _ hx523_5)).trans hx523_5
             replace p523 := eq_true p523
             replace q523 := eq_true q523
             go_wp2_with (first | ((with_reducible refine gate_dst (N := 6) rfl ?_); refine box_event ?hg (N := 6) ?hd (cs := #[.int .i64 0, .int .i64 0, .int .u64 0, .int .u64 0, .int .u64 0, .string (⟨#[]⟩ : ByteArray)]) (t := 36) ?hr ?_; (case hd => rfl); (case hg => rfl); (case hr => first | (go_simp; done) | (go_simp; rfl)); intro gb524 hg w12 hbox hb; have n0_ := Aside0.mk (below_step (by repeat (first | (with_reducible first | exact HB.out | apply below_alloc | apply pw_below_drewN | apply below_drew1) | exact HB.out)) hb); have n1_ := Aside0.mk (hbox); have n2_ := Aside0.mk ((by rw [hg]; exact (below_size (by repeat (first | (with_reducible first | exact HB.out | apply below_alloc | apply pw_below_drewN | apply below_drew1) | exact HB.out))) : w.heap.size ≤ gb524)); have n3_ := Aside0.mk ((by rw [hg]; exact (below_size (by repeat (first | (with_reducible first | exact HB.out | apply below_alloc | apply pw_below_drewN | apply below_drew1) | exact HB.out))) : w.heap.size ≤ gb524)); clear HB; have HB := n0_; have BK524 := n1_; have GW524 := n2_; have GE524 := n3_; clear n0_ n1_ n2_ n3_; clear hb hbox hg; have hcz13_0 : w12.cell? ⟨gb524, 0, none⟩ = some (.int .i64 0) := (blk_cell BK524.out 0).trans rfl; have hcz13_1 : w12.cell? ⟨gb524, 1, none⟩ = some (.int .i64 0) := (blk_cell BK524.out 1).trans rfl; have hcz13_2 : w12.cell? ⟨gb524, 2, none⟩ = some (.int .u64 0) := (blk_cell BK524.out 2).trans rfl; have hcz13_3 : w12.cell? ⟨gb524, 3, none⟩ = some (.int .u64 0) := (blk_cell BK524.out 3).trans rfl; have hcz13_4 : w12.cell? ⟨gb524, 4, none⟩ = some (.int .u64 0) := (blk_cell BK524.out 4).trans rfl; have hcz13_5 : w12.cell? ⟨gb524, 5, none⟩ = some (.string (⟨#[]⟩ : ByteArray)) := (blk_cell BK524.out 5).trans rfl; have hfz13_0 := blk_frozen BK524.out 0; have hfz13_1 := blk_frozen BK524.out 1; have hfz13_2 := blk_frozen BK524.out 2; have hfz13_3 := blk_frozen BK524.out 3; have hfz13_4 := blk_frozen BK524.out 4; have hfz13_5 := blk_frozen BK524.out 5))
             go_ret
             exact ⟨by first | rfl | (simp [errW_none, errW_some] <;> rfl) | (simp [*, errW_none, errW_some] <;> rfl), by repeat (first | (with_reducible first | exact HB.out | apply below_alloc | apply pw_below_drewN | apply below_drew1 | refine below_set ?_ GE524.out) | exact HB.out)⟩
            ·rw [if_neg c11] at H
             have c11b0 : decide (64 < (((rd_T36 (rd_L6 l0 x12_1) x18_2).f5).size : Int)) = false := decide_eq_false c11
             have c11b1 : decide (64 < ((rd_T36 (rd_L6 l0 x12_1) x18_2).f5).size) = false := decide_eq_false (by omega)
             clear c11
             have H' := Aside0.mk H
             clear H
             have p523 : 0 ≤ (x18_2 : Int) := of_decide_eq_true (by first | (with_reducible assumption) | assumption)
             have q523 : x18_2 < ((rd_L6 l0 x12_1).length : Int) := of_decide_eq_true (by first | (with_reducible assumption) | assumption)
             obtain ⟨ad523, e523, hx523_0, hx523_1, hx523_2, hx523_3, hx523_4, hx523_5⟩ := at_T36 HR522_0.out x18_2 p523 q523
             cases e523
             replace hx523_0 := (HB.out.cell (World.block_lt_of_cell? w _ hx523_0)).trans hx523_0
             replace hx523_1 := (HB.out.cell (World.block_lt_of_cell? w _ hx523_1)).trans hx523_1
             replace hx523_2 := (HB.out.cell (World.block_lt_of_cell? w _ hx523_2)).trans hx523_2
             replace hx523_3 := (HB.out.cell (World.block_lt_of_cell? w _ hx523_3)).trans hx523_3
             replace hx523_4 := (HB.out.cell (World.block_lt_of_cell? w _ hx523_4)).trans hx523_4
             replace hx523_5 := (HB.out.cell (World.block_lt_of_cell? w _ hx523_5)).trans hx523_5
             replace p523 := eq_true p523
             replace q523 := eq_true q523
             go_wp2_with (first | ((with_reducible refine gate_dst (N := 6) rfl ?_); refine box_event ?hg (N := 6) ?hd (cs := #[.int .i64 0, .int .i64 0, .int .u64 0, .int .u64 0, .int .u64 0, .string (⟨#[]⟩ : ByteArray)]) (t := 36) ?hr ?_; (case hd => rfl); (case hg => rfl); (case hr => first | (go_simp; done) | (go_simp; rfl)); intro gb524 hg w14 hbox hb; have n0_ := Aside0.mk (below_step (by repeat (first | (with_reducible first | exact HB.out | apply below_alloc | apply pw_below_drewN | apply below_drew1) | exact HB.out)) hb); have n1_ := Aside0.mk (hbox); have n2_ := Aside0.mk ((by rw [hg]; exact (below_size (by repeat (first | (with_reducible first | exact HB.out | apply below_alloc | apply pw_below_drewN | apply below_drew1) | exact HB.out))) : w.heap.size ≤ gb524)); have n3_ := Aside0.mk ((by rw [hg]; exact (below_size (by repeat (first | (with_reducible first | exact HB.out | apply below_alloc | apply pw_below_drewN | apply below_drew1) | exact HB.out))) : w.heap.size ≤ gb524)); clear HB; have HB := n0_; have BK524 := n1_; have GW524 := n2_; have GE524 := n3_; clear n0_ n1_ n2_ n3_; clear hb hbox hg; have hcz15_0 : w14.cell? ⟨gb524, 0, none⟩ = some (.int .i64 0) := (blk_cell BK524.out 0).trans rfl; have hcz15_1 : w14.cell? ⟨gb524, 1, none⟩ = some (.int .i64 0) := (blk_cell BK524.out 1).trans rfl; have hcz15_2 : w14.cell? ⟨gb524, 2, none⟩ = some (.int .u64 0) := (blk_cell BK524.out 2).trans rfl; have hcz15_3 : w14.cell? ⟨gb524, 3, none⟩ = some (.int .u64 0) := (blk_cell BK524.out 3).trans rfl; have hcz15_4 : w14.cell? ⟨gb524, 4, none⟩ = some (.int .u64 0) := (blk_cell BK524.out 4).trans rfl; have hcz15_5 : w14.cell? ⟨gb524, 5, none⟩ = some (.string (⟨#[]⟩ : ByteArray)) := (blk_cell BK524.out 5).trans rfl; have hfz15_0 := blk_frozen BK524.out 0; have hfz15_1 := blk_frozen BK524.out 1; have hfz15_2 := blk_frozen BK524.out 2; have hfz15_3 := blk_frozen BK524.out 3; have hfz15_4 := blk_frozen BK524.out 4; have hfz15_5 := blk_frozen BK524.out 5))
             go_roundg k2
             case measure => have := HK1.out; have := HK2.out; omega
             case rel => exact ⟨(wrap64 (x18_2 + 1)), (by first | rfl | (simp; done) | (simp [*]; done) | (simp [nil_bne]; done)), H', ⟨by have := HK1.out; have := HK2.out; omega⟩, ⟨by repeat (first | (with_reducible first | exact HB.out | apply below_alloc | apply pw_below_drewN | apply below_drew1 | refine below_set ?_ GE524.out) | exact HB.out)⟩⟩
           ·rw [if_neg c10] at H
            exact absurd H (by simp)
          ·rw [if_neg c9] at H
           exact absurd H (by simp)
         ·rw [if_neg c8] at H
          have c8b0 : decide (x18_2 < ((rd_L6 l0 x12_1).length : Int)) = false := decide_eq_false c8
          clear c8
          have H' := Aside0.mk H
          clear H
          go_wp2
          go_roundg k2
          case measure => have := HK1.out; have := HK2.out; omega
          case rel => exact ⟨(wrap64 (x12_1 + 1)), (by first | rfl | (simp; done) | (simp [*]; done) | (simp [nil_bne]; done)), H', ⟨by have := HK1.out; have := HK2.out; omega⟩, ⟨by repeat (first | (with_reducible first | exact HB.out | apply below_alloc | apply pw_below_drewN | apply below_drew1) | exact HB.out)⟩⟩
      ·rw [if_neg c7] at H
       exact absurd H (by simp)
     ·rw [if_neg c6] at H
      exact absurd H (by simp)
    ·rw [if_neg c5] at H
     have c5b0 : decide (x12_1 < (l0.length : Int)) = false := decide_eq_false c5
     clear c5
     obtain rfl := Option.some.inj H
     go_wp2
     go_ret
     exact ⟨by first | rfl | (simp [errW_none, errW_some] <;> rfl) | (simp [*, errW_none, errW_some] <;> rfl), by repeat (first | (with_reducible first | exact HB.out | apply below_alloc | apply pw_below_drewN | apply below_drew1) | exact HB.out)⟩
 ·replace c3 := Bool.eq_false_iff.mpr c3
  subst c3
  have H1 : (some false) = some r := by rw [if_neg (show ¬ (false = true) by decide)] at H; exact H
  clear H
  have H := H1
  clear H1
  obtain rfl := Option.some.inj H
  go_enter Tryd.func98, Tryd.ntmps98
  go_wp2_with (first | ((with_reducible refine only_callee (f := 97) rfl ?_); refine goesL_ (some 8) rfl rfl Tryd.func97 (by kernel_rfl) rfl #[.slice A0 l0.length c0, .int .i64 24] rfl (by (try simp only [List.map_toArray, List.map_cons, List.map_nil]); first | done | rfl | (simp only [List.length_drop, List.length_take]; rfl)) ?_; (with_reducible refine (spec_GoodTerms.calls k _ _ l0 24 false _ ?side1 ?side2 A2.out).mono ?_); (case side1 => repeat (first | exact HR0.out | (with_reducible refine Kd.C_alloc ?_ _) | (with_reducible refine Kd.C_drewN ?_ _) | (with_reducible refine Kd.C_drew ?_))); (case side2 => exact HC0.out); rintro e w16 ⟨rfl, hb⟩; refine ⟨_, rfl, ?_⟩; have n0_ := Aside0.mk (below_step (by repeat (first | (with_reducible first | exact HB.out | apply below_alloc | apply pw_below_drewN | apply below_drew1) | exact HB.out)) hb); clear HB; have HB := n0_; clear n0_; (try clear hb); (try clear hb2); (try clear hk); (try clear hi)))
  go_ret
  exact ⟨by first | rfl | (simp [errW_none, errW_some] <;> rfl) | (simp [*, errW_none, errW_some] <;> rfl), by repeat (first | (with_reducible first | exact HB.out | apply below_alloc | apply pw_below_drewN | apply below_drew1) | exact HB.out)⟩

end Go.Proofs.YtlooelfkkbgmhaaDoor.QS
namespace Go.Proofs.YtlooelfkkbgmhaaDoor.QS
open Go.RowKit Go.Proofs.YtlooelfkkbgmhaaDoorW.PrintWords Go.Proofs.YtlooelfkkbgmhaaDoorW.PrintLast

set_option linter.unusedVariables false
set_option linter.unusedSimpArgs false

/-! ### laws_scList: function 62 -/
def laws_scList.f (k : Nat) (l0 : List (S36)) : Option (Bool) := (laws_scGood.f k (([l0] : List (List (S36))))).bind fun t595 => (some t595)
theorem laws_scList.mono : ∀ a0 k, LeO (laws_scList.f k a0) (laws_scList.f (k + 1) a0) := by
 intro a0 k
 unfold laws_scList.f
 repeat' first
   | (with_reducible exact laws_scGood.mono _ _)
   | (with_reducible exact LeO.refl _)
   | (with_reducible exact LeO.none _)
   | (with_reducible refine LeO.ite ?_ ?_)
   | (with_reducible refine LeO.bind ?_ (fun _ => ?_))
   | exact laws_scGood.mono _ _
   | exact LeO.none _
   | refine LeO.ite ?_ ?_
   | refine LeO.bind ?_ (fun _ => ?_)
set_option maxHeartbeats 8000000 in
set_option maxRecDepth 100000 in
theorem laws_scList.calls (k : Nat) (P0_ : Nat → Prop) (A0 : Option Addr) (c0 : Nat) (l0 : List (S36)) (r : Bool) (w : World) (hs0 : Kd.V k36 36 w w.heap.size (fun k_ => P0_ k_) (.slice A0 l0.length c0) l0) (h : laws_scList.f k l0 = some r) :
  Calls Tryd.prog 62 #[.slice A0 l0.length c0] w fun e w' => e = .returned (.bool r) ∧ Below w.heap.size w w' := by
 have HO0 := Aside0.mk (show Kd.V k36 36 w w.heap.size (fun k_ => (P0_ k_ ∨ w.heap.size ≤ k_)) (.slice A0 l0.length c0) l0 from Kd.V_mono hs0 (fun k_ hk => .inl hk))
 have HB := Aside0.mk (Below.refl w.heap.size w)
 have H : ((laws_scGood.f k (([l0] : List (List (S36))))).bind fun t595 => (some t595)) = some r := h
 clear h
 obtain ⟨y592, hy592⟩ : ∃ y_ : List (List (S36)), y_ = (([l0] : List (List (S36)))) := ⟨_, rfl⟩
 replace H : ((laws_scGood.f k y592).bind fun t595 => (some t595)) = some r := by first | (rw [hy592]; with_reducible exact H) | (have H2_ := (Option.bind_some _ _).symm.trans H; rw [hy592]; with_reducible exact H2_) | (have H2_ := (Option.bind_some _ _).symm.trans H; with_reducible exact H2_) | with_reducible exact H | (rw [hy592]; exact H) | exact H
 have Ny592 := Aside0.mk hy592
 clear hy592
 replace H := Option.bind_eq_some_iff.mp H
 obtain ⟨t595, A20, H⟩ := H
 replace H : (some t595) = some r := H
 have A2 := Aside0.mk A20
 clear A20
 obtain rfl := Option.some.inj H
 go_enter Tryd.func62, Tryd.ntmps62
 go_wp2_with (first | ((with_reducible refine gate_dst (N := 4) rfl ?_); refine Kd.N_lit (Kd.slice 36 k36) _ 65 ?hg (N' := 4) ?hd (xs := ([l0] : List (List (S36)))) (inner := [.slice A0 l0.length c0]) (ok := (fun k_ => (P0_ k_ ∨ w.heap.size ≤ k_))) (okp := (fun k_ => (P0_ k_ ∨ w.heap.size ≤ k_))) ?hr ?hp (fun _ hk => hk) ((show ∀ k_, w.heap.size ≤ k_ → (fun k_ => (P0_ k_ ∨ w.heap.size ≤ k_)) k_ from fun k_ hk => (.inr (Nat.le_trans (below_size (by repeat (first | (with_reducible first | exact HB.out | apply below_alloc | apply pw_below_drewN | apply below_drew1) | exact HB.out))) hk))) _ (Nat.le_refl _)) (Below.refl _ _) (Nat.le_refl _) (by simp) ?_; (case hd => rfl); (case hg => rfl); (case hr => first | (go_simp; done) | (go_simp; rfl)); (case hp => exact (Reps.one (show Kd.FK (Kd.slice 36 k36) _ _ l0 [.slice A0 l0.length c0] from (Kd.FK_slice_mk (Kd.V_reads' (Kd.V_mono (ok' := (fun k_ => (P0_ k_ ∨ w.heap.size ≤ k_))) (HO0.out) (fun k_ hk => hk))).2.1 (Kd.V_F (Kd.V_mono (ok' := (fun k_ => (P0_ k_ ∨ w.heap.size ≤ k_))) (HO0.out) (fun k_ hk => hk))))) (Reps.none _ _))); intro v593 w3 ho4 hb hg_ hnew_; clear hg_ hnew_; (first | rw [← Ny592.out] at ho4 | (simp only [Int.reduceToNat] at ho4; rw [← Ny592.out] at ho4)); have n0_ := Aside0.mk (Kd.V_elder' (by (with_reducible repeat (first | apply Kd.V_alloc | apply Kd.V_drewN | apply Kd.V_drew)); exact HO0.out) (Kd.N_base ho4) hb); have n1_ := Aside0.mk (Kd.N_lower ho4 (below_size (by repeat (first | (with_reducible first | exact HB.out | apply below_alloc | apply pw_below_drewN | apply below_drew1) | exact HB.out)))); have n2_ := Aside0.mk (below_step (by repeat (first | (with_reducible first | exact HB.out | apply below_alloc | apply pw_below_drewN | apply below_drew1) | exact HB.out)) hb); clear HO0; clear HB; have HO0 := n0_; have HO594 := n1_; have HB := n2_; clear n0_ n1_ n2_; clear hb ho4; obtain ⟨Ao5, co5, eo5⟩ := Kd.N_slice HO594.out; subst eo5) | ((with_reducible refine only_callee (f := 98) rfl ?_); refine goesL_ (some 5) rfl rfl Tryd.func98 (by kernel_rfl) rfl #[.slice Ao5 y592.length co5] rfl (by (try simp only [List.map_toArray, List.map_cons, List.map_nil]); first | done | rfl | (simp only [List.length_drop, List.length_take]; rfl)) ?_; (with_reducible refine (laws_scGood.calls k _ _ y592 t595 _ ?side1 ?side2 A2.out).mono ?_); (case side1 => repeat (first | exact (Kd.N_reads' HO594.out).2.2 | (with_reducible refine Kd.C_alloc ?_ _) | (with_reducible refine Kd.C_drewN ?_ _) | (with_reducible refine Kd.C_drew ?_))); (case side2 => exact (Kd.N_reads' HO594.out).2.1); rintro e w6 ⟨rfl, hb⟩; refine ⟨_, rfl, ?_⟩; have n0_ := Aside0.mk (Kd.V_below (by (with_reducible repeat (first | apply Kd.V_alloc | apply Kd.V_drewN | apply Kd.V_drew)); exact HO0.out) hb); have n1_ := Aside0.mk (Kd.N_below (by (with_reducible repeat (first | apply Kd.N_alloc | apply Kd.N_drewN | apply Kd.N_drew)); exact HO594.out) hb); have n2_ := Aside0.mk (below_step (by repeat (first | (with_reducible first | exact HB.out | apply below_alloc | apply pw_below_drewN | apply below_drew1) | exact HB.out)) hb); clear HO0; clear HO594; clear HB; have HO0 := n0_; have HO594 := n1_; have HB := n2_; clear n0_ n1_ n2_; (try clear hb); (try clear hb2); (try clear hk); (try clear hi)))
 go_ret
 exact ⟨by first | rfl | (simp [errW_none, errW_some] <;> rfl) | (simp [*, errW_none, errW_some] <;> rfl), by repeat (first | (with_reducible first | exact HB.out | apply below_alloc | apply pw_below_drewN | apply below_drew1) | exact HB.out)⟩

/-! ### laws_sjOpposite: function 63 -/
def laws_sjOpposite.f (a0 : Int) : Option (Int) := if a0 = 0 then (some 1) else (if a0 = 1 then (some 0) else (if a0 = 2 then (some 5) else (if a0 = 5 then (some 2) else (if a0 = 3 then (some 4) else (some 3)))))
set_option maxHeartbeats 8000000 in
set_option maxRecDepth 100000 in
theorem laws_sjOpposite.calls (a0 : Int) (r : Int) (w : World) (h : laws_sjOpposite.f a0 = some r) :
  Calls Tryd.prog 63 #[.int .i64 a0] w fun e w' => e = .returned (.int .i64 r) ∧ Drawn0 w w' := by
 have H : (if a0 = 0 then (some 1) else (if a0 = 1 then (some 0) else (if a0 = 2 then (some 5) else (if a0 = 5 then (some 2) else (if a0 = 3 then (some 4) else (some 3)))))) = some r := h
 clear h
 by_cases c2 : a0 = 0
 ·rw [if_pos c2] at H
  have c2b0 : (a0 == 0) = true := beq_iff_eq.mpr c2
  have c2b1 : (a0 != 0) = false := bne_eq_false_iff_eq.mpr c2
  clear c2
  obtain rfl := Option.some.inj H
  go_enter Tryd.func63, Tryd.ntmps63
  go_wp2
  go_ret
  exact ⟨by first | rfl | (simp; done) | (simp [*]; done) | (simp [nil_bne]; done), by repeat (first | exact Drawn0.refl _ | apply Drawn0.step)⟩
 ·rw [if_neg c2] at H
  have c2b0 : (a0 == 0) = false := beq_eq_false_iff_ne.mpr c2
  have c2b1 : (a0 != 0) = true := bne_iff_ne.mpr c2
  by_cases c3 : a0 = 1
  ·rw [if_pos c3] at H
   have c3b0 : (a0 == 1) = true := beq_iff_eq.mpr c3
   have c3b1 : (a0 != 1) = false := bne_eq_false_iff_eq.mpr c3
   clear c3
   obtain rfl := Option.some.inj H
   go_enter Tryd.func63, Tryd.ntmps63
   go_wp2
   go_ret
   exact ⟨by first | rfl | (simp; done) | (simp [*]; done) | (simp [nil_bne]; done), by repeat (first | exact Drawn0.refl _ | apply Drawn0.step)⟩
  ·rw [if_neg c3] at H
   have c3b0 : (a0 == 1) = false := beq_eq_false_iff_ne.mpr c3
   have c3b1 : (a0 != 1) = true := bne_iff_ne.mpr c3
   by_cases c4 : a0 = 2
   ·rw [if_pos c4] at H
    have c4b0 : (a0 == 2) = true := beq_iff_eq.mpr c4
    have c4b1 : (a0 != 2) = false := bne_eq_false_iff_eq.mpr c4
    clear c4
    obtain rfl := Option.some.inj H
    go_enter Tryd.func63, Tryd.ntmps63
    go_wp2
    go_ret
    exact ⟨by first | rfl | (simp; done) | (simp [*]; done) | (simp [nil_bne]; done), by repeat (first | exact Drawn0.refl _ | apply Drawn0.step)⟩
   ·rw [if_neg c4] at H
    have c4b0 : (a0 == 2) = false := beq_eq_false_iff_ne.mpr c4
    have c4b1 : (a0 != 2) = true := bne_iff_ne.mpr c4
    by_cases c5 : a0 = 5
    ·rw [if_pos c5] at H
     have c5b0 : (a0 == 5) = true := beq_iff_eq.mpr c5
     have c5b1 : (a0 != 5) = false := bne_eq_false_iff_eq.mpr c5
     clear c5
     obtain rfl := Option.some.inj H
     go_enter Tryd.func63, Tryd.ntmps63
     go_wp2
     go_ret
     exact ⟨by first | rfl | (simp; done) | (simp [*]; done) | (simp [nil_bne]; done), by repeat (first | exact Drawn0.refl _ | apply Drawn0.step)⟩
    ·rw [if_neg c5] at H
     have c5b0 : (a0 == 5) = false := beq_eq_false_iff_ne.mpr c5
     have c5b1 : (a0 != 5) = true := bne_iff_ne.mpr c5
     by_cases c6 : a0 = 3
     ·rw [if_pos c6] at H
      have c6b0 : (a0 == 3) = true := beq_iff_eq.mpr c6
      have c6b1 : (a0 != 3) = false := bne_eq_false_iff_eq.mpr c6
      clear c6
      obtain rfl := Option.some.inj H
      go_enter Tryd.func63, Tryd.ntmps63
      go_wp2
      go_ret
      exact ⟨by first | rfl | (simp; done) | (simp [*]; done) | (simp [nil_bne]; done), by repeat (first | exact Drawn0.refl _ | apply Drawn0.step)⟩
     ·rw [if_neg c6] at H
      have c6b0 : (a0 == 3) = false := beq_eq_false_iff_ne.mpr c6
      have c6b1 : (a0 != 3) = true := bne_iff_ne.mpr c6
      obtain rfl := Option.some.inj H
      go_enter Tryd.func63, Tryd.ntmps63
      go_wp2
      go_ret
      exact ⟨by first | rfl | (simp; done) | (simp [*]; done) | (simp [nil_bne]; done), by repeat (first | exact Drawn0.refl _ | apply Drawn0.step)⟩

end Go.Proofs.YtlooelfkkbgmhaaDoor.QS
