-- written by a program of mine (wip/tools/myprint.py) for this claim. Not trusted: Lean checks it.
import Derived.Test.YtlooelfkkbgmhaaDoorQSA
import Derived.Test.YtlooelfkkbgmhaaDoorQlawsstBare
import Derived.Test.YtlooelfkkbgmhaaDoorQlawsstZero
namespace Go.Proofs.YtlooelfkkbgmhaaDoor.QS
open Go.RowKit Go.Proofs.YtlooelfkkbgmhaaDoorW.PrintWords Go.Proofs.YtlooelfkkbgmhaaDoorW.PrintLast
set_option linter.unusedVariables false
set_option linter.unusedSimpArgs false

/-! ### laws_FnSemverTermFewer: function 12 -/
mutual
def laws_FnSemverTermFewer.j0 : Nat → Int → Int → Bool → Int → Int → Int → ByteArray → ByteArray → Int → Int → Int → ByteArray → ByteArray → Option (Bool)
  | 0, _, _, _, _, _, _, _, _, _, _, _, _, _ => none
  | k + 1, x1, x2, x19, x380000, x380001, x380002, x380003, x380004, x381000, x381001, x381002, x381003, x381004 => if x19 = true then (some true) else ((laws_stBare.f x380000 x380001 x380002 x380003 x380004 x381000 x381001 x381002 x381003 x381004 x1).bind fun bt383 => (if bt383.2.2.2.2.2.2.2.2.2.2 = true then (if x1 < 2 then (laws_FnSemverTermFewer.j1 k x1 x2 true bt383.1 bt383.2.1 bt383.2.2.1 bt383.2.2.2.1 bt383.2.2.2.2.1 bt383.2.2.2.2.2.1 bt383.2.2.2.2.2.2.1 bt383.2.2.2.2.2.2.2.1 bt383.2.2.2.2.2.2.2.2.1 bt383.2.2.2.2.2.2.2.2.2.1) else (if x2 < 0 then (laws_FnSemverTermFewer.j1 k x1 x2 true bt383.1 bt383.2.1 bt383.2.2.1 bt383.2.2.2.1 bt383.2.2.2.2.1 bt383.2.2.2.2.2.1 bt383.2.2.2.2.2.2.1 bt383.2.2.2.2.2.2.2.1 bt383.2.2.2.2.2.2.2.2.1 bt383.2.2.2.2.2.2.2.2.2.1) else (if x2 ≥ 8 then (laws_FnSemverTermFewer.j1 k x1 x2 true bt383.1 bt383.2.1 bt383.2.2.1 bt383.2.2.2.1 bt383.2.2.2.2.1 bt383.2.2.2.2.2.1 bt383.2.2.2.2.2.2.1 bt383.2.2.2.2.2.2.2.1 bt383.2.2.2.2.2.2.2.2.1 bt383.2.2.2.2.2.2.2.2.2.1) else (if x2 = 6 then ((laws_stZero.f bt383.1 bt383.2.1 bt383.2.2.1 bt383.2.2.2.1 bt383.2.2.2.2.1).bind fun t394 => (laws_FnSemverTermFewer.j1 k x1 x2 t394 bt383.1 bt383.2.1 bt383.2.2.1 bt383.2.2.2.1 bt383.2.2.2.2.1 bt383.2.2.2.2.2.1 bt383.2.2.2.2.2.2.1 bt383.2.2.2.2.2.2.2.1 bt383.2.2.2.2.2.2.2.2.1 bt383.2.2.2.2.2.2.2.2.2.1)) else (laws_FnSemverTermFewer.j1 k x1 x2 false bt383.1 bt383.2.1 bt383.2.2.1 bt383.2.2.2.1 bt383.2.2.2.2.1 bt383.2.2.2.2.2.1 bt383.2.2.2.2.2.2.1 bt383.2.2.2.2.2.2.2.1 bt383.2.2.2.2.2.2.2.2.1 bt383.2.2.2.2.2.2.2.2.2.1))))) else (laws_FnSemverTermFewer.j1 k x1 x2 true bt383.1 bt383.2.1 bt383.2.2.1 bt383.2.2.2.1 bt383.2.2.2.2.1 bt383.2.2.2.2.2.1 bt383.2.2.2.2.2.2.1 bt383.2.2.2.2.2.2.2.1 bt383.2.2.2.2.2.2.2.2.1 bt383.2.2.2.2.2.2.2.2.2.1)))
def laws_FnSemverTermFewer.j1 : Nat → Int → Int → Bool → Int → Int → Int → ByteArray → ByteArray → Int → Int → Int → ByteArray → ByteArray → Option (Bool)
  | 0, _, _, _, _, _, _, _, _, _, _, _, _, _ => none
  | k + 1, x1, x2, x49, x380000, x380001, x380002, x380003, x380004, x381000, x381001, x381002, x381003, x381004 => if x49 = true then (some true) else ((laws_stHolds.f k x2 x380000 x380001 x380002 x380003 x380004 x1 x381000 x381001 x381002 x381003 x381004).bind fun t395 => ((laws_stHolds.f k x2 x380000 x380001 x380002 x380003 x380004 (wrap64 (x1 - 1)) x381000 x381001 x381002 x381003 x381004).bind fun t396 => (if x2 = 1 then (laws_FnSemverTermFewer.j2 k x1 t395 t396 (x2 == 1) x380000 x380001 x380002 x380003 x380004) else (if x2 = 3 then (laws_FnSemverTermFewer.j2 k x1 t395 t396 (x2 == 3) x380000 x380001 x380002 x380003 x380004) else (laws_FnSemverTermFewer.j2 k x1 t395 t396 (x2 == 2) x380000 x380001 x380002 x380003 x380004)))))
def laws_FnSemverTermFewer.j2 : Nat → Int → Bool → Bool → Bool → Int → Int → Int → ByteArray → ByteArray → Option (Bool)
  | 0, _, _, _, _, _, _, _, _, _ => none
  | k + 1, x1, x10, x11, x62, x380000, x380001, x380002, x380003, x380004 => if x62 = true then (if x11 = true then (if x10 = true then ((laws_stHolds.f k 5 x380000 x380001 x380002 x380003 x380004 x1 x380000 x380001 x380002 x380003 x380004).bind fun t397 => (if t397 = true then ((laws_stHolds.f k 5 x380000 x380001 x380002 x380003 x380004 (wrap64 (x1 - 1)) x380000 x380001 x380002 x380003 x380004).bind fun t398 => (some t398)) else (some false))) else (some false)) else ((laws_stHolds.f k 5 x380000 x380001 x380002 x380003 x380004 x1 x380000 x380001 x380002 x380003 x380004).bind fun t399 => (if t399 = true then ((laws_stHolds.f k 5 x380000 x380001 x380002 x380003 x380004 (wrap64 (x1 - 1)) x380000 x380001 x380002 x380003 x380004).bind fun t400 => (some t400)) else (some false)))) else (if x10 = true then (if x11 = true then ((laws_stHolds.f k 5 x380000 x380001 x380002 x380003 x380004 x1 x380000 x380001 x380002 x380003 x380004).bind fun t401 => (if t401 = true then ((laws_stHolds.f k 5 x380000 x380001 x380002 x380003 x380004 (wrap64 (x1 - 1)) x380000 x380001 x380002 x380003 x380004).bind fun t402 => (some t402)) else (some false))) else (some false)) else ((laws_stHolds.f k 5 x380000 x380001 x380002 x380003 x380004 x1 x380000 x380001 x380002 x380003 x380004).bind fun t403 => (if t403 = true then ((laws_stHolds.f k 5 x380000 x380001 x380002 x380003 x380004 (wrap64 (x1 - 1)) x380000 x380001 x380002 x380003 x380004).bind fun t404 => (some t404)) else (some false))))
end
def laws_FnSemverTermFewer.f (k : Nat) (a0_0 : Int) (a0_1 : Int) (a0_2 : Int) (a0_3 : ByteArray) (a0_4 : ByteArray) (a1 : Int) (a2 : Int) (a3_0 : Int) (a3_1 : Int) (a3_2 : Int) (a3_3 : ByteArray) (a3_4 : ByteArray) : Option (Bool) := (laws_zzFits14.f a0_0 a0_1 a0_2 a0_3 a0_4).bind fun t381 => (if t381 = true then ((laws_zzFits14.f a3_0 a3_1 a3_2 a3_3 a3_4).bind fun t382 => (laws_FnSemverTermFewer.j0 k a1 a2 (!t382) a0_0 a0_1 a0_2 a0_3 a0_4 a3_0 a3_1 a3_2 a3_3 a3_4)) else (laws_FnSemverTermFewer.j0 k a1 a2 true a0_0 a0_1 a0_2 a0_3 a0_4 a3_0 a3_1 a3_2 a3_3 a3_4))
theorem laws_FnSemverTermFewer.mono_l : ∀ k, (∀ y0 y1 y2 y3 y4 y5 y6 y7 y8 y9 y10 y11 y12, LeO (laws_FnSemverTermFewer.j0 k y0 y1 y2 y3 y4 y5 y6 y7 y8 y9 y10 y11 y12) (laws_FnSemverTermFewer.j0 (k + 1) y0 y1 y2 y3 y4 y5 y6 y7 y8 y9 y10 y11 y12)) ∧ (∀ y0 y1 y2 y3 y4 y5 y6 y7 y8 y9 y10 y11 y12, LeO (laws_FnSemverTermFewer.j1 k y0 y1 y2 y3 y4 y5 y6 y7 y8 y9 y10 y11 y12) (laws_FnSemverTermFewer.j1 (k + 1) y0 y1 y2 y3 y4 y5 y6 y7 y8 y9 y10 y11 y12)) ∧ (∀ y0 y1 y2 y3 y4 y5 y6 y7 y8, LeO (laws_FnSemverTermFewer.j2 k y0 y1 y2 y3 y4 y5 y6 y7 y8) (laws_FnSemverTermFewer.j2 (k + 1) y0 y1 y2 y3 y4 y5 y6 y7 y8))
  | 0 => ⟨fun _ _ _ _ _ _ _ _ _ _ _ _ _ r h => by simp [laws_FnSemverTermFewer.j0] at h, fun _ _ _ _ _ _ _ _ _ _ _ _ _ r h => by simp [laws_FnSemverTermFewer.j1] at h, fun _ _ _ _ _ _ _ _ _ r h => by simp [laws_FnSemverTermFewer.j2] at h⟩
  | k + 1 => by
    obtain ⟨ih0, ih1, ih2⟩ := laws_FnSemverTermFewer.mono_l k
    refine ⟨?_, ?_, ?_⟩
    · intro y0 y1 y2 y3 y4 y5 y6 y7 y8 y9 y10 y11 y12
      unfold laws_FnSemverTermFewer.j0
      repeat' first
      | (with_reducible exact ih0 _ _ _ _ _ _ _ _ _ _ _ _ _)
      | (with_reducible exact ih1 _ _ _ _ _ _ _ _ _ _ _ _ _)
      | (with_reducible exact ih2 _ _ _ _ _ _ _ _ _)
      | (with_reducible exact laws_stHolds.mono _ _ _ _ _ _ _ _ _ _ _ _ _)
      | (with_reducible exact LeO.refl _)
      | (with_reducible exact LeO.none _)
      | (with_reducible refine LeO.ite ?_ ?_)
      | (with_reducible refine LeO.bind ?_ (fun _ => ?_))
      | exact ih0 _ _ _ _ _ _ _ _ _ _ _ _ _
      | exact ih1 _ _ _ _ _ _ _ _ _ _ _ _ _
      | exact ih2 _ _ _ _ _ _ _ _ _
      | exact laws_stHolds.mono _ _ _ _ _ _ _ _ _ _ _ _ _
      | exact LeO.none _
      | refine LeO.ite ?_ ?_
      | refine LeO.bind ?_ (fun _ => ?_)
    · intro y0 y1 y2 y3 y4 y5 y6 y7 y8 y9 y10 y11 y12
      unfold laws_FnSemverTermFewer.j1
      repeat' first
      | (with_reducible exact ih0 _ _ _ _ _ _ _ _ _ _ _ _ _)
      | (with_reducible exact ih1 _ _ _ _ _ _ _ _ _ _ _ _ _)
      | (with_reducible exact ih2 _ _ _ _ _ _ _ _ _)
      | (with_reducible exact laws_stHolds.mono _ _ _ _ _ _ _ _ _ _ _ _ _)
      | (with_reducible exact LeO.refl _)
      | (with_reducible exact LeO.none _)
      | (with_reducible refine LeO.ite ?_ ?_)
      | (with_reducible refine LeO.bind ?_ (fun _ => ?_))
      | exact ih0 _ _ _ _ _ _ _ _ _ _ _ _ _
      | exact ih1 _ _ _ _ _ _ _ _ _ _ _ _ _
      | exact ih2 _ _ _ _ _ _ _ _ _
      | exact laws_stHolds.mono _ _ _ _ _ _ _ _ _ _ _ _ _
      | exact LeO.none _
      | refine LeO.ite ?_ ?_
      | refine LeO.bind ?_ (fun _ => ?_)
    · intro y0 y1 y2 y3 y4 y5 y6 y7 y8
      unfold laws_FnSemverTermFewer.j2
      repeat' first
      | (with_reducible exact ih0 _ _ _ _ _ _ _ _ _ _ _ _ _)
      | (with_reducible exact ih1 _ _ _ _ _ _ _ _ _ _ _ _ _)
      | (with_reducible exact ih2 _ _ _ _ _ _ _ _ _)
      | (with_reducible exact laws_stHolds.mono _ _ _ _ _ _ _ _ _ _ _ _ _)
      | (with_reducible exact LeO.refl _)
      | (with_reducible exact LeO.none _)
      | (with_reducible refine LeO.ite ?_ ?_)
      | (with_reducible refine LeO.bind ?_ (fun _ => ?_))
      | exact ih0 _ _ _ _ _ _ _ _ _ _ _ _ _
      | exact ih1 _ _ _ _ _ _ _ _ _ _ _ _ _
      | exact ih2 _ _ _ _ _ _ _ _ _
      | exact laws_stHolds.mono _ _ _ _ _ _ _ _ _ _ _ _ _
      | exact LeO.none _
      | refine LeO.ite ?_ ?_
      | refine LeO.bind ?_ (fun _ => ?_)
theorem laws_FnSemverTermFewer.mono : ∀ a0 a1 a2 a3 a4 a5 a6 a7 a8 a9 a10 a11 k, LeO (laws_FnSemverTermFewer.f k a0 a1 a2 a3 a4 a5 a6 a7 a8 a9 a10 a11) (laws_FnSemverTermFewer.f (k + 1) a0 a1 a2 a3 a4 a5 a6 a7 a8 a9 a10 a11) := by
  intro a0 a1 a2 a3 a4 a5 a6 a7 a8 a9 a10 a11 k
  obtain ⟨ih0, ih1, ih2⟩ := laws_FnSemverTermFewer.mono_l k
  unfold laws_FnSemverTermFewer.f
  repeat' first
      | (with_reducible exact ih0 _ _ _ _ _ _ _ _ _ _ _ _ _)
      | (with_reducible exact ih1 _ _ _ _ _ _ _ _ _ _ _ _ _)
      | (with_reducible exact ih2 _ _ _ _ _ _ _ _ _)
      | (with_reducible exact laws_stHolds.mono _ _ _ _ _ _ _ _ _ _ _ _ _)
      | (with_reducible exact LeO.refl _)
      | (with_reducible exact LeO.none _)
      | (with_reducible refine LeO.ite ?_ ?_)
      | (with_reducible refine LeO.bind ?_ (fun _ => ?_))
      | exact ih0 _ _ _ _ _ _ _ _ _ _ _ _ _
      | exact ih1 _ _ _ _ _ _ _ _ _ _ _ _ _
      | exact ih2 _ _ _ _ _ _ _ _ _
      | exact laws_stHolds.mono _ _ _ _ _ _ _ _ _ _ _ _ _
      | exact LeO.none _
      | refine LeO.ite ?_ ?_
      | refine LeO.bind ?_ (fun _ => ?_)
def laws_FnSemverTermFewer.T6 : Bool × List (List Nat × List Nat) := (true, [([], []), ([], []), ([], []), ([], []), ([0, 1, 2, 3], [0, 1, 2, 3]), ([], []), ([], []), ([], []), ([7], [7]), ([], []), ([5, 6, 8, 9, 4], [5, 6, 8, 9]), ([4, 10, 0, 1, 2, 3, 4], [4]), ([10, 11, 0, 1, 2, 3, 4, 5, 6, 7, 8, 9, 10, 11], [10])])
def laws_FnSemverTermFewer.B6 : List Nat := [0, 0, 0, 0, 15, 0, 0, 0, 128, 0, 1023, 2047, 4095]
theorem laws_FnSemverTermFewer.tab6 : rtab .any (opsOf Tryd.f12 6) = laws_FnSemverTermFewer.T6 := by kernel_rfl
theorem laws_FnSemverTermFewer.bits6 : waitsOk laws_FnSemverTermFewer.T6.2 laws_FnSemverTermFewer.B6 = true := by kernel_rfl
set_option maxHeartbeats 8000000 in
set_option maxRecDepth 100000 in
theorem laws_FnSemverTermFewer.calls (k : Nat) (a0_0 : Int) (a0_1 : Int) (a0_2 : Int) (a0_3 : ByteArray) (a0_4 : ByteArray) (a1 : Int) (a2 : Int) (a3_0 : Int) (a3_1 : Int) (a3_2 : Int) (a3_3 : ByteArray) (a3_4 : ByteArray) (r : Bool) (w : World) (hGE : GlobE w) (h : laws_FnSemverTermFewer.f k a0_0 a0_1 a0_2 a0_3 a0_4 a1 a2 a3_0 a3_1 a3_2 a3_3 a3_4 = some r) :
    Calls Tryd.prog 12 #[.agg #[.int .u64 a0_0, .int .u64 a0_1, .int .u64 a0_2, .string a0_3, .string a0_4], .int .i64 a1, .int .i64 a2, .agg #[.int .u64 a3_0, .int .u64 a3_1, .int .u64 a3_2, .string a3_3, .string a3_4]] w fun e w' => e = .returned (.bool r) ∧ Below w.heap.size w w' := by
  have hu24 := Tryd.underlying24
  have HGE := Aside0.mk hGE
  clear hGE
  have HB := Aside0.mk (Below.refl w.heap.size w)
  have H : ((laws_zzFits14.f a0_0 a0_1 a0_2 a0_3 a0_4).bind fun t381 => (if t381 = true then ((laws_zzFits14.f a3_0 a3_1 a3_2 a3_3 a3_4).bind fun t382 => (laws_FnSemverTermFewer.j0 k a1 a2 (!t382) a0_0 a0_1 a0_2 a0_3 a0_4 a3_0 a3_1 a3_2 a3_3 a3_4)) else (laws_FnSemverTermFewer.j0 k a1 a2 true a0_0 a0_1 a0_2 a0_3 a0_4 a3_0 a3_1 a3_2 a3_3 a3_4))) = some r := h
  clear h
  have HC5 := Aside0.mk H
  clear H
  go_enter Tryd.func12, Tryd.ntmps12
  go_upto_region 1 with (first | ((with_reducible refine gate_dst (N := 4) rfl ?_); refine box_event ?hg (N := 4) ?hd (cs := #[.int .u64 a0_0, .int .u64 a0_1, .int .u64 a0_2, .string a0_3, .string a0_4]) (t := 24) ?hr ?_; (case hd => rfl); (case hg => rfl); (case hr => first | (go_simp; done) | (go_simp; rfl)); intro gb379 hg w6 hbox hb; have n0_ := Aside0.mk (below_step (by repeat (first | (with_reducible first | exact HB.out | apply below_alloc | apply pw_below_drewN | apply below_drew1) | exact HB.out)) hb); have n1_ := Aside0.mk (hbox); have n2_ := Aside0.mk ((by rw [hg]; exact (below_size (by repeat (first | (with_reducible first | exact HB.out | apply below_alloc | apply pw_below_drewN | apply below_drew1) | exact HB.out))) : w.heap.size ≤ gb379)); have n3_ := Aside0.mk ((by rw [hg]; exact (below_size (by repeat (first | (with_reducible first | exact HB.out | apply below_alloc | apply pw_below_drewN | apply below_drew1) | exact HB.out))) : w.heap.size ≤ gb379)); clear HB; have HB := n0_; have BK379 := n1_; have GW379 := n2_; have GE379 := n3_; clear n0_ n1_ n2_ n3_; clear hb hbox hg) | ((with_reducible refine gate_dst (N := 7) rfl ?_); refine box_event ?hg (N := 7) ?hd (cs := #[.int .u64 a3_0, .int .u64 a3_1, .int .u64 a3_2, .string a3_3, .string a3_4]) (t := 24) ?hr ?_; (case hd => rfl); (case hg => rfl); (case hr => first | (go_simp; done) | (go_simp; rfl)); intro gb380 hg w7 hbox hb; have n0_ := Aside0.mk (blk_below (g := gb379) (o := .cells #[.int .u64 a0_0, .int .u64 a0_1, .int .u64 a0_2, .string a0_3, .string a0_4] 24 (0, 0)) (by (with_reducible repeat (first | refine blk_drewN ?_ _ | refine blk_drew ?_ | refine blk_alloc ?_ _)); exact BK379.out) hb); have n1_ := Aside0.mk (below_step (by repeat (first | (with_reducible first | exact HB.out | apply below_alloc | apply pw_below_drewN | apply below_drew1 | refine below_set ?_ GE379.out) | exact HB.out)) hb); have n2_ := Aside0.mk (hbox); have n3_ := Aside0.mk ((by rw [hg]; exact (below_size (by repeat (first | (with_reducible first | exact HB.out | apply below_alloc | apply pw_below_drewN | apply below_drew1 | refine below_set ?_ GE379.out) | exact HB.out))) : w.heap.size ≤ gb380)); have n4_ := Aside0.mk ((by rw [hg]; exact (below_size (by repeat (first | (with_reducible first | exact HB.out | apply below_alloc | apply pw_below_drewN | apply below_drew1 | refine below_set ?_ GE379.out) | exact HB.out))) : w.heap.size ≤ gb380)); have n5_ := Aside0.mk ((by rw [hg]; exact Nat.ne_of_lt (blk_lt (g := gb379) (o := .cells #[.int .u64 a0_0, .int .u64 a0_1, .int .u64 a0_2, .string a0_3, .string a0_4] 24 (0, 0)) (by (with_reducible repeat (first | refine blk_drewN ?_ _ | refine blk_drew ?_ | refine blk_alloc ?_ _)); exact BK379.out)) : gb379 ≠ gb380)); have n6_ := Aside0.mk ((by rw [hg]; exact Nat.ne_of_gt (blk_lt (g := gb379) (o := .cells #[.int .u64 a0_0, .int .u64 a0_1, .int .u64 a0_2, .string a0_3, .string a0_4] 24 (0, 0)) (by (with_reducible repeat (first | refine blk_drewN ?_ _ | refine blk_drew ?_ | refine blk_alloc ?_ _)); exact BK379.out)) : gb380 ≠ gb379)); clear BK379; clear HB; have BK379 := n0_; have HB := n1_; have BK380 := n2_; have GW380 := n3_; have GE380 := n4_; have NB379_380 := n5_; have NB380_379 := n6_; clear n0_ n1_ n2_ n3_ n4_ n5_ n6_; clear hb hbox hg))
  (try simp only [Act.put, List.setIfInBounds_toArray, List.set_cons_zero, List.set_cons_succ])
  go_cut [19] (fun v19 wc => ∃ (kq : Nat) (x19_4 : Bool), v19 = .bool x19_4 ∧ Aside0 (laws_FnSemverTermFewer.j0 kq a1 a2 x19_4 a0_0 a0_1 a0_2 a0_3 a0_4 a3_0 a3_1 a3_2 a3_3 a3_4 = some r) ∧ Aside0 (kq ≤ k) ∧ Aside0 (wc.heap[gb379]? = some (.cells #[.int .u64 a0_0, .int .u64 a0_1, .int .u64 a0_2, .string a0_3, .string a0_4] 24 (0, 0))) ∧ Aside0 (wc.heap[gb380]? = some (.cells #[.int .u64 a3_0, .int .u64 a3_1, .int .u64 a3_2, .string a3_3, .string a3_4] 24 (0, 0))) ∧ Aside0 (Below w.heap.size w wc))
  case first =>
    have H := HC5.out
    clear HC5
    replace H := Option.bind_eq_some_iff.mp H
    obtain ⟨t381, A80, H⟩ := H
    replace H : (if t381 = true then ((laws_zzFits14.f a3_0 a3_1 a3_2 a3_3 a3_4).bind fun t382 => (laws_FnSemverTermFewer.j0 k a1 a2 (!t382) a0_0 a0_1 a0_2 a0_3 a0_4 a3_0 a3_1 a3_2 a3_3 a3_4)) else (laws_FnSemverTermFewer.j0 k a1 a2 true a0_0 a0_1 a0_2 a0_3 a0_4 a3_0 a3_1 a3_2 a3_3 a3_4)) = some r := H
    have A8 := Aside0.mk A80
    clear A80
    by_cases c9 : t381 = true
    · subst c9
      have H1 : ((laws_zzFits14.f a3_0 a3_1 a3_2 a3_3 a3_4).bind fun t382 => (laws_FnSemverTermFewer.j0 k a1 a2 (!t382) a0_0 a0_1 a0_2 a0_3 a0_4 a3_0 a3_1 a3_2 a3_3 a3_4)) = some r := by rw [if_pos rfl] at H; exact H
      clear H
      have H := H1
      clear H1
      replace H := Option.bind_eq_some_iff.mp H
      obtain ⟨t382, A100, H⟩ := H
      replace H : (laws_FnSemverTermFewer.j0 k a1 a2 (!t382) a0_0 a0_1 a0_2 a0_3 a0_4 a3_0 a3_1 a3_2 a3_3 a3_4) = some r := H
      have A10 := Aside0.mk A100
      clear A100
      have H' := Aside0.mk H
      clear H
      have hnb11 := NB379_380.out
      have hnc11 := NB380_379.out
      have hcz12_0 : w7.cell? ⟨gb379, 0, none⟩ = some (.int .u64 a0_0) := (blk_cell BK379.out 0).trans rfl
      have hcz12_1 : w7.cell? ⟨gb379, 1, none⟩ = some (.int .u64 a0_1) := (blk_cell BK379.out 1).trans rfl
      have hcz12_2 : w7.cell? ⟨gb379, 2, none⟩ = some (.int .u64 a0_2) := (blk_cell BK379.out 2).trans rfl
      have hcz12_3 : w7.cell? ⟨gb379, 3, none⟩ = some (.string a0_3) := (blk_cell BK379.out 3).trans rfl
      have hcz12_4 : w7.cell? ⟨gb379, 4, none⟩ = some (.string a0_4) := (blk_cell BK379.out 4).trans rfl
      have hfz12_0 := blk_frozen BK379.out 0
      have hfz12_1 := blk_frozen BK379.out 1
      have hfz12_2 := blk_frozen BK379.out 2
      have hfz12_3 := blk_frozen BK379.out 3
      have hfz12_4 := blk_frozen BK379.out 4
      go_wp2_with (first | ((with_reducible refine only_callee (f := 17) rfl ?_); refine goesL_ (some 13) rfl rfl Tryd.func17 (by kernel_rfl) rfl #[.agg #[.int .u64 a0_0, .int .u64 a0_1, .int .u64 a0_2, .string a0_3, .string a0_4]] rfl (by (try simp only [List.map_toArray, List.map_cons, List.map_nil]); first | done | rfl | (simp only [List.length_drop, List.length_take]; rfl)) ?_; (with_reducible refine (laws_zzFits14.calls a0_0 a0_1 a0_2 a0_3 a0_4 true _ A8.out).mono ?_); rintro e w13 ⟨rfl, hb⟩; refine ⟨_, rfl, ?_⟩; have n0_ := Aside0.mk (blk_below (g := gb379) (o := .cells #[.int .u64 a0_0, .int .u64 a0_1, .int .u64 a0_2, .string a0_3, .string a0_4] 24 (0, 0)) (by (with_reducible repeat (first | refine blk_drewN ?_ _ | refine blk_drew ?_ | refine blk_alloc ?_ _)); exact BK379.out) hb); have n1_ := Aside0.mk (blk_below (g := gb380) (o := .cells #[.int .u64 a3_0, .int .u64 a3_1, .int .u64 a3_2, .string a3_3, .string a3_4] 24 (0, 0)) (by (with_reducible repeat (first | refine blk_drewN ?_ _ | refine blk_drew ?_ | refine blk_alloc ?_ _)); exact BK380.out) hb); have n2_ := Aside0.mk (below_step (by repeat (first | (with_reducible first | exact HB.out | apply below_alloc | apply pw_below_drewN | apply below_drew1 | refine below_set ?_ GE379.out | refine below_set ?_ GE380.out) | exact HB.out)) hb); clear BK379; clear BK380; clear HB; have BK379 := n0_; have BK380 := n1_; have HB := n2_; clear n0_ n1_ n2_; (try clear hb); (try clear hb2); (try clear hk); (try clear hi); have hcz14_0 : w13.cell? ⟨gb380, 0, none⟩ = some (.int .u64 a3_0) := (blk_cell BK380.out 0).trans rfl; have hcz14_1 : w13.cell? ⟨gb380, 1, none⟩ = some (.int .u64 a3_1) := (blk_cell BK380.out 1).trans rfl; have hcz14_2 : w13.cell? ⟨gb380, 2, none⟩ = some (.int .u64 a3_2) := (blk_cell BK380.out 2).trans rfl; have hcz14_3 : w13.cell? ⟨gb380, 3, none⟩ = some (.string a3_3) := (blk_cell BK380.out 3).trans rfl; have hcz14_4 : w13.cell? ⟨gb380, 4, none⟩ = some (.string a3_4) := (blk_cell BK380.out 4).trans rfl; have hfz14_0 := blk_frozen BK380.out 0; have hfz14_1 := blk_frozen BK380.out 1; have hfz14_2 := blk_frozen BK380.out 2; have hfz14_3 := blk_frozen BK380.out 3; have hfz14_4 := blk_frozen BK380.out 4) | (go_at_call 17; (with_reducible refine (laws_zzFits14.calls a3_0 a3_1 a3_2 a3_3 a3_4 t382 _ A10.out).mono ?_); rintro e w15 ⟨rfl, hb⟩; have n0_ := Aside0.mk (blk_below (g := gb379) (o := .cells #[.int .u64 a0_0, .int .u64 a0_1, .int .u64 a0_2, .string a0_3, .string a0_4] 24 (0, 0)) (by (with_reducible repeat (first | refine blk_drewN ?_ _ | refine blk_drew ?_ | refine blk_alloc ?_ _)); exact BK379.out) hb); have n1_ := Aside0.mk (blk_below (g := gb380) (o := .cells #[.int .u64 a3_0, .int .u64 a3_1, .int .u64 a3_2, .string a3_3, .string a3_4] 24 (0, 0)) (by (with_reducible repeat (first | refine blk_drewN ?_ _ | refine blk_drew ?_ | refine blk_alloc ?_ _)); exact BK380.out) hb); have n2_ := Aside0.mk (below_step (by repeat (first | (with_reducible first | exact HB.out | apply below_alloc | apply pw_below_drewN | apply below_drew1 | refine below_set ?_ GE379.out | refine below_set ?_ GE380.out) | exact HB.out)) hb); clear BK379; clear BK380; clear HB; have BK379 := n0_; have BK380 := n1_; have HB := n2_; clear n0_ n1_ n2_; (try clear hb); (try clear hb2); (try clear hk); (try clear hi)))
      go_meet
      case rel => exact ⟨_, (!t382), (by first | rfl | (simp; done) | (simp [*]; done) | (simp [nil_bne]; done)), H', ⟨by first | omega | exact Nat.le_refl _⟩, ⟨by (with_reducible repeat (first | refine blk_drewN ?_ _ | refine blk_drew ?_ | refine blk_alloc ?_ _)); exact BK379.out⟩, ⟨by (with_reducible repeat (first | refine blk_drewN ?_ _ | refine blk_drew ?_ | refine blk_alloc ?_ _)); exact BK380.out⟩, ⟨by repeat (first | (with_reducible first | exact HB.out | apply below_alloc | apply pw_below_drewN | apply below_drew1 | refine below_set ?_ GE379.out | refine below_set ?_ GE380.out) | exact HB.out)⟩⟩
    · replace c9 := Bool.eq_false_iff.mpr c9
      subst c9
      have H1 : (laws_FnSemverTermFewer.j0 k a1 a2 true a0_0 a0_1 a0_2 a0_3 a0_4 a3_0 a3_1 a3_2 a3_3 a3_4) = some r := by rw [if_neg (show ¬ (false = true) by decide)] at H; exact H
      clear H
      have H := H1
      clear H1
      have H' := Aside0.mk H
      clear H
      have hnb16 := NB379_380.out
      have hnc16 := NB380_379.out
      have hcz17_0 : w7.cell? ⟨gb379, 0, none⟩ = some (.int .u64 a0_0) := (blk_cell BK379.out 0).trans rfl
      have hcz17_1 : w7.cell? ⟨gb379, 1, none⟩ = some (.int .u64 a0_1) := (blk_cell BK379.out 1).trans rfl
      have hcz17_2 : w7.cell? ⟨gb379, 2, none⟩ = some (.int .u64 a0_2) := (blk_cell BK379.out 2).trans rfl
      have hcz17_3 : w7.cell? ⟨gb379, 3, none⟩ = some (.string a0_3) := (blk_cell BK379.out 3).trans rfl
      have hcz17_4 : w7.cell? ⟨gb379, 4, none⟩ = some (.string a0_4) := (blk_cell BK379.out 4).trans rfl
      have hfz17_0 := blk_frozen BK379.out 0
      have hfz17_1 := blk_frozen BK379.out 1
      have hfz17_2 := blk_frozen BK379.out 2
      have hfz17_3 := blk_frozen BK379.out 3
      have hfz17_4 := blk_frozen BK379.out 4
      go_wp2_with (first | ((with_reducible refine only_callee (f := 17) rfl ?_); refine goesL_ (some 13) rfl rfl Tryd.func17 (by kernel_rfl) rfl #[.agg #[.int .u64 a0_0, .int .u64 a0_1, .int .u64 a0_2, .string a0_3, .string a0_4]] rfl (by (try simp only [List.map_toArray, List.map_cons, List.map_nil]); first | done | rfl | (simp only [List.length_drop, List.length_take]; rfl)) ?_; (with_reducible refine (laws_zzFits14.calls a0_0 a0_1 a0_2 a0_3 a0_4 false _ A8.out).mono ?_); rintro e w18 ⟨rfl, hb⟩; refine ⟨_, rfl, ?_⟩; have n0_ := Aside0.mk (blk_below (g := gb379) (o := .cells #[.int .u64 a0_0, .int .u64 a0_1, .int .u64 a0_2, .string a0_3, .string a0_4] 24 (0, 0)) (by (with_reducible repeat (first | refine blk_drewN ?_ _ | refine blk_drew ?_ | refine blk_alloc ?_ _)); exact BK379.out) hb); have n1_ := Aside0.mk (blk_below (g := gb380) (o := .cells #[.int .u64 a3_0, .int .u64 a3_1, .int .u64 a3_2, .string a3_3, .string a3_4] 24 (0, 0)) (by (with_reducible repeat (first | refine blk_drewN ?_ _ | refine blk_drew ?_ | refine blk_alloc ?_ _)); exact BK380.out) hb); have n2_ := Aside0.mk (below_step (by repeat (first | (with_reducible first | exact HB.out | apply below_alloc | apply pw_below_drewN | apply below_drew1 | refine below_set ?_ GE379.out | refine below_set ?_ GE380.out) | exact HB.out)) hb); clear BK379; clear BK380; clear HB; have BK379 := n0_; have BK380 := n1_; have HB := n2_; clear n0_ n1_ n2_; (try clear hb); (try clear hb2); (try clear hk); (try clear hi)))
      go_meet
      case rel => exact ⟨_, (true), (by first | rfl | (simp; done) | (simp [*]; done) | (simp [nil_bne]; done)), H', ⟨by first | omega | exact Nat.le_refl _⟩, ⟨by (with_reducible repeat (first | refine blk_drewN ?_ _ | refine blk_drew ?_ | refine blk_alloc ?_ _)); exact BK379.out⟩, ⟨by (with_reducible repeat (first | refine blk_drewN ?_ _ | refine blk_drew ?_ | refine blk_alloc ?_ _)); exact BK380.out⟩, ⟨by repeat (first | (with_reducible first | exact HB.out | apply below_alloc | apply pw_below_drewN | apply below_drew1 | refine below_set ?_ GE379.out | refine below_set ?_ GE380.out) | exact HB.out)⟩⟩
  case rest =>
    clear HC5
    try clear c1
    try clear p2
    try clear c9
    try clear c11
    try clear c12
    try clear c16
    try clear c17
    try clear hcz12_0
    try clear hcz12_1
    try clear hcz12_2
    try clear hcz12_3
    try clear hcz12_4
    try clear hcz14_0
    try clear hcz14_1
    try clear hcz14_2
    try clear hcz14_3
    try clear hcz14_4
    try clear hcz17_0
    try clear hcz17_1
    try clear hcz17_2
    try clear hcz17_3
    try clear hcz17_4
    try clear hfz12_0
    try clear hfz12_1
    try clear hfz12_2
    try clear hfz12_3
    try clear hfz12_4
    try clear hfz14_0
    try clear hfz14_1
    try clear hfz14_2
    try clear hfz14_3
    try clear hfz14_4
    try clear hfz17_0
    try clear hfz17_1
    try clear hfz17_2
    try clear hfz17_3
    try clear hfz17_4
    obtain ⟨kq, x19_4, rfl, HA, HJ4, BK379, BK380, HB⟩ := hcut
    cases kq with
    | zero => exact absurd HA.out (by simp [laws_FnSemverTermFewer.j0])
    | succ kj4 =>
      have H := HA.out
      clear HA
      simp only [laws_FnSemverTermFewer.j0] at H
      by_cases c19 : x19_4 = true
      · subst c19
        have H1 : (some true) = some r := by rw [if_pos rfl] at H; exact H
        clear H
        have H := H1
        clear H1
        obtain rfl := Option.some.inj H
        go_wp2
        go_ret
        exact ⟨by first | rfl | (simp [errW_none, errW_some] <;> rfl) | (simp [*, errW_none, errW_some] <;> rfl), by repeat (first | (with_reducible first | exact HB.out | apply below_alloc | apply pw_below_drewN | apply below_drew1 | refine below_set ?_ GE379.out | refine below_set ?_ GE380.out) | exact HB.out)⟩
      · replace c19 := Bool.eq_false_iff.mpr c19
        subst c19
        have H1 : ((laws_stBare.f a0_0 a0_1 a0_2 a0_3 a0_4 a3_0 a3_1 a3_2 a3_3 a3_4 a1).bind fun bt383 => (if bt383.2.2.2.2.2.2.2.2.2.2 = true then (if a1 < 2 then (laws_FnSemverTermFewer.j1 kj4 a1 a2 true bt383.1 bt383.2.1 bt383.2.2.1 bt383.2.2.2.1 bt383.2.2.2.2.1 bt383.2.2.2.2.2.1 bt383.2.2.2.2.2.2.1 bt383.2.2.2.2.2.2.2.1 bt383.2.2.2.2.2.2.2.2.1 bt383.2.2.2.2.2.2.2.2.2.1) else (if a2 < 0 then (laws_FnSemverTermFewer.j1 kj4 a1 a2 true bt383.1 bt383.2.1 bt383.2.2.1 bt383.2.2.2.1 bt383.2.2.2.2.1 bt383.2.2.2.2.2.1 bt383.2.2.2.2.2.2.1 bt383.2.2.2.2.2.2.2.1 bt383.2.2.2.2.2.2.2.2.1 bt383.2.2.2.2.2.2.2.2.2.1) else (if a2 ≥ 8 then (laws_FnSemverTermFewer.j1 kj4 a1 a2 true bt383.1 bt383.2.1 bt383.2.2.1 bt383.2.2.2.1 bt383.2.2.2.2.1 bt383.2.2.2.2.2.1 bt383.2.2.2.2.2.2.1 bt383.2.2.2.2.2.2.2.1 bt383.2.2.2.2.2.2.2.2.1 bt383.2.2.2.2.2.2.2.2.2.1) else (if a2 = 6 then ((laws_stZero.f bt383.1 bt383.2.1 bt383.2.2.1 bt383.2.2.2.1 bt383.2.2.2.2.1).bind fun t394 => (laws_FnSemverTermFewer.j1 kj4 a1 a2 t394 bt383.1 bt383.2.1 bt383.2.2.1 bt383.2.2.2.1 bt383.2.2.2.2.1 bt383.2.2.2.2.2.1 bt383.2.2.2.2.2.2.1 bt383.2.2.2.2.2.2.2.1 bt383.2.2.2.2.2.2.2.2.1 bt383.2.2.2.2.2.2.2.2.2.1)) else (laws_FnSemverTermFewer.j1 kj4 a1 a2 false bt383.1 bt383.2.1 bt383.2.2.1 bt383.2.2.2.1 bt383.2.2.2.2.1 bt383.2.2.2.2.2.1 bt383.2.2.2.2.2.2.1 bt383.2.2.2.2.2.2.2.1 bt383.2.2.2.2.2.2.2.2.1 bt383.2.2.2.2.2.2.2.2.2.1))))) else (laws_FnSemverTermFewer.j1 kj4 a1 a2 true bt383.1 bt383.2.1 bt383.2.2.1 bt383.2.2.2.1 bt383.2.2.2.2.1 bt383.2.2.2.2.2.1 bt383.2.2.2.2.2.2.1 bt383.2.2.2.2.2.2.2.1 bt383.2.2.2.2.2.2.2.2.1 bt383.2.2.2.2.2.2.2.2.2.1))) = some r := by rw [if_neg (show ¬ (false = true) by decide)] at H; exact H
        clear H
        have H := H1
        clear H1
        replace H := Option.bind_eq_some_iff.mp H
        obtain ⟨⟨t383, t384, t385, t386, t387, t388, t389, t390, t391, t392, t393⟩, A200, H⟩ := H
        replace H : (if t393 = true then (if a1 < 2 then (laws_FnSemverTermFewer.j1 kj4 a1 a2 true t383 t384 t385 t386 t387 t388 t389 t390 t391 t392) else (if a2 < 0 then (laws_FnSemverTermFewer.j1 kj4 a1 a2 true t383 t384 t385 t386 t387 t388 t389 t390 t391 t392) else (if a2 ≥ 8 then (laws_FnSemverTermFewer.j1 kj4 a1 a2 true t383 t384 t385 t386 t387 t388 t389 t390 t391 t392) else (if a2 = 6 then ((laws_stZero.f t383 t384 t385 t386 t387).bind fun t394 => (laws_FnSemverTermFewer.j1 kj4 a1 a2 t394 t383 t384 t385 t386 t387 t388 t389 t390 t391 t392)) else (laws_FnSemverTermFewer.j1 kj4 a1 a2 false t383 t384 t385 t386 t387 t388 t389 t390 t391 t392))))) else (laws_FnSemverTermFewer.j1 kj4 a1 a2 true t383 t384 t385 t386 t387 t388 t389 t390 t391 t392)) = some r := H
        have A20 := Aside0.mk A200
        clear A200
        have HC21 := Aside0.mk H
        clear H
        have hnb22 := NB379_380.out
        have hnc22 := NB380_379.out
        have hcz23_0 : wc.cell? ⟨gb379, 0, none⟩ = some (.int .u64 a0_0) := (blk_cell BK379.out 0).trans rfl
        have hcz23_1 : wc.cell? ⟨gb379, 1, none⟩ = some (.int .u64 a0_1) := (blk_cell BK379.out 1).trans rfl
        have hcz23_2 : wc.cell? ⟨gb379, 2, none⟩ = some (.int .u64 a0_2) := (blk_cell BK379.out 2).trans rfl
        have hcz23_3 : wc.cell? ⟨gb379, 3, none⟩ = some (.string a0_3) := (blk_cell BK379.out 3).trans rfl
        have hcz23_4 : wc.cell? ⟨gb379, 4, none⟩ = some (.string a0_4) := (blk_cell BK379.out 4).trans rfl
        have hfz23_0 := blk_frozen BK379.out 0
        have hfz23_1 := blk_frozen BK379.out 1
        have hfz23_2 := blk_frozen BK379.out 2
        have hfz23_3 := blk_frozen BK379.out 3
        have hfz23_4 := blk_frozen BK379.out 4
        have hcz24_0 : wc.cell? ⟨gb380, 0, none⟩ = some (.int .u64 a3_0) := (blk_cell BK380.out 0).trans rfl
        have hcz24_1 : wc.cell? ⟨gb380, 1, none⟩ = some (.int .u64 a3_1) := (blk_cell BK380.out 1).trans rfl
        have hcz24_2 : wc.cell? ⟨gb380, 2, none⟩ = some (.int .u64 a3_2) := (blk_cell BK380.out 2).trans rfl
        have hcz24_3 : wc.cell? ⟨gb380, 3, none⟩ = some (.string a3_3) := (blk_cell BK380.out 3).trans rfl
        have hcz24_4 : wc.cell? ⟨gb380, 4, none⟩ = some (.string a3_4) := (blk_cell BK380.out 4).trans rfl
        have hfz24_0 := blk_frozen BK380.out 0
        have hfz24_1 := blk_frozen BK380.out 1
        have hfz24_2 := blk_frozen BK380.out 2
        have hfz24_3 := blk_frozen BK380.out 3
        have hfz24_4 := blk_frozen BK380.out 4
        go_upto_region 4 with (first | ((with_reducible refine only_callee (f := 40) rfl ?_); refine goesL_ (some 24) rfl rfl Tryd.func40 (by kernel_rfl) rfl #[.agg #[.int .u64 a0_0, .int .u64 a0_1, .int .u64 a0_2, .string a0_3, .string a0_4], .agg #[.int .u64 a3_0, .int .u64 a3_1, .int .u64 a3_2, .string a3_3, .string a3_4], .int .i64 a1] rfl (by (try simp only [List.map_toArray, List.map_cons, List.map_nil]); first | done | rfl | (simp only [List.length_drop, List.length_take]; rfl)) ?_; (with_reducible refine (laws_stBare.calls a0_0 a0_1 a0_2 a0_3 a0_4 a3_0 a3_1 a3_2 a3_3 a3_4 a1 t383 t384 t385 t386 t387 t388 t389 t390 t391 t392 t393 _ A20.out).mono ?_); rintro e w25 ⟨rfl, hb⟩; refine ⟨_, rfl, ?_⟩; have n0_ := Aside0.mk (blk_below (g := gb379) (o := .cells #[.int .u64 a0_0, .int .u64 a0_1, .int .u64 a0_2, .string a0_3, .string a0_4] 24 (0, 0)) (by (with_reducible repeat (first | refine blk_drewN ?_ _ | refine blk_drew ?_ | refine blk_alloc ?_ _)); exact BK379.out) hb); have n1_ := Aside0.mk (blk_below (g := gb380) (o := .cells #[.int .u64 a3_0, .int .u64 a3_1, .int .u64 a3_2, .string a3_3, .string a3_4] 24 (0, 0)) (by (with_reducible repeat (first | refine blk_drewN ?_ _ | refine blk_drew ?_ | refine blk_alloc ?_ _)); exact BK380.out) hb); have n2_ := Aside0.mk (below_step (by repeat (first | (with_reducible first | exact HB.out | apply below_alloc | apply pw_below_drewN | apply below_drew1 | refine below_set ?_ GE379.out | refine below_set ?_ GE380.out) | exact HB.out)) hb); clear BK379; clear BK380; clear HB; have BK379 := n0_; have BK380 := n1_; have HB := n2_; clear n0_ n1_ n2_; (try clear hb); (try clear hb2); (try clear hk); (try clear hi); have hcz26_0 : w25.cell? ⟨gb379, 0, none⟩ = some (.int .u64 a0_0) := (blk_cell BK379.out 0).trans rfl; have hcz26_1 : w25.cell? ⟨gb379, 1, none⟩ = some (.int .u64 a0_1) := (blk_cell BK379.out 1).trans rfl; have hcz26_2 : w25.cell? ⟨gb379, 2, none⟩ = some (.int .u64 a0_2) := (blk_cell BK379.out 2).trans rfl; have hcz26_3 : w25.cell? ⟨gb379, 3, none⟩ = some (.string a0_3) := (blk_cell BK379.out 3).trans rfl; have hcz26_4 : w25.cell? ⟨gb379, 4, none⟩ = some (.string a0_4) := (blk_cell BK379.out 4).trans rfl; have hfz26_0 := blk_frozen BK379.out 0; have hfz26_1 := blk_frozen BK379.out 1; have hfz26_2 := blk_frozen BK379.out 2; have hfz26_3 := blk_frozen BK379.out 3; have hfz26_4 := blk_frozen BK379.out 4; have hcz27_0 : w25.cell? ⟨gb380, 0, none⟩ = some (.int .u64 a3_0) := (blk_cell BK380.out 0).trans rfl; have hcz27_1 : w25.cell? ⟨gb380, 1, none⟩ = some (.int .u64 a3_1) := (blk_cell BK380.out 1).trans rfl; have hcz27_2 : w25.cell? ⟨gb380, 2, none⟩ = some (.int .u64 a3_2) := (blk_cell BK380.out 2).trans rfl; have hcz27_3 : w25.cell? ⟨gb380, 3, none⟩ = some (.string a3_3) := (blk_cell BK380.out 3).trans rfl; have hcz27_4 : w25.cell? ⟨gb380, 4, none⟩ = some (.string a3_4) := (blk_cell BK380.out 4).trans rfl; have hfz27_0 := blk_frozen BK380.out 0; have hfz27_1 := blk_frozen BK380.out 1; have hfz27_2 := blk_frozen BK380.out 2; have hfz27_3 := blk_frozen BK380.out 3; have hfz27_4 := blk_frozen BK380.out 4))
        (try simp only [Act.put, List.setIfInBounds_toArray, List.set_cons_zero, List.set_cons_succ])
        go_cut [49] (fun v49 wc => ∃ (kq : Nat) (x49_20 : Bool), v49 = .bool x49_20 ∧ Aside0 (laws_FnSemverTermFewer.j1 kq a1 a2 x49_20 t383 t384 t385 t386 t387 t388 t389 t390 t391 t392 = some r) ∧ Aside0 (kq ≤ kj4) ∧ Aside0 (wc.heap[gb379]? = some (.cells #[.int .u64 t383, .int .u64 t384, .int .u64 t385, .string t386, .string t387] 24 (0, 0))) ∧ Aside0 (wc.heap[gb380]? = some (.cells #[.int .u64 t388, .int .u64 t389, .int .u64 t390, .string t391, .string t392] 24 (0, 0))) ∧ Aside0 (Below w.heap.size w wc))
        case first =>
          have H := HC21.out
          clear HC21
          by_cases c28 : t393 = true
          · subst c28
            have H1 : (if a1 < 2 then (laws_FnSemverTermFewer.j1 kj4 a1 a2 true t383 t384 t385 t386 t387 t388 t389 t390 t391 t392) else (if a2 < 0 then (laws_FnSemverTermFewer.j1 kj4 a1 a2 true t383 t384 t385 t386 t387 t388 t389 t390 t391 t392) else (if a2 ≥ 8 then (laws_FnSemverTermFewer.j1 kj4 a1 a2 true t383 t384 t385 t386 t387 t388 t389 t390 t391 t392) else (if a2 = 6 then ((laws_stZero.f t383 t384 t385 t386 t387).bind fun t394 => (laws_FnSemverTermFewer.j1 kj4 a1 a2 t394 t383 t384 t385 t386 t387 t388 t389 t390 t391 t392)) else (laws_FnSemverTermFewer.j1 kj4 a1 a2 false t383 t384 t385 t386 t387 t388 t389 t390 t391 t392))))) = some r := by rw [if_pos rfl] at H; exact H
            clear H
            have H := H1
            clear H1
            by_cases c29 : a1 < 2
            · rw [if_pos c29] at H
              have c29b0 : decide (a1 < 2) = true := decide_eq_true c29
              clear c29
              (first | rw [c29b0] | (simp only [i64_w, i32_w]; rw [c29b0]) | rw [c29b1] | skip)
              have H' := Aside0.mk H
              clear H
              go_wp2
              go_meet
              case rel => exact ⟨_, (true), (by first | rfl | (simp; done) | (simp [*]; done) | (simp [nil_bne]; done)), H', ⟨by have := HJ4.out; first | omega | exact Nat.le_refl _⟩, ⟨by (with_reducible repeat (first | refine blk_drewN ?_ _ | refine blk_drew ?_ | refine blk_alloc ?_ _)); refine blk_far ?_ NB379_380.out _; (with_reducible repeat (first | refine blk_drewN ?_ _ | refine blk_drew ?_ | refine blk_alloc ?_ _)); refine blk_far ?_ NB379_380.out _; (with_reducible repeat (first | refine blk_drewN ?_ _ | refine blk_drew ?_ | refine blk_alloc ?_ _)); refine blk_far ?_ NB379_380.out _; (with_reducible repeat (first | refine blk_drewN ?_ _ | refine blk_drew ?_ | refine blk_alloc ?_ _)); refine blk_far ?_ NB379_380.out _; (with_reducible repeat (first | refine blk_drewN ?_ _ | refine blk_drew ?_ | refine blk_alloc ?_ _)); refine blk_far ?_ NB379_380.out _; (with_reducible repeat (first | refine blk_drewN ?_ _ | refine blk_drew ?_ | refine blk_alloc ?_ _)); refine blk_put (cs := #[.int .u64 t383, .int .u64 t384, .int .u64 t385, .string t386, .string a0_4]) ?_ 4 _ rfl; (with_reducible repeat (first | refine blk_drewN ?_ _ | refine blk_drew ?_ | refine blk_alloc ?_ _)); refine blk_put (cs := #[.int .u64 t383, .int .u64 t384, .int .u64 t385, .string a0_3, .string a0_4]) ?_ 3 _ rfl; (with_reducible repeat (first | refine blk_drewN ?_ _ | refine blk_drew ?_ | refine blk_alloc ?_ _)); refine blk_put (cs := #[.int .u64 t383, .int .u64 t384, .int .u64 a0_2, .string a0_3, .string a0_4]) ?_ 2 _ rfl; (with_reducible repeat (first | refine blk_drewN ?_ _ | refine blk_drew ?_ | refine blk_alloc ?_ _)); refine blk_put (cs := #[.int .u64 t383, .int .u64 a0_1, .int .u64 a0_2, .string a0_3, .string a0_4]) ?_ 1 _ rfl; (with_reducible repeat (first | refine blk_drewN ?_ _ | refine blk_drew ?_ | refine blk_alloc ?_ _)); refine blk_put (cs := #[.int .u64 a0_0, .int .u64 a0_1, .int .u64 a0_2, .string a0_3, .string a0_4]) ?_ 0 _ rfl; (with_reducible repeat (first | refine blk_drewN ?_ _ | refine blk_drew ?_ | refine blk_alloc ?_ _)); exact BK379.out⟩, ⟨by (with_reducible repeat (first | refine blk_drewN ?_ _ | refine blk_drew ?_ | refine blk_alloc ?_ _)); refine blk_put (cs := #[.int .u64 t388, .int .u64 t389, .int .u64 t390, .string t391, .string a3_4]) ?_ 4 _ rfl; (with_reducible repeat (first | refine blk_drewN ?_ _ | refine blk_drew ?_ | refine blk_alloc ?_ _)); refine blk_put (cs := #[.int .u64 t388, .int .u64 t389, .int .u64 t390, .string a3_3, .string a3_4]) ?_ 3 _ rfl; (with_reducible repeat (first | refine blk_drewN ?_ _ | refine blk_drew ?_ | refine blk_alloc ?_ _)); refine blk_put (cs := #[.int .u64 t388, .int .u64 t389, .int .u64 a3_2, .string a3_3, .string a3_4]) ?_ 2 _ rfl; (with_reducible repeat (first | refine blk_drewN ?_ _ | refine blk_drew ?_ | refine blk_alloc ?_ _)); refine blk_put (cs := #[.int .u64 t388, .int .u64 a3_1, .int .u64 a3_2, .string a3_3, .string a3_4]) ?_ 1 _ rfl; (with_reducible repeat (first | refine blk_drewN ?_ _ | refine blk_drew ?_ | refine blk_alloc ?_ _)); refine blk_put (cs := #[.int .u64 a3_0, .int .u64 a3_1, .int .u64 a3_2, .string a3_3, .string a3_4]) ?_ 0 _ rfl; (with_reducible repeat (first | refine blk_drewN ?_ _ | refine blk_drew ?_ | refine blk_alloc ?_ _)); refine blk_far ?_ NB380_379.out _; (with_reducible repeat (first | refine blk_drewN ?_ _ | refine blk_drew ?_ | refine blk_alloc ?_ _)); refine blk_far ?_ NB380_379.out _; (with_reducible repeat (first | refine blk_drewN ?_ _ | refine blk_drew ?_ | refine blk_alloc ?_ _)); refine blk_far ?_ NB380_379.out _; (with_reducible repeat (first | refine blk_drewN ?_ _ | refine blk_drew ?_ | refine blk_alloc ?_ _)); refine blk_far ?_ NB380_379.out _; (with_reducible repeat (first | refine blk_drewN ?_ _ | refine blk_drew ?_ | refine blk_alloc ?_ _)); refine blk_far ?_ NB380_379.out _; (with_reducible repeat (first | refine blk_drewN ?_ _ | refine blk_drew ?_ | refine blk_alloc ?_ _)); exact BK380.out⟩, ⟨by repeat (first | (with_reducible first | exact HB.out | apply below_alloc | apply pw_below_drewN | apply below_drew1 | refine below_set ?_ GE379.out | refine below_set ?_ GE380.out) | exact HB.out)⟩⟩
            · rw [if_neg c29] at H
              have c29b0 : decide (a1 < 2) = false := decide_eq_false c29
              clear c29
              (first | rw [c29b0] | (simp only [i64_w, i32_w]; rw [c29b0]) | rw [c29b1] | skip)
              by_cases c30 : a2 < 0
              · rw [if_pos c30] at H
                have c30b0 : decide (a2 < 0) = true := decide_eq_true c30
                clear c30
                have H' := Aside0.mk H
                clear H
                go_wp2
                go_meet
                case rel => exact ⟨_, (true), (by first | rfl | (simp; done) | (simp [*]; done) | (simp [nil_bne]; done)), H', ⟨by have := HJ4.out; first | omega | exact Nat.le_refl _⟩, ⟨by (with_reducible repeat (first | refine blk_drewN ?_ _ | refine blk_drew ?_ | refine blk_alloc ?_ _)); refine blk_far ?_ NB379_380.out _; (with_reducible repeat (first | refine blk_drewN ?_ _ | refine blk_drew ?_ | refine blk_alloc ?_ _)); refine blk_far ?_ NB379_380.out _; (with_reducible repeat (first | refine blk_drewN ?_ _ | refine blk_drew ?_ | refine blk_alloc ?_ _)); refine blk_far ?_ NB379_380.out _; (with_reducible repeat (first | refine blk_drewN ?_ _ | refine blk_drew ?_ | refine blk_alloc ?_ _)); refine blk_far ?_ NB379_380.out _; (with_reducible repeat (first | refine blk_drewN ?_ _ | refine blk_drew ?_ | refine blk_alloc ?_ _)); refine blk_far ?_ NB379_380.out _; (with_reducible repeat (first | refine blk_drewN ?_ _ | refine blk_drew ?_ | refine blk_alloc ?_ _)); refine blk_put (cs := #[.int .u64 t383, .int .u64 t384, .int .u64 t385, .string t386, .string a0_4]) ?_ 4 _ rfl; (with_reducible repeat (first | refine blk_drewN ?_ _ | refine blk_drew ?_ | refine blk_alloc ?_ _)); refine blk_put (cs := #[.int .u64 t383, .int .u64 t384, .int .u64 t385, .string a0_3, .string a0_4]) ?_ 3 _ rfl; (with_reducible repeat (first | refine blk_drewN ?_ _ | refine blk_drew ?_ | refine blk_alloc ?_ _)); refine blk_put (cs := #[.int .u64 t383, .int .u64 t384, .int .u64 a0_2, .string a0_3, .string a0_4]) ?_ 2 _ rfl; (with_reducible repeat (first | refine blk_drewN ?_ _ | refine blk_drew ?_ | refine blk_alloc ?_ _)); refine blk_put (cs := #[.int .u64 t383, .int .u64 a0_1, .int .u64 a0_2, .string a0_3, .string a0_4]) ?_ 1 _ rfl; (with_reducible repeat (first | refine blk_drewN ?_ _ | refine blk_drew ?_ | refine blk_alloc ?_ _)); refine blk_put (cs := #[.int .u64 a0_0, .int .u64 a0_1, .int .u64 a0_2, .string a0_3, .string a0_4]) ?_ 0 _ rfl; (with_reducible repeat (first | refine blk_drewN ?_ _ | refine blk_drew ?_ | refine blk_alloc ?_ _)); exact BK379.out⟩, ⟨by (with_reducible repeat (first | refine blk_drewN ?_ _ | refine blk_drew ?_ | refine blk_alloc ?_ _)); refine blk_put (cs := #[.int .u64 t388, .int .u64 t389, .int .u64 t390, .string t391, .string a3_4]) ?_ 4 _ rfl; (with_reducible repeat (first | refine blk_drewN ?_ _ | refine blk_drew ?_ | refine blk_alloc ?_ _)); refine blk_put (cs := #[.int .u64 t388, .int .u64 t389, .int .u64 t390, .string a3_3, .string a3_4]) ?_ 3 _ rfl; (with_reducible repeat (first | refine blk_drewN ?_ _ | refine blk_drew ?_ | refine blk_alloc ?_ _)); refine blk_put (cs := #[.int .u64 t388, .int .u64 t389, .int .u64 a3_2, .string a3_3, .string a3_4]) ?_ 2 _ rfl; (with_reducible repeat (first | refine blk_drewN ?_ _ | refine blk_drew ?_ | refine blk_alloc ?_ _)); refine blk_put (cs := #[.int .u64 t388, .int .u64 a3_1, .int .u64 a3_2, .string a3_3, .string a3_4]) ?_ 1 _ rfl; (with_reducible repeat (first | refine blk_drewN ?_ _ | refine blk_drew ?_ | refine blk_alloc ?_ _)); refine blk_put (cs := #[.int .u64 a3_0, .int .u64 a3_1, .int .u64 a3_2, .string a3_3, .string a3_4]) ?_ 0 _ rfl; (with_reducible repeat (first | refine blk_drewN ?_ _ | refine blk_drew ?_ | refine blk_alloc ?_ _)); refine blk_far ?_ NB380_379.out _; (with_reducible repeat (first | refine blk_drewN ?_ _ | refine blk_drew ?_ | refine blk_alloc ?_ _)); refine blk_far ?_ NB380_379.out _; (with_reducible repeat (first | refine blk_drewN ?_ _ | refine blk_drew ?_ | refine blk_alloc ?_ _)); refine blk_far ?_ NB380_379.out _; (with_reducible repeat (first | refine blk_drewN ?_ _ | refine blk_drew ?_ | refine blk_alloc ?_ _)); refine blk_far ?_ NB380_379.out _; (with_reducible repeat (first | refine blk_drewN ?_ _ | refine blk_drew ?_ | refine blk_alloc ?_ _)); refine blk_far ?_ NB380_379.out _; (with_reducible repeat (first | refine blk_drewN ?_ _ | refine blk_drew ?_ | refine blk_alloc ?_ _)); exact BK380.out⟩, ⟨by repeat (first | (with_reducible first | exact HB.out | apply below_alloc | apply pw_below_drewN | apply below_drew1 | refine below_set ?_ GE379.out | refine below_set ?_ GE380.out) | exact HB.out)⟩⟩
              · rw [if_neg c30] at H
                have c30b0 : decide (a2 < 0) = false := decide_eq_false c30
                clear c30
                by_cases c31 : a2 ≥ 8
                · rw [if_pos c31] at H
                  have c31b0 : decide (8 ≤ a2) = true := decide_eq_true c31
                  clear c31
                  have H' := Aside0.mk H
                  clear H
                  go_wp2
                  go_meet
                  case rel => exact ⟨_, (true), (by first | rfl | (simp; done) | (simp [*]; done) | (simp [nil_bne]; done)), H', ⟨by have := HJ4.out; first | omega | exact Nat.le_refl _⟩, ⟨by (with_reducible repeat (first | refine blk_drewN ?_ _ | refine blk_drew ?_ | refine blk_alloc ?_ _)); refine blk_far ?_ NB379_380.out _; (with_reducible repeat (first | refine blk_drewN ?_ _ | refine blk_drew ?_ | refine blk_alloc ?_ _)); refine blk_far ?_ NB379_380.out _; (with_reducible repeat (first | refine blk_drewN ?_ _ | refine blk_drew ?_ | refine blk_alloc ?_ _)); refine blk_far ?_ NB379_380.out _; (with_reducible repeat (first | refine blk_drewN ?_ _ | refine blk_drew ?_ | refine blk_alloc ?_ _)); refine blk_far ?_ NB379_380.out _; (with_reducible repeat (first | refine blk_drewN ?_ _ | refine blk_drew ?_ | refine blk_alloc ?_ _)); refine blk_far ?_ NB379_380.out _; (with_reducible repeat (first | refine blk_drewN ?_ _ | refine blk_drew ?_ | refine blk_alloc ?_ _)); refine blk_put (cs := #[.int .u64 t383, .int .u64 t384, .int .u64 t385, .string t386, .string a0_4]) ?_ 4 _ rfl; (with_reducible repeat (first | refine blk_drewN ?_ _ | refine blk_drew ?_ | refine blk_alloc ?_ _)); refine blk_put (cs := #[.int .u64 t383, .int .u64 t384, .int .u64 t385, .string a0_3, .string a0_4]) ?_ 3 _ rfl; (with_reducible repeat (first | refine blk_drewN ?_ _ | refine blk_drew ?_ | refine blk_alloc ?_ _)); refine blk_put (cs := #[.int .u64 t383, .int .u64 t384, .int .u64 a0_2, .string a0_3, .string a0_4]) ?_ 2 _ rfl; (with_reducible repeat (first | refine blk_drewN ?_ _ | refine blk_drew ?_ | refine blk_alloc ?_ _)); refine blk_put (cs := #[.int .u64 t383, .int .u64 a0_1, .int .u64 a0_2, .string a0_3, .string a0_4]) ?_ 1 _ rfl; (with_reducible repeat (first | refine blk_drewN ?_ _ | refine blk_drew ?_ | refine blk_alloc ?_ _)); refine blk_put (cs := #[.int .u64 a0_0, .int .u64 a0_1, .int .u64 a0_2, .string a0_3, .string a0_4]) ?_ 0 _ rfl; (with_reducible repeat (first | refine blk_drewN ?_ _ | refine blk_drew ?_ | refine blk_alloc ?_ _)); exact BK379.out⟩, ⟨by (with_reducible repeat (first | refine blk_drewN ?_ _ | refine blk_drew ?_ | refine blk_alloc ?_ _)); refine blk_put (cs := #[.int .u64 t388, .int .u64 t389, .int .u64 t390, .string t391, .string a3_4]) ?_ 4 _ rfl; (with_reducible repeat (first | refine blk_drewN ?_ _ | refine blk_drew ?_ | refine blk_alloc ?_ _)); refine blk_put (cs := #[.int .u64 t388, .int .u64 t389, .int .u64 t390, .string a3_3, .string a3_4]) ?_ 3 _ rfl; (with_reducible repeat (first | refine blk_drewN ?_ _ | refine blk_drew ?_ | refine blk_alloc ?_ _)); refine blk_put (cs := #[.int .u64 t388, .int .u64 t389, .int .u64 a3_2, .string a3_3, .string a3_4]) ?_ 2 _ rfl; (with_reducible repeat (first | refine blk_drewN ?_ _ | refine blk_drew ?_ | refine blk_alloc ?_ _)); refine blk_put (cs := #[.int .u64 t388, .int .u64 a3_1, .int .u64 a3_2, .string a3_3, .string a3_4]) ?_ 1 _ rfl; (with_reducible repeat (first | refine blk_drewN ?_ _ | refine blk_drew ?_ | refine blk_alloc ?_ _)); refine blk_put (cs := #[.int .u64 a3_0, .int .u64 a3_1, .int .u64 a3_2, .string a3_3, .string a3_4]) ?_ 0 _ rfl; (with_reducible repeat (first | refine blk_drewN ?_ _ | refine blk_drew ?_ | refine blk_alloc ?_ _)); refine blk_far ?_ NB380_379.out _; (with_reducible repeat (first | refine blk_drewN ?_ _ | refine blk_drew ?_ | refine blk_alloc ?_ _)); refine blk_far ?_ NB380_379.out _; (with_reducible repeat (first | refine blk_drewN ?_ _ | refine blk_drew ?_ | refine blk_alloc ?_ _)); refine blk_far ?_ NB380_379.out _; (with_reducible repeat (first | refine blk_drewN ?_ _ | refine blk_drew ?_ | refine blk_alloc ?_ _)); refine blk_far ?_ NB380_379.out _; (with_reducible repeat (first | refine blk_drewN ?_ _ | refine blk_drew ?_ | refine blk_alloc ?_ _)); refine blk_far ?_ NB380_379.out _; (with_reducible repeat (first | refine blk_drewN ?_ _ | refine blk_drew ?_ | refine blk_alloc ?_ _)); exact BK380.out⟩, ⟨by repeat (first | (with_reducible first | exact HB.out | apply below_alloc | apply pw_below_drewN | apply below_drew1 | refine below_set ?_ GE379.out | refine below_set ?_ GE380.out) | exact HB.out)⟩⟩
                · rw [if_neg c31] at H
                  have c31b0 : decide (8 ≤ a2) = false := decide_eq_false c31
                  clear c31
                  by_cases c32 : a2 = 6
                  · rw [if_pos c32] at H
                    have c32b0 : (a2 == 6) = true := beq_iff_eq.mpr c32
                    have c32b1 : (a2 != 6) = false := bne_eq_false_iff_eq.mpr c32
                    clear c32
                    replace H := Option.bind_eq_some_iff.mp H
                    obtain ⟨t394, A330, H⟩ := H
                    replace H : (laws_FnSemverTermFewer.j1 kj4 a1 a2 t394 t383 t384 t385 t386 t387 t388 t389 t390 t391 t392) = some r := H
                    have A33 := Aside0.mk A330
                    clear A330
                    have H' := Aside0.mk H
                    clear H
                    have hnb34 := NB379_380.out
                    have hnc34 := NB380_379.out
                    have hcz35_0 : w25.cell? ⟨gb379, 0, none⟩ = some (.int .u64 a0_0) := (blk_cell BK379.out 0).trans rfl
                    have hcz35_1 : w25.cell? ⟨gb379, 1, none⟩ = some (.int .u64 a0_1) := (blk_cell BK379.out 1).trans rfl
                    have hcz35_2 : w25.cell? ⟨gb379, 2, none⟩ = some (.int .u64 a0_2) := (blk_cell BK379.out 2).trans rfl
                    have hcz35_3 : w25.cell? ⟨gb379, 3, none⟩ = some (.string a0_3) := (blk_cell BK379.out 3).trans rfl
                    have hcz35_4 : w25.cell? ⟨gb379, 4, none⟩ = some (.string a0_4) := (blk_cell BK379.out 4).trans rfl
                    have hfz35_0 := blk_frozen BK379.out 0
                    have hfz35_1 := blk_frozen BK379.out 1
                    have hfz35_2 := blk_frozen BK379.out 2
                    have hfz35_3 := blk_frozen BK379.out 3
                    have hfz35_4 := blk_frozen BK379.out 4
                    go_wp2_with (first | (go_at_call 50; (with_reducible refine (laws_stZero.calls t383 t384 t385 t386 t387 t394 _ A33.out).mono ?_); rintro e w36 ⟨rfl, hb⟩; have n0_ := Aside0.mk (blk_below (g := gb379) (o := .cells #[.int .u64 t383, .int .u64 t384, .int .u64 t385, .string t386, .string t387] 24 (0, 0)) (by (with_reducible repeat (first | refine blk_drewN ?_ _ | refine blk_drew ?_ | refine blk_alloc ?_ _)); refine blk_far ?_ NB379_380.out _; (with_reducible repeat (first | refine blk_drewN ?_ _ | refine blk_drew ?_ | refine blk_alloc ?_ _)); refine blk_far ?_ NB379_380.out _; (with_reducible repeat (first | refine blk_drewN ?_ _ | refine blk_drew ?_ | refine blk_alloc ?_ _)); refine blk_far ?_ NB379_380.out _; (with_reducible repeat (first | refine blk_drewN ?_ _ | refine blk_drew ?_ | refine blk_alloc ?_ _)); refine blk_far ?_ NB379_380.out _; (with_reducible repeat (first | refine blk_drewN ?_ _ | refine blk_drew ?_ | refine blk_alloc ?_ _)); refine blk_far ?_ NB379_380.out _; (with_reducible repeat (first | refine blk_drewN ?_ _ | refine blk_drew ?_ | refine blk_alloc ?_ _)); refine blk_put (cs := #[.int .u64 t383, .int .u64 t384, .int .u64 t385, .string t386, .string a0_4]) ?_ 4 _ rfl; (with_reducible repeat (first | refine blk_drewN ?_ _ | refine blk_drew ?_ | refine blk_alloc ?_ _)); refine blk_put (cs := #[.int .u64 t383, .int .u64 t384, .int .u64 t385, .string a0_3, .string a0_4]) ?_ 3 _ rfl; (with_reducible repeat (first | refine blk_drewN ?_ _ | refine blk_drew ?_ | refine blk_alloc ?_ _)); refine blk_put (cs := #[.int .u64 t383, .int .u64 t384, .int .u64 a0_2, .string a0_3, .string a0_4]) ?_ 2 _ rfl; (with_reducible repeat (first | refine blk_drewN ?_ _ | refine blk_drew ?_ | refine blk_alloc ?_ _)); refine blk_put (cs := #[.int .u64 t383, .int .u64 a0_1, .int .u64 a0_2, .string a0_3, .string a0_4]) ?_ 1 _ rfl; (with_reducible repeat (first | refine blk_drewN ?_ _ | refine blk_drew ?_ | refine blk_alloc ?_ _)); refine blk_put (cs := #[.int .u64 a0_0, .int .u64 a0_1, .int .u64 a0_2, .string a0_3, .string a0_4]) ?_ 0 _ rfl; (with_reducible repeat (first | refine blk_drewN ?_ _ | refine blk_drew ?_ | refine blk_alloc ?_ _)); exact BK379.out) hb); have n1_ := Aside0.mk (blk_below (g := gb380) (o := .cells #[.int .u64 t388, .int .u64 t389, .int .u64 t390, .string t391, .string t392] 24 (0, 0)) (by (with_reducible repeat (first | refine blk_drewN ?_ _ | refine blk_drew ?_ | refine blk_alloc ?_ _)); refine blk_put (cs := #[.int .u64 t388, .int .u64 t389, .int .u64 t390, .string t391, .string a3_4]) ?_ 4 _ rfl; (with_reducible repeat (first | refine blk_drewN ?_ _ | refine blk_drew ?_ | refine blk_alloc ?_ _)); refine blk_put (cs := #[.int .u64 t388, .int .u64 t389, .int .u64 t390, .string a3_3, .string a3_4]) ?_ 3 _ rfl; (with_reducible repeat (first | refine blk_drewN ?_ _ | refine blk_drew ?_ | refine blk_alloc ?_ _)); refine blk_put (cs := #[.int .u64 t388, .int .u64 t389, .int .u64 a3_2, .string a3_3, .string a3_4]) ?_ 2 _ rfl; (with_reducible repeat (first | refine blk_drewN ?_ _ | refine blk_drew ?_ | refine blk_alloc ?_ _)); refine blk_put (cs := #[.int .u64 t388, .int .u64 a3_1, .int .u64 a3_2, .string a3_3, .string a3_4]) ?_ 1 _ rfl; (with_reducible repeat (first | refine blk_drewN ?_ _ | refine blk_drew ?_ | refine blk_alloc ?_ _)); refine blk_put (cs := #[.int .u64 a3_0, .int .u64 a3_1, .int .u64 a3_2, .string a3_3, .string a3_4]) ?_ 0 _ rfl; (with_reducible repeat (first | refine blk_drewN ?_ _ | refine blk_drew ?_ | refine blk_alloc ?_ _)); refine blk_far ?_ NB380_379.out _; (with_reducible repeat (first | refine blk_drewN ?_ _ | refine blk_drew ?_ | refine blk_alloc ?_ _)); refine blk_far ?_ NB380_379.out _; (with_reducible repeat (first | refine blk_drewN ?_ _ | refine blk_drew ?_ | refine blk_alloc ?_ _)); refine blk_far ?_ NB380_379.out _; (with_reducible repeat (first | refine blk_drewN ?_ _ | refine blk_drew ?_ | refine blk_alloc ?_ _)); refine blk_far ?_ NB380_379.out _; (with_reducible repeat (first | refine blk_drewN ?_ _ | refine blk_drew ?_ | refine blk_alloc ?_ _)); refine blk_far ?_ NB380_379.out _; (with_reducible repeat (first | refine blk_drewN ?_ _ | refine blk_drew ?_ | refine blk_alloc ?_ _)); exact BK380.out) hb); have n2_ := Aside0.mk (below_step (by repeat (first | (with_reducible first | exact HB.out | apply below_alloc | apply pw_below_drewN | apply below_drew1 | refine below_set ?_ GE379.out | refine below_set ?_ GE380.out) | exact HB.out)) hb); clear BK379; clear BK380; clear HB; have BK379 := n0_; have BK380 := n1_; have HB := n2_; clear n0_ n1_ n2_; (try clear hb); (try clear hb2); (try clear hk); (try clear hi)))
                    go_meet
                    case rel => exact ⟨_, (t394), (by first | rfl | (simp; done) | (simp [*]; done) | (simp [nil_bne]; done)), H', ⟨by have := HJ4.out; first | omega | exact Nat.le_refl _⟩, ⟨by (with_reducible repeat (first | refine blk_drewN ?_ _ | refine blk_drew ?_ | refine blk_alloc ?_ _)); exact BK379.out⟩, ⟨by (with_reducible repeat (first | refine blk_drewN ?_ _ | refine blk_drew ?_ | refine blk_alloc ?_ _)); exact BK380.out⟩, ⟨by repeat (first | (with_reducible first | exact HB.out | apply below_alloc | apply pw_below_drewN | apply below_drew1 | refine below_set ?_ GE379.out | refine below_set ?_ GE380.out) | exact HB.out)⟩⟩
                  · rw [if_neg c32] at H
                    have c32b0 : (a2 == 6) = false := beq_eq_false_iff_ne.mpr c32
                    have c32b1 : (a2 != 6) = true := bne_iff_ne.mpr c32
                    have H' := Aside0.mk H
                    clear H
                    go_wp2
                    go_meet
                    case rel => exact ⟨_, (false), (by first | rfl | (simp; done) | (simp [*]; done) | (simp [nil_bne]; done)), H', ⟨by have := HJ4.out; first | omega | exact Nat.le_refl _⟩, ⟨by (with_reducible repeat (first | refine blk_drewN ?_ _ | refine blk_drew ?_ | refine blk_alloc ?_ _)); refine blk_far ?_ NB379_380.out _; (with_reducible repeat (first | refine blk_drewN ?_ _ | refine blk_drew ?_ | refine blk_alloc ?_ _)); refine blk_far ?_ NB379_380.out _; (with_reducible repeat (first | refine blk_drewN ?_ _ | refine blk_drew ?_ | refine blk_alloc ?_ _)); refine blk_far ?_ NB379_380.out _; (with_reducible repeat (first | refine blk_drewN ?_ _ | refine blk_drew ?_ | refine blk_alloc ?_ _)); refine blk_far ?_ NB379_380.out _; (with_reducible repeat (first | refine blk_drewN ?_ _ | refine blk_drew ?_ | refine blk_alloc ?_ _)); refine blk_far ?_ NB379_380.out _; (with_reducible repeat (first | refine blk_drewN ?_ _ | refine blk_drew ?_ | refine blk_alloc ?_ _)); refine blk_put (cs := #[.int .u64 t383, .int .u64 t384, .int .u64 t385, .string t386, .string a0_4]) ?_ 4 _ rfl; (with_reducible repeat (first | refine blk_drewN ?_ _ | refine blk_drew ?_ | refine blk_alloc ?_ _)); refine blk_put (cs := #[.int .u64 t383, .int .u64 t384, .int .u64 t385, .string a0_3, .string a0_4]) ?_ 3 _ rfl; (with_reducible repeat (first | refine blk_drewN ?_ _ | refine blk_drew ?_ | refine blk_alloc ?_ _)); refine blk_put (cs := #[.int .u64 t383, .int .u64 t384, .int .u64 a0_2, .string a0_3, .string a0_4]) ?_ 2 _ rfl; (with_reducible repeat (first | refine blk_drewN ?_ _ | refine blk_drew ?_ | refine blk_alloc ?_ _)); refine blk_put (cs := #[.int .u64 t383, .int .u64 a0_1, .int .u64 a0_2, .string a0_3, .string a0_4]) ?_ 1 _ rfl; (with_reducible repeat (first | refine blk_drewN ?_ _ | refine blk_drew ?_ | refine blk_alloc ?_ _)); refine blk_put (cs := #[.int .u64 a0_0, .int .u64 a0_1, .int .u64 a0_2, .string a0_3, .string a0_4]) ?_ 0 _ rfl; (with_reducible repeat (first | refine blk_drewN ?_ _ | refine blk_drew ?_ | refine blk_alloc ?_ _)); exact BK379.out⟩, ⟨by (with_reducible repeat (first | refine blk_drewN ?_ _ | refine blk_drew ?_ | refine blk_alloc ?_ _)); refine blk_put (cs := #[.int .u64 t388, .int .u64 t389, .int .u64 t390, .string t391, .string a3_4]) ?_ 4 _ rfl; (with_reducible repeat (first | refine blk_drewN ?_ _ | refine blk_drew ?_ | refine blk_alloc ?_ _)); refine blk_put (cs := #[.int .u64 t388, .int .u64 t389, .int .u64 t390, .string a3_3, .string a3_4]) ?_ 3 _ rfl; (with_reducible repeat (first | refine blk_drewN ?_ _ | refine blk_drew ?_ | refine blk_alloc ?_ _)); refine blk_put (cs := #[.int .u64 t388, .int .u64 t389, .int .u64 a3_2, .string a3_3, .string a3_4]) ?_ 2 _ rfl; (with_reducible repeat (first | refine blk_drewN ?_ _ | refine blk_drew ?_ | refine blk_alloc ?_ _)); refine blk_put (cs := #[.int .u64 t388, .int .u64 a3_1, .int .u64 a3_2, .string a3_3, .string a3_4]) ?_ 1 _ rfl; (with_reducible repeat (first | refine blk_drewN ?_ _ | refine blk_drew ?_ | refine blk_alloc ?_ _)); refine blk_put (cs := #[.int .u64 a3_0, .int .u64 a3_1, .int .u64 a3_2, .string a3_3, .string a3_4]) ?_ 0 _ rfl; (with_reducible repeat (first | refine blk_drewN ?_ _ | refine blk_drew ?_ | refine blk_alloc ?_ _)); refine blk_far ?_ NB380_379.out _; (with_reducible repeat (first | refine blk_drewN ?_ _ | refine blk_drew ?_ | refine blk_alloc ?_ _)); refine blk_far ?_ NB380_379.out _; (with_reducible repeat (first | refine blk_drewN ?_ _ | refine blk_drew ?_ | refine blk_alloc ?_ _)); refine blk_far ?_ NB380_379.out _; (with_reducible repeat (first | refine blk_drewN ?_ _ | refine blk_drew ?_ | refine blk_alloc ?_ _)); refine blk_far ?_ NB380_379.out _; (with_reducible repeat (first | refine blk_drewN ?_ _ | refine blk_drew ?_ | refine blk_alloc ?_ _)); refine blk_far ?_ NB380_379.out _; (with_reducible repeat (first | refine blk_drewN ?_ _ | refine blk_drew ?_ | refine blk_alloc ?_ _)); exact BK380.out⟩, ⟨by repeat (first | (with_reducible first | exact HB.out | apply below_alloc | apply pw_below_drewN | apply below_drew1 | refine below_set ?_ GE379.out | refine below_set ?_ GE380.out) | exact HB.out)⟩⟩
          · replace c28 := Bool.eq_false_iff.mpr c28
            subst c28
            have H1 : (laws_FnSemverTermFewer.j1 kj4 a1 a2 true t383 t384 t385 t386 t387 t388 t389 t390 t391 t392) = some r := by rw [if_neg (show ¬ (false = true) by decide)] at H; exact H
            clear H
            have H := H1
            clear H1
            have H' := Aside0.mk H
            clear H
            go_wp2
            go_meet
            case rel => exact ⟨_, (true), (by first | rfl | (simp; done) | (simp [*]; done) | (simp [nil_bne]; done)), H', ⟨by have := HJ4.out; first | omega | exact Nat.le_refl _⟩, ⟨by (with_reducible repeat (first | refine blk_drewN ?_ _ | refine blk_drew ?_ | refine blk_alloc ?_ _)); refine blk_far ?_ NB379_380.out _; (with_reducible repeat (first | refine blk_drewN ?_ _ | refine blk_drew ?_ | refine blk_alloc ?_ _)); refine blk_far ?_ NB379_380.out _; (with_reducible repeat (first | refine blk_drewN ?_ _ | refine blk_drew ?_ | refine blk_alloc ?_ _)); refine blk_far ?_ NB379_380.out _; (with_reducible repeat (first | refine blk_drewN ?_ _ | refine blk_drew ?_ | refine blk_alloc ?_ _)); refine blk_far ?_ NB379_380.out _; (with_reducible repeat (first | refine blk_drewN ?_ _ | refine blk_drew ?_ | refine blk_alloc ?_ _)); refine blk_far ?_ NB379_380.out _; (with_reducible repeat (first | refine blk_drewN ?_ _ | refine blk_drew ?_ | refine blk_alloc ?_ _)); refine blk_put (cs := #[.int .u64 t383, .int .u64 t384, .int .u64 t385, .string t386, .string a0_4]) ?_ 4 _ rfl; (with_reducible repeat (first | refine blk_drewN ?_ _ | refine blk_drew ?_ | refine blk_alloc ?_ _)); refine blk_put (cs := #[.int .u64 t383, .int .u64 t384, .int .u64 t385, .string a0_3, .string a0_4]) ?_ 3 _ rfl; (with_reducible repeat (first | refine blk_drewN ?_ _ | refine blk_drew ?_ | refine blk_alloc ?_ _)); refine blk_put (cs := #[.int .u64 t383, .int .u64 t384, .int .u64 a0_2, .string a0_3, .string a0_4]) ?_ 2 _ rfl; (with_reducible repeat (first | refine blk_drewN ?_ _ | refine blk_drew ?_ | refine blk_alloc ?_ _)); refine blk_put (cs := #[.int .u64 t383, .int .u64 a0_1, .int .u64 a0_2, .string a0_3, .string a0_4]) ?_ 1 _ rfl; (with_reducible repeat (first | refine blk_drewN ?_ _ | refine blk_drew ?_ | refine blk_alloc ?_ _)); refine blk_put (cs := #[.int .u64 a0_0, .int .u64 a0_1, .int .u64 a0_2, .string a0_3, .string a0_4]) ?_ 0 _ rfl; (with_reducible repeat (first | refine blk_drewN ?_ _ | refine blk_drew ?_ | refine blk_alloc ?_ _)); exact BK379.out⟩, ⟨by (with_reducible repeat (first | refine blk_drewN ?_ _ | refine blk_drew ?_ | refine blk_alloc ?_ _)); refine blk_put (cs := #[.int .u64 t388, .int .u64 t389, .int .u64 t390, .string t391, .string a3_4]) ?_ 4 _ rfl; (with_reducible repeat (first | refine blk_drewN ?_ _ | refine blk_drew ?_ | refine blk_alloc ?_ _)); refine blk_put (cs := #[.int .u64 t388, .int .u64 t389, .int .u64 t390, .string a3_3, .string a3_4]) ?_ 3 _ rfl; (with_reducible repeat (first | refine blk_drewN ?_ _ | refine blk_drew ?_ | refine blk_alloc ?_ _)); refine blk_put (cs := #[.int .u64 t388, .int .u64 t389, .int .u64 a3_2, .string a3_3, .string a3_4]) ?_ 2 _ rfl; (with_reducible repeat (first | refine blk_drewN ?_ _ | refine blk_drew ?_ | refine blk_alloc ?_ _)); refine blk_put (cs := #[.int .u64 t388, .int .u64 a3_1, .int .u64 a3_2, .string a3_3, .string a3_4]) ?_ 1 _ rfl; (with_reducible repeat (first | refine blk_drewN ?_ _ | refine blk_drew ?_ | refine blk_alloc ?_ _)); refine blk_put (cs := #[.int .u64 a3_0, .int .u64 a3_1, .int .u64 a3_2, .string a3_3, .string a3_4]) ?_ 0 _ rfl; (with_reducible repeat (first | refine blk_drewN ?_ _ | refine blk_drew ?_ | refine blk_alloc ?_ _)); refine blk_far ?_ NB380_379.out _; (with_reducible repeat (first | refine blk_drewN ?_ _ | refine blk_drew ?_ | refine blk_alloc ?_ _)); refine blk_far ?_ NB380_379.out _; (with_reducible repeat (first | refine blk_drewN ?_ _ | refine blk_drew ?_ | refine blk_alloc ?_ _)); refine blk_far ?_ NB380_379.out _; (with_reducible repeat (first | refine blk_drewN ?_ _ | refine blk_drew ?_ | refine blk_alloc ?_ _)); refine blk_far ?_ NB380_379.out _; (with_reducible repeat (first | refine blk_drewN ?_ _ | refine blk_drew ?_ | refine blk_alloc ?_ _)); refine blk_far ?_ NB380_379.out _; (with_reducible repeat (first | refine blk_drewN ?_ _ | refine blk_drew ?_ | refine blk_alloc ?_ _)); exact BK380.out⟩, ⟨by repeat (first | (with_reducible first | exact HB.out | apply below_alloc | apply pw_below_drewN | apply below_drew1 | refine below_set ?_ GE379.out | refine below_set ?_ GE380.out) | exact HB.out)⟩⟩
        case rest =>
          clear HC21
          try clear c1
          try clear c2
          try clear p2
          try clear c3
          try clear c4
          try clear c9
          try clear c11
          try clear c12
          try clear c16
          try clear c17
          try clear c19
          try clear c22
          try clear c28
          try clear c29
          try clear c29b0
          try clear c29b1
          try clear c30
          try clear c30b0
          try clear c31
          try clear c31b0
          try clear c32
          try clear c32b0
          try clear c32b1
          try clear c34
          try clear hcz12_0
          try clear hcz12_1
          try clear hcz12_2
          try clear hcz12_3
          try clear hcz12_4
          try clear hcz14_0
          try clear hcz14_1
          try clear hcz14_2
          try clear hcz14_3
          try clear hcz14_4
          try clear hcz17_0
          try clear hcz17_1
          try clear hcz17_2
          try clear hcz17_3
          try clear hcz17_4
          try clear hcz23_0
          try clear hcz23_1
          try clear hcz23_2
          try clear hcz23_3
          try clear hcz23_4
          try clear hcz24_0
          try clear hcz24_1
          try clear hcz24_2
          try clear hcz24_3
          try clear hcz24_4
          try clear hcz26_0
          try clear hcz26_1
          try clear hcz26_2
          try clear hcz26_3
          try clear hcz26_4
          try clear hcz27_0
          try clear hcz27_1
          try clear hcz27_2
          try clear hcz27_3
          try clear hcz27_4
          try clear hcz35_0
          try clear hcz35_1
          try clear hcz35_2
          try clear hcz35_3
          try clear hcz35_4
          try clear hfz12_0
          try clear hfz12_1
          try clear hfz12_2
          try clear hfz12_3
          try clear hfz12_4
          try clear hfz14_0
          try clear hfz14_1
          try clear hfz14_2
          try clear hfz14_3
          try clear hfz14_4
          try clear hfz17_0
          try clear hfz17_1
          try clear hfz17_2
          try clear hfz17_3
          try clear hfz17_4
          try clear hfz23_0
          try clear hfz23_1
          try clear hfz23_2
          try clear hfz23_3
          try clear hfz23_4
          try clear hfz24_0
          try clear hfz24_1
          try clear hfz24_2
          try clear hfz24_3
          try clear hfz24_4
          try clear hfz26_0
          try clear hfz26_1
          try clear hfz26_2
          try clear hfz26_3
          try clear hfz26_4
          try clear hfz27_0
          try clear hfz27_1
          try clear hfz27_2
          try clear hfz27_3
          try clear hfz27_4
          try clear hfz35_0
          try clear hfz35_1
          try clear hfz35_2
          try clear hfz35_3
          try clear hfz35_4
          try clear p2
          obtain ⟨kq, x49_20, rfl, HA, HJ20, BK379, BK380, HB⟩ := hcut
          cases kq with
          | zero => exact absurd HA.out (by simp [laws_FnSemverTermFewer.j1])
          | succ kj20 =>
            have H := HA.out
            clear HA
            simp only [laws_FnSemverTermFewer.j1] at H
            by_cases c37 : x49_20 = true
            · subst c37
              have H1 : (some true) = some r := by rw [if_pos rfl] at H; exact H
              clear H
              have H := H1
              clear H1
              obtain rfl := Option.some.inj H
              go_wp2
              go_ret
              exact ⟨by first | rfl | (simp [errW_none, errW_some] <;> rfl) | (simp [*, errW_none, errW_some] <;> rfl), by repeat (first | (with_reducible first | exact HB.out | apply below_alloc | apply pw_below_drewN | apply below_drew1 | refine below_set ?_ GE379.out | refine below_set ?_ GE380.out) | exact HB.out)⟩
            · replace c37 := Bool.eq_false_iff.mpr c37
              subst c37
              have H1 : ((laws_stHolds.f kj20 a2 t383 t384 t385 t386 t387 a1 t388 t389 t390 t391 t392).bind fun t395 => ((laws_stHolds.f kj20 a2 t383 t384 t385 t386 t387 (wrap64 (a1 - 1)) t388 t389 t390 t391 t392).bind fun t396 => (if a2 = 1 then (laws_FnSemverTermFewer.j2 kj20 a1 t395 t396 (a2 == 1) t383 t384 t385 t386 t387) else (if a2 = 3 then (laws_FnSemverTermFewer.j2 kj20 a1 t395 t396 (a2 == 3) t383 t384 t385 t386 t387) else (laws_FnSemverTermFewer.j2 kj20 a1 t395 t396 (a2 == 2) t383 t384 t385 t386 t387))))) = some r := by rw [if_neg (show ¬ (false = true) by decide)] at H; exact H
              clear H
              have H := H1
              clear H1
              replace H := Option.bind_eq_some_iff.mp H
              obtain ⟨t395, A380, H⟩ := H
              replace H : ((laws_stHolds.f kj20 a2 t383 t384 t385 t386 t387 (wrap64 (a1 - 1)) t388 t389 t390 t391 t392).bind fun t396 => (if a2 = 1 then (laws_FnSemverTermFewer.j2 kj20 a1 t395 t396 (a2 == 1) t383 t384 t385 t386 t387) else (if a2 = 3 then (laws_FnSemverTermFewer.j2 kj20 a1 t395 t396 (a2 == 3) t383 t384 t385 t386 t387) else (laws_FnSemverTermFewer.j2 kj20 a1 t395 t396 (a2 == 2) t383 t384 t385 t386 t387)))) = some r := H
              have A38 := Aside0.mk A380
              clear A380
              replace H := Option.bind_eq_some_iff.mp H
              obtain ⟨t396, A390, H⟩ := H
              replace H : (if a2 = 1 then (laws_FnSemverTermFewer.j2 kj20 a1 t395 t396 (a2 == 1) t383 t384 t385 t386 t387) else (if a2 = 3 then (laws_FnSemverTermFewer.j2 kj20 a1 t395 t396 (a2 == 3) t383 t384 t385 t386 t387) else (laws_FnSemverTermFewer.j2 kj20 a1 t395 t396 (a2 == 2) t383 t384 t385 t386 t387))) = some r := H
              have A39 := Aside0.mk A390
              clear A390
              have HC40 := Aside0.mk H
              clear H
              try go_wp2
              have n0_ := Aside0.mk (blk_drew BK379.out)
              have n1_ := Aside0.mk (blk_drew BK380.out)
              have n2_ := Aside0.mk (below_drew1 HB.out)
              clear BK379
              clear BK380
              clear HB
              have BK379 := n0_
              have BK380 := n1_
              have HB := n2_
              clear n0_ n1_ n2_
              refine start_ (n := 13) (S := fun w' => w'.cell? ⟨gb379, 0, none⟩ = some (.int .u64 t383) ∧ w'.cell? ⟨gb379, 1, none⟩ = some (.int .u64 t384) ∧ w'.cell? ⟨gb379, 2, none⟩ = some (.int .u64 t385) ∧ w'.cell? ⟨gb379, 3, none⟩ = some (.string t386) ∧ w'.cell? ⟨gb379, 4, none⟩ = some (.string t387) ∧ w'.cell? ⟨gb380, 0, none⟩ = some (.int .u64 t388) ∧ w'.cell? ⟨gb380, 1, none⟩ = some (.int .u64 t389) ∧ w'.cell? ⟨gb380, 2, none⟩ = some (.int .u64 t390) ∧ w'.cell? ⟨gb380, 3, none⟩ = some (.string t391) ∧ w'.cell? ⟨gb380, 4, none⟩ = some (.string t392)) (ds := []) #[false, false, false, false, false, false, false, false, false, false, false, false, false] (by kernel_rfl) rfl rfl ⟨(blk_cell BK379.out 0).trans rfl, (blk_cell BK379.out 1).trans rfl, (blk_cell BK379.out 2).trans rfl, (blk_cell BK379.out 3).trans rfl, (blk_cell BK379.out 4).trans rfl, (blk_cell BK380.out 0).trans rfl, (blk_cell BK380.out 1).trans rfl, (blk_cell BK380.out 2).trans rfl, (blk_cell BK380.out 3).trans rfl, (blk_cell BK380.out 4).trans rfl⟩ (fun hHeld => ?_); refine with_tabW laws_FnSemverTermFewer.tab6 laws_FnSemverTermFewer.bits6 (fun HT_ HW_ => ?_)
              generalize wc.drew = w41 at BK379 BK380 HB hHeld ⊢
              refine pure_ (i := 0) (N := some 50) (v := ?_) (a' := ?_) #[true, false, false, false, false, false, false, false, false, false, false, false, false] rfl rfl (any_of HT_.out (by kernel_rfl)) (fun _ _ _ h => h) (Or.inl ⟨by rfl, ?_⟩) ?_ ?_
              rotate_left
              · intro w'
                go_simp
                with_reducible rfl
              rotate_left
              · simp only [Act.put, List.setIfInBounds_toArray, List.set_cons_zero, List.set_cons_succ, i64_w, i32_w]
                rfl
              refine pure_ (i := 2) (N := some 52) (v := ?_) (a' := ?_) #[true, false, true, false, false, false, false, false, false, false, false, false, false] rfl rfl (any_of HT_.out (by kernel_rfl)) (fun _ _ _ h => h) (Or.inl ⟨by rfl, ?_⟩) ?_ ?_
              rotate_left
              · intro w'
                go_simp
                with_reducible rfl
              rotate_left
              · simp only [Act.put, List.setIfInBounds_toArray, List.set_cons_zero, List.set_cons_succ, i64_w, i32_w]
                rfl
              refine pure_ (i := 5) (N := some 55) (v := ?_) (a' := ?_) #[true, false, true, false, false, true, false, false, false, false, false, false, false] rfl rfl (any_of HT_.out (by kernel_rfl)) (fun _ _ _ h => h) (Or.inl ⟨by rfl, ?_⟩) ?_ ?_
              rotate_left
              · intro w'
                go_simp
                with_reducible rfl
              rotate_left
              · simp only [Act.put, List.setIfInBounds_toArray, List.set_cons_zero, List.set_cons_succ, i64_w, i32_w]
                rfl
              refine pure_ (i := 7) (N := some 57) (v := ?_) (a' := ?_) #[true, false, true, false, false, true, false, true, false, false, false, false, false] rfl rfl (any_of HT_.out (by kernel_rfl)) (fun _ _ _ h => h) (Or.inl ⟨by rfl, ?_⟩) ?_ ?_
              rotate_left
              · intro w'
                go_simp
                with_reducible rfl
              rotate_left
              · simp only [Act.put, List.setIfInBounds_toArray, List.set_cons_zero, List.set_cons_succ, i64_w, i32_w]
                rfl
              refine pure_ (i := 8) (N := some 58) (v := ?_) (a' := ?_) #[true, false, true, false, false, true, false, true, true, false, false, false, false] rfl rfl (any_of HT_.out (by kernel_rfl)) (fun _ _ _ h => h) (Or.inl ⟨by rfl, ?_⟩) ?_ ?_
              rotate_left
              · intro w'
                go_simp
                with_reducible rfl
              rotate_left
              · simp only [Act.put, List.setIfInBounds_toArray, List.set_cons_zero, List.set_cons_succ, i64_w, i32_w]
                rfl
              refine take_ (i := 1) (N := some 51) (v := ?_) (a' := ?_) #[true, true, true, false, false, true, false, true, true, false, false, false, false] rfl rfl (take_ofW HT_.out HW_.out (by kernel_rfl)) (fun _ _ _ h => h) (Or.inl ⟨by rfl, ?_⟩) hHeld ?_ ?_
              rotate_left
              · rintro w' ⟨s0, s1, s2, s3, s4, s5, s6, s7, s8, s9⟩
                go_simp
                with_reducible rfl
              rotate_left
              · simp only [Act.put, List.setIfInBounds_toArray, List.set_cons_zero, List.set_cons_succ, i64_w, i32_w]
                rfl
              refine take_ (i := 3) (N := some 53) (v := ?_) (a' := ?_) #[true, true, true, true, false, true, false, true, true, false, false, false, false] rfl rfl (take_ofW HT_.out HW_.out (by kernel_rfl)) (fun _ _ _ h => h) (Or.inl ⟨by rfl, ?_⟩) hHeld ?_ ?_
              rotate_left
              · rintro w' ⟨s0, s1, s2, s3, s4, s5, s6, s7, s8, s9⟩
                go_simp
                with_reducible rfl
              rotate_left
              · simp only [Act.put, List.setIfInBounds_toArray, List.set_cons_zero, List.set_cons_succ, i64_w, i32_w]
                rfl
              refine take_ (i := 6) (N := some 56) (v := ?_) (a' := ?_) #[true, true, true, true, false, true, true, true, true, false, false, false, false] rfl rfl (take_ofW HT_.out HW_.out (by kernel_rfl)) (fun _ _ _ h => h) (Or.inl ⟨by rfl, ?_⟩) hHeld ?_ ?_
              rotate_left
              · rintro w' ⟨s0, s1, s2, s3, s4, s5, s6, s7, s8, s9⟩
                go_simp
                with_reducible rfl
              rotate_left
              · simp only [Act.put, List.setIfInBounds_toArray, List.set_cons_zero, List.set_cons_succ, i64_w, i32_w]
                rfl
              refine take_ (i := 9) (N := some 59) (v := ?_) (a' := ?_) #[true, true, true, true, false, true, true, true, true, true, false, false, false] rfl rfl (take_ofW HT_.out HW_.out (by kernel_rfl)) (fun _ _ _ h => h) (Or.inl ⟨by rfl, ?_⟩) hHeld ?_ ?_
              rotate_left
              · rintro w' ⟨s0, s1, s2, s3, s4, s5, s6, s7, s8, s9⟩
                go_simp
                with_reducible rfl
              rotate_left
              · simp only [Act.put, List.setIfInBounds_toArray, List.set_cons_zero, List.set_cons_succ, i64_w, i32_w]
                rfl
              refine one_ (i := 4) (N := some 54) #[true, true, true, true, true, true, true, true, true, true, false, false, false] rfl rfl (one_of HT_.out (by kernel_rfl)) (by decide) (fun K hK => ?_)
              refine goes_ Tryd.func51 (by kernel_rfl) rfl #[.int .i64 a2, .agg #[.int .u64 t383, .int .u64 t384, .int .u64 t385, .string t386, .string t387], .int .i64 a1, .agg #[.int .u64 t388, .int .u64 t389, .int .u64 t390, .string t391, .string t392]] (by rfl) rfl rfl (by (try simp only [List.map_toArray, List.map_cons, List.map_nil]); first | done | rfl | (simp only [List.length_drop, List.length_take]; rfl)) ?_
              with_reducible refine (laws_stHolds.calls kj20 a2 t383 t384 t385 t386 t387 a1 t388 t389 t390 t391 t392 t395 _ ?side1 A38.out).mono ?_
              (case side1 => exact globE_below HGE.out (by repeat (first | (with_reducible first | exact HB.out | apply below_alloc | apply pw_below_drewN | apply below_drew1 | refine below_set ?_ GE379.out | refine below_set ?_ GE380.out) | exact HB.out)))
              rintro e w42 ⟨rfl, hb⟩
              refine ⟨_, rfl, ?_⟩
              have n0_ := Aside0.mk (blk_below (g := gb379) (o := .cells #[.int .u64 t383, .int .u64 t384, .int .u64 t385, .string t386, .string t387] 24 (0, 0)) (by (with_reducible repeat (first | refine blk_drewN ?_ _ | refine blk_drew ?_ | refine blk_alloc ?_ _)); exact BK379.out) hb)
              have n1_ := Aside0.mk (blk_below (g := gb380) (o := .cells #[.int .u64 t388, .int .u64 t389, .int .u64 t390, .string t391, .string t392] 24 (0, 0)) (by (with_reducible repeat (first | refine blk_drewN ?_ _ | refine blk_drew ?_ | refine blk_alloc ?_ _)); exact BK380.out) hb)
              have n2_ := Aside0.mk (below_step (by repeat (first | (with_reducible first | exact HB.out | apply below_alloc | apply pw_below_drewN | apply below_drew1 | refine below_set ?_ GE379.out | refine below_set ?_ GE380.out) | exact HB.out)) hb)
              clear BK379
              clear BK380
              clear HB
              have BK379 := n0_
              have BK380 := n1_
              have HB := n2_
              clear n0_ n1_ n2_
              (try clear hb)
              (try clear hb2)
              (try clear hk)
              (try clear hi)
              refine hK.out _ _ ⟨(blk_cell BK379.out 0).trans rfl, (blk_cell BK379.out 1).trans rfl, (blk_cell BK379.out 2).trans rfl, (blk_cell BK379.out 3).trans rfl, (blk_cell BK379.out 4).trans rfl, (blk_cell BK380.out 0).trans rfl, (blk_cell BK380.out 1).trans rfl, (blk_cell BK380.out 2).trans rfl, (blk_cell BK380.out 3).trans rfl, (blk_cell BK380.out 4).trans rfl⟩ (fun hHeld => ?_)
              clear hK K
              refine norm_ (a' := ?_) ?_ ?_
              rotate_left
              · show Act.put _ (some 54) _ = _
                simp only [Act.put, List.setIfInBounds_toArray, List.set_cons_zero, List.set_cons_succ, i64_w, i32_w]
                rfl
              refine one_ (i := 10) (N := some 60) #[true, true, true, true, true, true, true, true, true, true, true, false, false] rfl rfl (one_of HT_.out (by kernel_rfl)) (by decide) (fun K hK => ?_)
              refine goes_ Tryd.func51 (by kernel_rfl) rfl #[.int .i64 a2, .agg #[.int .u64 t383, .int .u64 t384, .int .u64 t385, .string t386, .string t387], .int .i64 (wrap64 (a1 - 1)), .agg #[.int .u64 t388, .int .u64 t389, .int .u64 t390, .string t391, .string t392]] (by rfl) rfl rfl (by (try simp only [List.map_toArray, List.map_cons, List.map_nil]); first | done | rfl | (simp only [List.length_drop, List.length_take]; rfl)) ?_
              with_reducible refine (laws_stHolds.calls kj20 a2 t383 t384 t385 t386 t387 (wrap64 (a1 - 1)) t388 t389 t390 t391 t392 t396 _ ?side1 A39.out).mono ?_
              (case side1 => exact globE_below HGE.out (by repeat (first | (with_reducible first | exact HB.out | apply below_alloc | apply pw_below_drewN | apply below_drew1 | refine below_set ?_ GE379.out | refine below_set ?_ GE380.out) | exact HB.out)))
              rintro e w43 ⟨rfl, hb⟩
              refine ⟨_, rfl, ?_⟩
              have n0_ := Aside0.mk (blk_below (g := gb379) (o := .cells #[.int .u64 t383, .int .u64 t384, .int .u64 t385, .string t386, .string t387] 24 (0, 0)) (by (with_reducible repeat (first | refine blk_drewN ?_ _ | refine blk_drew ?_ | refine blk_alloc ?_ _)); exact BK379.out) hb)
              have n1_ := Aside0.mk (blk_below (g := gb380) (o := .cells #[.int .u64 t388, .int .u64 t389, .int .u64 t390, .string t391, .string t392] 24 (0, 0)) (by (with_reducible repeat (first | refine blk_drewN ?_ _ | refine blk_drew ?_ | refine blk_alloc ?_ _)); exact BK380.out) hb)
              have n2_ := Aside0.mk (below_step (by repeat (first | (with_reducible first | exact HB.out | apply below_alloc | apply pw_below_drewN | apply below_drew1 | refine below_set ?_ GE379.out | refine below_set ?_ GE380.out) | exact HB.out)) hb)
              clear BK379
              clear BK380
              clear HB
              have BK379 := n0_
              have BK380 := n1_
              have HB := n2_
              clear n0_ n1_ n2_
              (try clear hb)
              (try clear hb2)
              (try clear hk)
              (try clear hi)
              refine hK.out _ _ ⟨(blk_cell BK379.out 0).trans rfl, (blk_cell BK379.out 1).trans rfl, (blk_cell BK379.out 2).trans rfl, (blk_cell BK379.out 3).trans rfl, (blk_cell BK379.out 4).trans rfl, (blk_cell BK380.out 0).trans rfl, (blk_cell BK380.out 1).trans rfl, (blk_cell BK380.out 2).trans rfl, (blk_cell BK380.out 3).trans rfl, (blk_cell BK380.out 4).trans rfl⟩ (fun hHeld => ?_)
              clear hK K
              refine norm_ (a' := ?_) ?_ ?_
              rotate_left
              · show Act.put _ (some 60) _ = _
                simp only [Act.put, List.setIfInBounds_toArray, List.set_cons_zero, List.set_cons_succ, i64_w, i32_w]
                rfl
              refine pure_ (i := 11) (N := some 10) (v := ?_) (a' := ?_) #[true, true, true, true, true, true, true, true, true, true, true, true, false] rfl rfl (any_of HT_.out (by kernel_rfl)) (fun _ _ _ h => h) (Or.inl ⟨by rfl, ?_⟩) ?_ ?_
              rotate_left
              · intro w'
                go_simp
                with_reducible rfl
              rotate_left
              · simp only [Act.put, List.setIfInBounds_toArray, List.set_cons_zero, List.set_cons_succ, i64_w, i32_w]
                rfl
              refine pure_ (i := 12) (N := some 11) (v := ?_) (a' := ?_) #[true, true, true, true, true, true, true, true, true, true, true, true, true] rfl rfl (any_of HT_.out (by kernel_rfl)) (fun _ _ _ h => h) (Or.inl ⟨by rfl, ?_⟩) ?_ ?_
              rotate_left
              · intro w'
                go_simp
                with_reducible rfl
              rotate_left
              · simp only [Act.put, List.setIfInBounds_toArray, List.set_cons_zero, List.set_cons_succ, i64_w, i32_w]
                rfl
              refine done_ (done_of HT_.out (by kernel_rfl)) ?_
              go_upto_if 62 with (fail)
              go_cut [62] (fun v62 wc => ∃ (kq : Nat) (x62_39 : Bool), v62 = .bool x62_39 ∧ Aside0 (laws_FnSemverTermFewer.j2 kq a1 t395 t396 x62_39 t383 t384 t385 t386 t387 = some r) ∧ Aside0 (kq ≤ kj20) ∧ Aside0 (wc.heap[gb379]? = some (.cells #[.int .u64 t383, .int .u64 t384, .int .u64 t385, .string t386, .string t387] 24 (0, 0))) ∧ Aside0 (wc.heap[gb380]? = some (.cells #[.int .u64 t388, .int .u64 t389, .int .u64 t390, .string t391, .string t392] 24 (0, 0))) ∧ Aside0 (Below w.heap.size w wc))
              case first =>
                have H := HC40.out
                clear HC40
                by_cases c44 : a2 = 1
                · rw [if_pos c44] at H
                  have c44b0 : (a2 == 1) = true := beq_iff_eq.mpr c44
                  have c44b1 : (a2 != 1) = false := bne_eq_false_iff_eq.mpr c44
                  clear c44
                  (first | rw [c44b0] | (simp only [i64_w, i32_w]; rw [c44b0]) | rw [c44b1] | skip)
                  have H' := Aside0.mk H
                  clear H
                  go_wp2
                  go_meet
                  case rel => exact ⟨_, ((a2 == 1)), (by first | rfl | (simp; done) | (simp [*]; done) | (simp [nil_bne]; done)), H', ⟨by have := HJ4.out; have := HJ20.out; first | omega | exact Nat.le_refl _⟩, ⟨by (with_reducible repeat (first | refine blk_drewN ?_ _ | refine blk_drew ?_ | refine blk_alloc ?_ _)); exact BK379.out⟩, ⟨by (with_reducible repeat (first | refine blk_drewN ?_ _ | refine blk_drew ?_ | refine blk_alloc ?_ _)); exact BK380.out⟩, ⟨by repeat (first | (with_reducible first | exact HB.out | apply below_alloc | apply pw_below_drewN | apply below_drew1 | refine below_set ?_ GE379.out | refine below_set ?_ GE380.out) | exact HB.out)⟩⟩
                · rw [if_neg c44] at H
                  have c44b0 : (a2 == 1) = false := beq_eq_false_iff_ne.mpr c44
                  have c44b1 : (a2 != 1) = true := bne_iff_ne.mpr c44
                  (first | rw [c44b0] | (simp only [i64_w, i32_w]; rw [c44b0]) | rw [c44b1] | skip)
                  by_cases c45 : a2 = 3
                  · rw [if_pos c45] at H
                    have c45b0 : (a2 == 3) = true := beq_iff_eq.mpr c45
                    have c45b1 : (a2 != 3) = false := bne_eq_false_iff_eq.mpr c45
                    clear c45
                    have H' := Aside0.mk H
                    clear H
                    go_wp2
                    go_meet
                    case rel => exact ⟨_, ((a2 == 3)), (by first | rfl | (simp; done) | (simp [*]; done) | (simp [nil_bne]; done)), H', ⟨by have := HJ4.out; have := HJ20.out; first | omega | exact Nat.le_refl _⟩, ⟨by (with_reducible repeat (first | refine blk_drewN ?_ _ | refine blk_drew ?_ | refine blk_alloc ?_ _)); exact BK379.out⟩, ⟨by (with_reducible repeat (first | refine blk_drewN ?_ _ | refine blk_drew ?_ | refine blk_alloc ?_ _)); exact BK380.out⟩, ⟨by repeat (first | (with_reducible first | exact HB.out | apply below_alloc | apply pw_below_drewN | apply below_drew1 | refine below_set ?_ GE379.out | refine below_set ?_ GE380.out) | exact HB.out)⟩⟩
                  · rw [if_neg c45] at H
                    have c45b0 : (a2 == 3) = false := beq_eq_false_iff_ne.mpr c45
                    have c45b1 : (a2 != 3) = true := bne_iff_ne.mpr c45
                    have H' := Aside0.mk H
                    clear H
                    go_wp2
                    go_meet
                    case rel => exact ⟨_, ((a2 == 2)), (by first | rfl | (simp; done) | (simp [*]; done) | (simp [nil_bne]; done)), H', ⟨by have := HJ4.out; have := HJ20.out; first | omega | exact Nat.le_refl _⟩, ⟨by (with_reducible repeat (first | refine blk_drewN ?_ _ | refine blk_drew ?_ | refine blk_alloc ?_ _)); exact BK379.out⟩, ⟨by (with_reducible repeat (first | refine blk_drewN ?_ _ | refine blk_drew ?_ | refine blk_alloc ?_ _)); exact BK380.out⟩, ⟨by repeat (first | (with_reducible first | exact HB.out | apply below_alloc | apply pw_below_drewN | apply below_drew1 | refine below_set ?_ GE379.out | refine below_set ?_ GE380.out) | exact HB.out)⟩⟩
              case rest =>
                clear HC40
                try clear c1
                try clear c2
                try clear p2
                try clear c3
                try clear c4
                try clear c5
                try clear p6
                try clear c9
                try clear c11
                try clear c12
                try clear c16
                try clear c17
                try clear c19
                try clear c22
                try clear c28
                try clear c29
                try clear c29b0
                try clear c29b1
                try clear c30
                try clear c30b0
                try clear c31
                try clear c31b0
                try clear c32
                try clear c32b0
                try clear c32b1
                try clear c34
                try clear c37
                try clear c40
                try clear c44
                try clear c44b0
                try clear c44b1
                try clear c45
                try clear c45b0
                try clear c45b1
                try clear hcz12_0
                try clear hcz12_1
                try clear hcz12_2
                try clear hcz12_3
                try clear hcz12_4
                try clear hcz14_0
                try clear hcz14_1
                try clear hcz14_2
                try clear hcz14_3
                try clear hcz14_4
                try clear hcz17_0
                try clear hcz17_1
                try clear hcz17_2
                try clear hcz17_3
                try clear hcz17_4
                try clear hcz23_0
                try clear hcz23_1
                try clear hcz23_2
                try clear hcz23_3
                try clear hcz23_4
                try clear hcz24_0
                try clear hcz24_1
                try clear hcz24_2
                try clear hcz24_3
                try clear hcz24_4
                try clear hcz26_0
                try clear hcz26_1
                try clear hcz26_2
                try clear hcz26_3
                try clear hcz26_4
                try clear hcz27_0
                try clear hcz27_1
                try clear hcz27_2
                try clear hcz27_3
                try clear hcz27_4
                try clear hcz35_0
                try clear hcz35_1
                try clear hcz35_2
                try clear hcz35_3
                try clear hcz35_4
                try clear hfz12_0
                try clear hfz12_1
                try clear hfz12_2
                try clear hfz12_3
                try clear hfz12_4
                try clear hfz14_0
                try clear hfz14_1
                try clear hfz14_2
                try clear hfz14_3
                try clear hfz14_4
                try clear hfz17_0
                try clear hfz17_1
                try clear hfz17_2
                try clear hfz17_3
                try clear hfz17_4
                try clear hfz23_0
                try clear hfz23_1
                try clear hfz23_2
                try clear hfz23_3
                try clear hfz23_4
                try clear hfz24_0
                try clear hfz24_1
                try clear hfz24_2
                try clear hfz24_3
                try clear hfz24_4
                try clear hfz26_0
                try clear hfz26_1
                try clear hfz26_2
                try clear hfz26_3
                try clear hfz26_4
                try clear hfz27_0
                try clear hfz27_1
                try clear hfz27_2
                try clear hfz27_3
                try clear hfz27_4
                try clear hfz35_0
                try clear hfz35_1
                try clear hfz35_2
                try clear hfz35_3
                try clear hfz35_4
                try clear p2
                obtain ⟨kq, x62_39, rfl, HA, HJ39, BK379, BK380, HB⟩ := hcut
                cases kq with
                | zero => exact absurd HA.out (by simp [laws_FnSemverTermFewer.j2])
                | succ kj39 =>
                  have H := HA.out
                  clear HA
                  simp only [laws_FnSemverTermFewer.j2] at H
                  by_cases c46 : x62_39 = true
                  · subst c46
                    have H1 : (if t396 = true then (if t395 = true then ((laws_stHolds.f kj39 5 t383 t384 t385 t386 t387 a1 t383 t384 t385 t386 t387).bind fun t397 => (if t397 = true then ((laws_stHolds.f kj39 5 t383 t384 t385 t386 t387 (wrap64 (a1 - 1)) t383 t384 t385 t386 t387).bind fun t398 => (some t398)) else (some false))) else (some false)) else ((laws_stHolds.f kj39 5 t383 t384 t385 t386 t387 a1 t383 t384 t385 t386 t387).bind fun t399 => (if t399 = true then ((laws_stHolds.f kj39 5 t383 t384 t385 t386 t387 (wrap64 (a1 - 1)) t383 t384 t385 t386 t387).bind fun t400 => (some t400)) else (some false)))) = some r := by rw [if_pos rfl] at H; exact H
                    clear H
                    have H := H1
                    clear H1
                    by_cases c47 : t396 = true
                    · subst c47
                      have H1 : (if t395 = true then ((laws_stHolds.f kj39 5 t383 t384 t385 t386 t387 a1 t383 t384 t385 t386 t387).bind fun t397 => (if t397 = true then ((laws_stHolds.f kj39 5 t383 t384 t385 t386 t387 (wrap64 (a1 - 1)) t383 t384 t385 t386 t387).bind fun t398 => (some t398)) else (some false))) else (some false)) = some r := by rw [if_pos rfl] at H; exact H
                      clear H
                      have H := H1
                      clear H1
                      by_cases c48 : t395 = true
                      · subst c48
                        have H1 : ((laws_stHolds.f kj39 5 t383 t384 t385 t386 t387 a1 t383 t384 t385 t386 t387).bind fun t397 => (if t397 = true then ((laws_stHolds.f kj39 5 t383 t384 t385 t386 t387 (wrap64 (a1 - 1)) t383 t384 t385 t386 t387).bind fun t398 => (some t398)) else (some false))) = some r := by rw [if_pos rfl] at H; exact H
                        clear H
                        have H := H1
                        clear H1
                        replace H := Option.bind_eq_some_iff.mp H
                        obtain ⟨t397, A490, H⟩ := H
                        replace H : (if t397 = true then ((laws_stHolds.f kj39 5 t383 t384 t385 t386 t387 (wrap64 (a1 - 1)) t383 t384 t385 t386 t387).bind fun t398 => (some t398)) else (some false)) = some r := H
                        have A49 := Aside0.mk A490
                        clear A490
                        by_cases c50 : t397 = true
                        · subst c50
                          have H1 : ((laws_stHolds.f kj39 5 t383 t384 t385 t386 t387 (wrap64 (a1 - 1)) t383 t384 t385 t386 t387).bind fun t398 => (some t398)) = some r := by rw [if_pos rfl] at H; exact H
                          clear H
                          have H := H1
                          clear H1
                          replace H := Option.bind_eq_some_iff.mp H
                          obtain ⟨t398, A510, H⟩ := H
                          replace H : (some t398) = some r := H
                          have A51 := Aside0.mk A510
                          clear A510
                          obtain rfl := Option.some.inj H
                          have hnb52 := NB379_380.out
                          have hnc52 := NB380_379.out
                          have hcz53_0 : wc.cell? ⟨gb379, 0, none⟩ = some (.int .u64 t383) := (blk_cell BK379.out 0).trans rfl
                          have hcz53_1 : wc.cell? ⟨gb379, 1, none⟩ = some (.int .u64 t384) := (blk_cell BK379.out 1).trans rfl
                          have hcz53_2 : wc.cell? ⟨gb379, 2, none⟩ = some (.int .u64 t385) := (blk_cell BK379.out 2).trans rfl
                          have hcz53_3 : wc.cell? ⟨gb379, 3, none⟩ = some (.string t386) := (blk_cell BK379.out 3).trans rfl
                          have hcz53_4 : wc.cell? ⟨gb379, 4, none⟩ = some (.string t387) := (blk_cell BK379.out 4).trans rfl
                          have hfz53_0 := blk_frozen BK379.out 0
                          have hfz53_1 := blk_frozen BK379.out 1
                          have hfz53_2 := blk_frozen BK379.out 2
                          have hfz53_3 := blk_frozen BK379.out 3
                          have hfz53_4 := blk_frozen BK379.out 4
                          go_wp2_with (first | (go_at_call 51; (with_reducible refine (laws_stHolds.calls kj39 5 t383 t384 t385 t386 t387 a1 t383 t384 t385 t386 t387 true _ ?side1 A49.out).mono ?_); (case side1 => exact globE_below HGE.out (by repeat (first | (with_reducible first | exact HB.out | apply below_alloc | apply pw_below_drewN | apply below_drew1 | refine below_set ?_ GE379.out | refine below_set ?_ GE380.out) | exact HB.out))); rintro e w54 ⟨rfl, hb⟩; have n0_ := Aside0.mk (blk_below (g := gb379) (o := .cells #[.int .u64 t383, .int .u64 t384, .int .u64 t385, .string t386, .string t387] 24 (0, 0)) (by (with_reducible repeat (first | refine blk_drewN ?_ _ | refine blk_drew ?_ | refine blk_alloc ?_ _)); exact BK379.out) hb); have n1_ := Aside0.mk (blk_below (g := gb380) (o := .cells #[.int .u64 t388, .int .u64 t389, .int .u64 t390, .string t391, .string t392] 24 (0, 0)) (by (with_reducible repeat (first | refine blk_drewN ?_ _ | refine blk_drew ?_ | refine blk_alloc ?_ _)); exact BK380.out) hb); have n2_ := Aside0.mk (below_step (by repeat (first | (with_reducible first | exact HB.out | apply below_alloc | apply pw_below_drewN | apply below_drew1 | refine below_set ?_ GE379.out | refine below_set ?_ GE380.out) | exact HB.out)) hb); clear BK379; clear BK380; clear HB; have BK379 := n0_; have BK380 := n1_; have HB := n2_; clear n0_ n1_ n2_; (try clear hb); (try clear hb2); (try clear hk); (try clear hi); have hcz55_0 : w54.cell? ⟨gb379, 0, none⟩ = some (.int .u64 t383) := (blk_cell BK379.out 0).trans rfl; have hcz55_1 : w54.cell? ⟨gb379, 1, none⟩ = some (.int .u64 t384) := (blk_cell BK379.out 1).trans rfl; have hcz55_2 : w54.cell? ⟨gb379, 2, none⟩ = some (.int .u64 t385) := (blk_cell BK379.out 2).trans rfl; have hcz55_3 : w54.cell? ⟨gb379, 3, none⟩ = some (.string t386) := (blk_cell BK379.out 3).trans rfl; have hcz55_4 : w54.cell? ⟨gb379, 4, none⟩ = some (.string t387) := (blk_cell BK379.out 4).trans rfl; have hfz55_0 := blk_frozen BK379.out 0; have hfz55_1 := blk_frozen BK379.out 1; have hfz55_2 := blk_frozen BK379.out 2; have hfz55_3 := blk_frozen BK379.out 3; have hfz55_4 := blk_frozen BK379.out 4) | (go_at_call 51; (with_reducible refine (laws_stHolds.calls kj39 5 t383 t384 t385 t386 t387 (wrap64 (a1 - 1)) t383 t384 t385 t386 t387 t398 _ ?side1 A51.out).mono ?_); (case side1 => exact globE_below HGE.out (by repeat (first | (with_reducible first | exact HB.out | apply below_alloc | apply pw_below_drewN | apply below_drew1 | refine below_set ?_ GE379.out | refine below_set ?_ GE380.out) | exact HB.out))); rintro e w56 ⟨rfl, hb⟩; have n0_ := Aside0.mk (blk_below (g := gb379) (o := .cells #[.int .u64 t383, .int .u64 t384, .int .u64 t385, .string t386, .string t387] 24 (0, 0)) (by (with_reducible repeat (first | refine blk_drewN ?_ _ | refine blk_drew ?_ | refine blk_alloc ?_ _)); exact BK379.out) hb); have n1_ := Aside0.mk (blk_below (g := gb380) (o := .cells #[.int .u64 t388, .int .u64 t389, .int .u64 t390, .string t391, .string t392] 24 (0, 0)) (by (with_reducible repeat (first | refine blk_drewN ?_ _ | refine blk_drew ?_ | refine blk_alloc ?_ _)); exact BK380.out) hb); have n2_ := Aside0.mk (below_step (by repeat (first | (with_reducible first | exact HB.out | apply below_alloc | apply pw_below_drewN | apply below_drew1 | refine below_set ?_ GE379.out | refine below_set ?_ GE380.out) | exact HB.out)) hb); clear BK379; clear BK380; clear HB; have BK379 := n0_; have BK380 := n1_; have HB := n2_; clear n0_ n1_ n2_; (try clear hb); (try clear hb2); (try clear hk); (try clear hi)))
                          go_ret
                          exact ⟨by first | rfl | (simp [errW_none, errW_some] <;> rfl) | (simp [*, errW_none, errW_some] <;> rfl), by repeat (first | (with_reducible first | exact HB.out | apply below_alloc | apply pw_below_drewN | apply below_drew1 | refine below_set ?_ GE379.out | refine below_set ?_ GE380.out) | exact HB.out)⟩
                        · replace c50 := Bool.eq_false_iff.mpr c50
                          subst c50
                          have H1 : (some false) = some r := by rw [if_neg (show ¬ (false = true) by decide)] at H; exact H
                          clear H
                          have H := H1
                          clear H1
                          obtain rfl := Option.some.inj H
                          have hnb57 := NB379_380.out
                          have hnc57 := NB380_379.out
                          have hcz58_0 : wc.cell? ⟨gb379, 0, none⟩ = some (.int .u64 t383) := (blk_cell BK379.out 0).trans rfl
                          have hcz58_1 : wc.cell? ⟨gb379, 1, none⟩ = some (.int .u64 t384) := (blk_cell BK379.out 1).trans rfl
                          have hcz58_2 : wc.cell? ⟨gb379, 2, none⟩ = some (.int .u64 t385) := (blk_cell BK379.out 2).trans rfl
                          have hcz58_3 : wc.cell? ⟨gb379, 3, none⟩ = some (.string t386) := (blk_cell BK379.out 3).trans rfl
                          have hcz58_4 : wc.cell? ⟨gb379, 4, none⟩ = some (.string t387) := (blk_cell BK379.out 4).trans rfl
                          have hfz58_0 := blk_frozen BK379.out 0
                          have hfz58_1 := blk_frozen BK379.out 1
                          have hfz58_2 := blk_frozen BK379.out 2
                          have hfz58_3 := blk_frozen BK379.out 3
                          have hfz58_4 := blk_frozen BK379.out 4
                          go_wp2_with (first | (go_at_call 51; (with_reducible refine (laws_stHolds.calls kj39 5 t383 t384 t385 t386 t387 a1 t383 t384 t385 t386 t387 false _ ?side1 A49.out).mono ?_); (case side1 => exact globE_below HGE.out (by repeat (first | (with_reducible first | exact HB.out | apply below_alloc | apply pw_below_drewN | apply below_drew1 | refine below_set ?_ GE379.out | refine below_set ?_ GE380.out) | exact HB.out))); rintro e w59 ⟨rfl, hb⟩; have n0_ := Aside0.mk (blk_below (g := gb379) (o := .cells #[.int .u64 t383, .int .u64 t384, .int .u64 t385, .string t386, .string t387] 24 (0, 0)) (by (with_reducible repeat (first | refine blk_drewN ?_ _ | refine blk_drew ?_ | refine blk_alloc ?_ _)); exact BK379.out) hb); have n1_ := Aside0.mk (blk_below (g := gb380) (o := .cells #[.int .u64 t388, .int .u64 t389, .int .u64 t390, .string t391, .string t392] 24 (0, 0)) (by (with_reducible repeat (first | refine blk_drewN ?_ _ | refine blk_drew ?_ | refine blk_alloc ?_ _)); exact BK380.out) hb); have n2_ := Aside0.mk (below_step (by repeat (first | (with_reducible first | exact HB.out | apply below_alloc | apply pw_below_drewN | apply below_drew1 | refine below_set ?_ GE379.out | refine below_set ?_ GE380.out) | exact HB.out)) hb); clear BK379; clear BK380; clear HB; have BK379 := n0_; have BK380 := n1_; have HB := n2_; clear n0_ n1_ n2_; (try clear hb); (try clear hb2); (try clear hk); (try clear hi)))
                          go_ret
                          exact ⟨by first | rfl | (simp [errW_none, errW_some] <;> rfl) | (simp [*, errW_none, errW_some] <;> rfl), by repeat (first | (with_reducible first | exact HB.out | apply below_alloc | apply pw_below_drewN | apply below_drew1 | refine below_set ?_ GE379.out | refine below_set ?_ GE380.out) | exact HB.out)⟩
                      · replace c48 := Bool.eq_false_iff.mpr c48
                        subst c48
                        have H1 : (some false) = some r := by rw [if_neg (show ¬ (false = true) by decide)] at H; exact H
                        clear H
                        have H := H1
                        clear H1
                        obtain rfl := Option.some.inj H
                        go_wp2
                        go_ret
                        exact ⟨by first | rfl | (simp [errW_none, errW_some] <;> rfl) | (simp [*, errW_none, errW_some] <;> rfl), by repeat (first | (with_reducible first | exact HB.out | apply below_alloc | apply pw_below_drewN | apply below_drew1 | refine below_set ?_ GE379.out | refine below_set ?_ GE380.out) | exact HB.out)⟩
                    · replace c47 := Bool.eq_false_iff.mpr c47
                      subst c47
                      have H1 : ((laws_stHolds.f kj39 5 t383 t384 t385 t386 t387 a1 t383 t384 t385 t386 t387).bind fun t399 => (if t399 = true then ((laws_stHolds.f kj39 5 t383 t384 t385 t386 t387 (wrap64 (a1 - 1)) t383 t384 t385 t386 t387).bind fun t400 => (some t400)) else (some false))) = some r := by rw [if_neg (show ¬ (false = true) by decide)] at H; exact H
                      clear H
                      have H := H1
                      clear H1
                      replace H := Option.bind_eq_some_iff.mp H
                      obtain ⟨t399, A600, H⟩ := H
                      replace H : (if t399 = true then ((laws_stHolds.f kj39 5 t383 t384 t385 t386 t387 (wrap64 (a1 - 1)) t383 t384 t385 t386 t387).bind fun t400 => (some t400)) else (some false)) = some r := H
                      have A60 := Aside0.mk A600
                      clear A600
                      by_cases c61 : t399 = true
                      · subst c61
                        have H1 : ((laws_stHolds.f kj39 5 t383 t384 t385 t386 t387 (wrap64 (a1 - 1)) t383 t384 t385 t386 t387).bind fun t400 => (some t400)) = some r := by rw [if_pos rfl] at H; exact H
                        clear H
                        have H := H1
                        clear H1
                        replace H := Option.bind_eq_some_iff.mp H
                        obtain ⟨t400, A620, H⟩ := H
                        replace H : (some t400) = some r := H
                        have A62 := Aside0.mk A620
                        clear A620
                        obtain rfl := Option.some.inj H
                        have hnb63 := NB379_380.out
                        have hnc63 := NB380_379.out
                        have hcz64_0 : wc.cell? ⟨gb379, 0, none⟩ = some (.int .u64 t383) := (blk_cell BK379.out 0).trans rfl
                        have hcz64_1 : wc.cell? ⟨gb379, 1, none⟩ = some (.int .u64 t384) := (blk_cell BK379.out 1).trans rfl
                        have hcz64_2 : wc.cell? ⟨gb379, 2, none⟩ = some (.int .u64 t385) := (blk_cell BK379.out 2).trans rfl
                        have hcz64_3 : wc.cell? ⟨gb379, 3, none⟩ = some (.string t386) := (blk_cell BK379.out 3).trans rfl
                        have hcz64_4 : wc.cell? ⟨gb379, 4, none⟩ = some (.string t387) := (blk_cell BK379.out 4).trans rfl
                        have hfz64_0 := blk_frozen BK379.out 0
                        have hfz64_1 := blk_frozen BK379.out 1
                        have hfz64_2 := blk_frozen BK379.out 2
                        have hfz64_3 := blk_frozen BK379.out 3
                        have hfz64_4 := blk_frozen BK379.out 4
                        go_wp2_with (first | (go_at_call 51; (with_reducible refine (laws_stHolds.calls kj39 5 t383 t384 t385 t386 t387 a1 t383 t384 t385 t386 t387 true _ ?side1 A60.out).mono ?_); (case side1 => exact globE_below HGE.out (by repeat (first | (with_reducible first | exact HB.out | apply below_alloc | apply pw_below_drewN | apply below_drew1 | refine below_set ?_ GE379.out | refine below_set ?_ GE380.out) | exact HB.out))); rintro e w65 ⟨rfl, hb⟩; have n0_ := Aside0.mk (blk_below (g := gb379) (o := .cells #[.int .u64 t383, .int .u64 t384, .int .u64 t385, .string t386, .string t387] 24 (0, 0)) (by (with_reducible repeat (first | refine blk_drewN ?_ _ | refine blk_drew ?_ | refine blk_alloc ?_ _)); exact BK379.out) hb); have n1_ := Aside0.mk (blk_below (g := gb380) (o := .cells #[.int .u64 t388, .int .u64 t389, .int .u64 t390, .string t391, .string t392] 24 (0, 0)) (by (with_reducible repeat (first | refine blk_drewN ?_ _ | refine blk_drew ?_ | refine blk_alloc ?_ _)); exact BK380.out) hb); have n2_ := Aside0.mk (below_step (by repeat (first | (with_reducible first | exact HB.out | apply below_alloc | apply pw_below_drewN | apply below_drew1 | refine below_set ?_ GE379.out | refine below_set ?_ GE380.out) | exact HB.out)) hb); clear BK379; clear BK380; clear HB; have BK379 := n0_; have BK380 := n1_; have HB := n2_; clear n0_ n1_ n2_; (try clear hb); (try clear hb2); (try clear hk); (try clear hi); have hcz66_0 : w65.cell? ⟨gb379, 0, none⟩ = some (.int .u64 t383) := (blk_cell BK379.out 0).trans rfl; have hcz66_1 : w65.cell? ⟨gb379, 1, none⟩ = some (.int .u64 t384) := (blk_cell BK379.out 1).trans rfl; have hcz66_2 : w65.cell? ⟨gb379, 2, none⟩ = some (.int .u64 t385) := (blk_cell BK379.out 2).trans rfl; have hcz66_3 : w65.cell? ⟨gb379, 3, none⟩ = some (.string t386) := (blk_cell BK379.out 3).trans rfl; have hcz66_4 : w65.cell? ⟨gb379, 4, none⟩ = some (.string t387) := (blk_cell BK379.out 4).trans rfl; have hfz66_0 := blk_frozen BK379.out 0; have hfz66_1 := blk_frozen BK379.out 1; have hfz66_2 := blk_frozen BK379.out 2; have hfz66_3 := blk_frozen BK379.out 3; have hfz66_4 := blk_frozen BK379.out 4) | (go_at_call 51; (with_reducible refine (laws_stHolds.calls kj39 5 t383 t384 t385 t386 t387 (wrap64 (a1 - 1)) t383 t384 t385 t386 t387 t400 _ ?side1 A62.out).mono ?_); (case side1 => exact globE_below HGE.out (by repeat (first | (with_reducible first | exact HB.out | apply below_alloc | apply pw_below_drewN | apply below_drew1 | refine below_set ?_ GE379.out | refine below_set ?_ GE380.out) | exact HB.out))); rintro e w67 ⟨rfl, hb⟩; have n0_ := Aside0.mk (blk_below (g := gb379) (o := .cells #[.int .u64 t383, .int .u64 t384, .int .u64 t385, .string t386, .string t387] 24 (0, 0)) (by (with_reducible repeat (first | refine blk_drewN ?_ _ | refine blk_drew ?_ | refine blk_alloc ?_ _)); exact BK379.out) hb); have n1_ := Aside0.mk (blk_below (g := gb380) (o := .cells #[.int .u64 t388, .int .u64 t389, .int .u64 t390, .string t391, .string t392] 24 (0, 0)) (by (with_reducible repeat (first | refine blk_drewN ?_ _ | refine blk_drew ?_ | refine blk_alloc ?_ _)); exact BK380.out) hb); have n2_ := Aside0.mk (below_step (by repeat (first | (with_reducible first | exact HB.out | apply below_alloc | apply pw_below_drewN | apply below_drew1 | refine below_set ?_ GE379.out | refine below_set ?_ GE380.out) | exact HB.out)) hb); clear BK379; clear BK380; clear HB; have BK379 := n0_; have BK380 := n1_; have HB := n2_; clear n0_ n1_ n2_; (try clear hb); (try clear hb2); (try clear hk); (try clear hi)))
                        go_ret
                        exact ⟨by first | rfl | (simp [errW_none, errW_some] <;> rfl) | (simp [*, errW_none, errW_some] <;> rfl), by repeat (first | (with_reducible first | exact HB.out | apply below_alloc | apply pw_below_drewN | apply below_drew1 | refine below_set ?_ GE379.out | refine below_set ?_ GE380.out) | exact HB.out)⟩
                      · replace c61 := Bool.eq_false_iff.mpr c61
                        subst c61
                        have H1 : (some false) = some r := by rw [if_neg (show ¬ (false = true) by decide)] at H; exact H
                        clear H
                        have H := H1
                        clear H1
                        obtain rfl := Option.some.inj H
                        have hnb68 := NB379_380.out
                        have hnc68 := NB380_379.out
                        have hcz69_0 : wc.cell? ⟨gb379, 0, none⟩ = some (.int .u64 t383) := (blk_cell BK379.out 0).trans rfl
                        have hcz69_1 : wc.cell? ⟨gb379, 1, none⟩ = some (.int .u64 t384) := (blk_cell BK379.out 1).trans rfl
                        have hcz69_2 : wc.cell? ⟨gb379, 2, none⟩ = some (.int .u64 t385) := (blk_cell BK379.out 2).trans rfl
                        have hcz69_3 : wc.cell? ⟨gb379, 3, none⟩ = some (.string t386) := (blk_cell BK379.out 3).trans rfl
                        have hcz69_4 : wc.cell? ⟨gb379, 4, none⟩ = some (.string t387) := (blk_cell BK379.out 4).trans rfl
                        have hfz69_0 := blk_frozen BK379.out 0
                        have hfz69_1 := blk_frozen BK379.out 1
                        have hfz69_2 := blk_frozen BK379.out 2
                        have hfz69_3 := blk_frozen BK379.out 3
                        have hfz69_4 := blk_frozen BK379.out 4
                        go_wp2_with (first | (go_at_call 51; (with_reducible refine (laws_stHolds.calls kj39 5 t383 t384 t385 t386 t387 a1 t383 t384 t385 t386 t387 false _ ?side1 A60.out).mono ?_); (case side1 => exact globE_below HGE.out (by repeat (first | (with_reducible first | exact HB.out | apply below_alloc | apply pw_below_drewN | apply below_drew1 | refine below_set ?_ GE379.out | refine below_set ?_ GE380.out) | exact HB.out))); rintro e w70 ⟨rfl, hb⟩; have n0_ := Aside0.mk (blk_below (g := gb379) (o := .cells #[.int .u64 t383, .int .u64 t384, .int .u64 t385, .string t386, .string t387] 24 (0, 0)) (by (with_reducible repeat (first | refine blk_drewN ?_ _ | refine blk_drew ?_ | refine blk_alloc ?_ _)); exact BK379.out) hb); have n1_ := Aside0.mk (blk_below (g := gb380) (o := .cells #[.int .u64 t388, .int .u64 t389, .int .u64 t390, .string t391, .string t392] 24 (0, 0)) (by (with_reducible repeat (first | refine blk_drewN ?_ _ | refine blk_drew ?_ | refine blk_alloc ?_ _)); exact BK380.out) hb); have n2_ := Aside0.mk (below_step (by repeat (first | (with_reducible first | exact HB.out | apply below_alloc | apply pw_below_drewN | apply below_drew1 | refine below_set ?_ GE379.out | refine below_set ?_ GE380.out) | exact HB.out)) hb); clear BK379; clear BK380; clear HB; have BK379 := n0_; have BK380 := n1_; have HB := n2_; clear n0_ n1_ n2_; (try clear hb); (try clear hb2); (try clear hk); (try clear hi)))
                        go_ret
                        exact ⟨by first | rfl | (simp [errW_none, errW_some] <;> rfl) | (simp [*, errW_none, errW_some] <;> rfl), by repeat (first | (with_reducible first | exact HB.out | apply below_alloc | apply pw_below_drewN | apply below_drew1 | refine below_set ?_ GE379.out | refine below_set ?_ GE380.out) | exact HB.out)⟩
                  · replace c46 := Bool.eq_false_iff.mpr c46
                    subst c46
                    have H1 : (if t395 = true then (if t396 = true then ((laws_stHolds.f kj39 5 t383 t384 t385 t386 t387 a1 t383 t384 t385 t386 t387).bind fun t401 => (if t401 = true then ((laws_stHolds.f kj39 5 t383 t384 t385 t386 t387 (wrap64 (a1 - 1)) t383 t384 t385 t386 t387).bind fun t402 => (some t402)) else (some false))) else (some false)) else ((laws_stHolds.f kj39 5 t383 t384 t385 t386 t387 a1 t383 t384 t385 t386 t387).bind fun t403 => (if t403 = true then ((laws_stHolds.f kj39 5 t383 t384 t385 t386 t387 (wrap64 (a1 - 1)) t383 t384 t385 t386 t387).bind fun t404 => (some t404)) else (some false)))) = some r := by rw [if_neg (show ¬ (false = true) by decide)] at H; exact H
                    clear H
                    have H := H1
                    clear H1
                    by_cases c71 : t395 = true
                    · subst c71
                      have H1 : (if t396 = true then ((laws_stHolds.f kj39 5 t383 t384 t385 t386 t387 a1 t383 t384 t385 t386 t387).bind fun t401 => (if t401 = true then ((laws_stHolds.f kj39 5 t383 t384 t385 t386 t387 (wrap64 (a1 - 1)) t383 t384 t385 t386 t387).bind fun t402 => (some t402)) else (some false))) else (some false)) = some r := by rw [if_pos rfl] at H; exact H
                      clear H
                      have H := H1
                      clear H1
                      by_cases c72 : t396 = true
                      · subst c72
                        have H1 : ((laws_stHolds.f kj39 5 t383 t384 t385 t386 t387 a1 t383 t384 t385 t386 t387).bind fun t401 => (if t401 = true then ((laws_stHolds.f kj39 5 t383 t384 t385 t386 t387 (wrap64 (a1 - 1)) t383 t384 t385 t386 t387).bind fun t402 => (some t402)) else (some false))) = some r := by rw [if_pos rfl] at H; exact H
                        clear H
                        have H := H1
                        clear H1
                        replace H := Option.bind_eq_some_iff.mp H
                        obtain ⟨t401, A730, H⟩ := H
                        replace H : (if t401 = true then ((laws_stHolds.f kj39 5 t383 t384 t385 t386 t387 (wrap64 (a1 - 1)) t383 t384 t385 t386 t387).bind fun t402 => (some t402)) else (some false)) = some r := H
                        have A73 := Aside0.mk A730
                        clear A730
                        by_cases c74 : t401 = true
                        · subst c74
                          have H1 : ((laws_stHolds.f kj39 5 t383 t384 t385 t386 t387 (wrap64 (a1 - 1)) t383 t384 t385 t386 t387).bind fun t402 => (some t402)) = some r := by rw [if_pos rfl] at H; exact H
                          clear H
                          have H := H1
                          clear H1
                          replace H := Option.bind_eq_some_iff.mp H
                          obtain ⟨t402, A750, H⟩ := H
                          replace H : (some t402) = some r := H
                          have A75 := Aside0.mk A750
                          clear A750
                          obtain rfl := Option.some.inj H
                          have hnb76 := NB379_380.out
                          have hnc76 := NB380_379.out
                          have hcz77_0 : wc.cell? ⟨gb379, 0, none⟩ = some (.int .u64 t383) := (blk_cell BK379.out 0).trans rfl
                          have hcz77_1 : wc.cell? ⟨gb379, 1, none⟩ = some (.int .u64 t384) := (blk_cell BK379.out 1).trans rfl
                          have hcz77_2 : wc.cell? ⟨gb379, 2, none⟩ = some (.int .u64 t385) := (blk_cell BK379.out 2).trans rfl
                          have hcz77_3 : wc.cell? ⟨gb379, 3, none⟩ = some (.string t386) := (blk_cell BK379.out 3).trans rfl
                          have hcz77_4 : wc.cell? ⟨gb379, 4, none⟩ = some (.string t387) := (blk_cell BK379.out 4).trans rfl
                          have hfz77_0 := blk_frozen BK379.out 0
                          have hfz77_1 := blk_frozen BK379.out 1
                          have hfz77_2 := blk_frozen BK379.out 2
                          have hfz77_3 := blk_frozen BK379.out 3
                          have hfz77_4 := blk_frozen BK379.out 4
                          go_wp2_with (first | (go_at_call 51; (with_reducible refine (laws_stHolds.calls kj39 5 t383 t384 t385 t386 t387 a1 t383 t384 t385 t386 t387 true _ ?side1 A73.out).mono ?_); (case side1 => exact globE_below HGE.out (by repeat (first | (with_reducible first | exact HB.out | apply below_alloc | apply pw_below_drewN | apply below_drew1 | refine below_set ?_ GE379.out | refine below_set ?_ GE380.out) | exact HB.out))); rintro e w78 ⟨rfl, hb⟩; have n0_ := Aside0.mk (blk_below (g := gb379) (o := .cells #[.int .u64 t383, .int .u64 t384, .int .u64 t385, .string t386, .string t387] 24 (0, 0)) (by (with_reducible repeat (first | refine blk_drewN ?_ _ | refine blk_drew ?_ | refine blk_alloc ?_ _)); exact BK379.out) hb); have n1_ := Aside0.mk (blk_below (g := gb380) (o := .cells #[.int .u64 t388, .int .u64 t389, .int .u64 t390, .string t391, .string t392] 24 (0, 0)) (by (with_reducible repeat (first | refine blk_drewN ?_ _ | refine blk_drew ?_ | refine blk_alloc ?_ _)); exact BK380.out) hb); have n2_ := Aside0.mk (below_step (by repeat (first | (with_reducible first | exact HB.out | apply below_alloc | apply pw_below_drewN | apply below_drew1 | refine below_set ?_ GE379.out | refine below_set ?_ GE380.out) | exact HB.out)) hb); clear BK379; clear BK380; clear HB; have BK379 := n0_; have BK380 := n1_; have HB := n2_; clear n0_ n1_ n2_; (try clear hb); (try clear hb2); (try clear hk); (try clear hi); have hcz79_0 : w78.cell? ⟨gb379, 0, none⟩ = some (.int .u64 t383) := (blk_cell BK379.out 0).trans rfl; have hcz79_1 : w78.cell? ⟨gb379, 1, none⟩ = some (.int .u64 t384) := (blk_cell BK379.out 1).trans rfl; have hcz79_2 : w78.cell? ⟨gb379, 2, none⟩ = some (.int .u64 t385) := (blk_cell BK379.out 2).trans rfl; have hcz79_3 : w78.cell? ⟨gb379, 3, none⟩ = some (.string t386) := (blk_cell BK379.out 3).trans rfl; have hcz79_4 : w78.cell? ⟨gb379, 4, none⟩ = some (.string t387) := (blk_cell BK379.out 4).trans rfl; have hfz79_0 := blk_frozen BK379.out 0; have hfz79_1 := blk_frozen BK379.out 1; have hfz79_2 := blk_frozen BK379.out 2; have hfz79_3 := blk_frozen BK379.out 3; have hfz79_4 := blk_frozen BK379.out 4) | (go_at_call 51; (with_reducible refine (laws_stHolds.calls kj39 5 t383 t384 t385 t386 t387 (wrap64 (a1 - 1)) t383 t384 t385 t386 t387 t402 _ ?side1 A75.out).mono ?_); (case side1 => exact globE_below HGE.out (by repeat (first | (with_reducible first | exact HB.out | apply below_alloc | apply pw_below_drewN | apply below_drew1 | refine below_set ?_ GE379.out | refine below_set ?_ GE380.out) | exact HB.out))); rintro e w80 ⟨rfl, hb⟩; have n0_ := Aside0.mk (blk_below (g := gb379) (o := .cells #[.int .u64 t383, .int .u64 t384, .int .u64 t385, .string t386, .string t387] 24 (0, 0)) (by (with_reducible repeat (first | refine blk_drewN ?_ _ | refine blk_drew ?_ | refine blk_alloc ?_ _)); exact BK379.out) hb); have n1_ := Aside0.mk (blk_below (g := gb380) (o := .cells #[.int .u64 t388, .int .u64 t389, .int .u64 t390, .string t391, .string t392] 24 (0, 0)) (by (with_reducible repeat (first | refine blk_drewN ?_ _ | refine blk_drew ?_ | refine blk_alloc ?_ _)); exact BK380.out) hb); have n2_ := Aside0.mk (below_step (by repeat (first | (with_reducible first | exact HB.out | apply below_alloc | apply pw_below_drewN | apply below_drew1 | refine below_set ?_ GE379.out | refine below_set ?_ GE380.out) | exact HB.out)) hb); clear BK379; clear BK380; clear HB; have BK379 := n0_; have BK380 := n1_; have HB := n2_; clear n0_ n1_ n2_; (try clear hb); (try clear hb2); (try clear hk); (try clear hi)))
                          go_ret
                          exact ⟨by first | rfl | (simp [errW_none, errW_some] <;> rfl) | (simp [*, errW_none, errW_some] <;> rfl), by repeat (first | (with_reducible first | exact HB.out | apply below_alloc | apply pw_below_drewN | apply below_drew1 | refine below_set ?_ GE379.out | refine below_set ?_ GE380.out) | exact HB.out)⟩
                        · replace c74 := Bool.eq_false_iff.mpr c74
                          subst c74
                          have H1 : (some false) = some r := by rw [if_neg (show ¬ (false = true) by decide)] at H; exact H
                          clear H
                          have H := H1
                          clear H1
                          obtain rfl := Option.some.inj H
                          have hnb81 := NB379_380.out
                          have hnc81 := NB380_379.out
                          have hcz82_0 : wc.cell? ⟨gb379, 0, none⟩ = some (.int .u64 t383) := (blk_cell BK379.out 0).trans rfl
                          have hcz82_1 : wc.cell? ⟨gb379, 1, none⟩ = some (.int .u64 t384) := (blk_cell BK379.out 1).trans rfl
                          have hcz82_2 : wc.cell? ⟨gb379, 2, none⟩ = some (.int .u64 t385) := (blk_cell BK379.out 2).trans rfl
                          have hcz82_3 : wc.cell? ⟨gb379, 3, none⟩ = some (.string t386) := (blk_cell BK379.out 3).trans rfl
                          have hcz82_4 : wc.cell? ⟨gb379, 4, none⟩ = some (.string t387) := (blk_cell BK379.out 4).trans rfl
                          have hfz82_0 := blk_frozen BK379.out 0
                          have hfz82_1 := blk_frozen BK379.out 1
                          have hfz82_2 := blk_frozen BK379.out 2
                          have hfz82_3 := blk_frozen BK379.out 3
                          have hfz82_4 := blk_frozen BK379.out 4
                          go_wp2_with (first | (go_at_call 51; (with_reducible refine (laws_stHolds.calls kj39 5 t383 t384 t385 t386 t387 a1 t383 t384 t385 t386 t387 false _ ?side1 A73.out).mono ?_); (case side1 => exact globE_below HGE.out (by repeat (first | (with_reducible first | exact HB.out | apply below_alloc | apply pw_below_drewN | apply below_drew1 | refine below_set ?_ GE379.out | refine below_set ?_ GE380.out) | exact HB.out))); rintro e w83 ⟨rfl, hb⟩; have n0_ := Aside0.mk (blk_below (g := gb379) (o := .cells #[.int .u64 t383, .int .u64 t384, .int .u64 t385, .string t386, .string t387] 24 (0, 0)) (by (with_reducible repeat (first | refine blk_drewN ?_ _ | refine blk_drew ?_ | refine blk_alloc ?_ _)); exact BK379.out) hb); have n1_ := Aside0.mk (blk_below (g := gb380) (o := .cells #[.int .u64 t388, .int .u64 t389, .int .u64 t390, .string t391, .string t392] 24 (0, 0)) (by (with_reducible repeat (first | refine blk_drewN ?_ _ | refine blk_drew ?_ | refine blk_alloc ?_ _)); exact BK380.out) hb); have n2_ := Aside0.mk (below_step (by repeat (first | (with_reducible first | exact HB.out | apply below_alloc | apply pw_below_drewN | apply below_drew1 | refine below_set ?_ GE379.out | refine below_set ?_ GE380.out) | exact HB.out)) hb); clear BK379; clear BK380; clear HB; have BK379 := n0_; have BK380 := n1_; have HB := n2_; clear n0_ n1_ n2_; (try clear hb); (try clear hb2); (try clear hk); (try clear hi)))
                          go_ret
                          exact ⟨by first | rfl | (simp [errW_none, errW_some] <;> rfl) | (simp [*, errW_none, errW_some] <;> rfl), by repeat (first | (with_reducible first | exact HB.out | apply below_alloc | apply pw_below_drewN | apply below_drew1 | refine below_set ?_ GE379.out | refine below_set ?_ GE380.out) | exact HB.out)⟩
                      · replace c72 := Bool.eq_false_iff.mpr c72
                        subst c72
                        have H1 : (some false) = some r := by rw [if_neg (show ¬ (false = true) by decide)] at H; exact H
                        clear H
                        have H := H1
                        clear H1
                        obtain rfl := Option.some.inj H
                        go_wp2
                        go_ret
                        exact ⟨by first | rfl | (simp [errW_none, errW_some] <;> rfl) | (simp [*, errW_none, errW_some] <;> rfl), by repeat (first | (with_reducible first | exact HB.out | apply below_alloc | apply pw_below_drewN | apply below_drew1 | refine below_set ?_ GE379.out | refine below_set ?_ GE380.out) | exact HB.out)⟩
                    · replace c71 := Bool.eq_false_iff.mpr c71
                      subst c71
                      have H1 : ((laws_stHolds.f kj39 5 t383 t384 t385 t386 t387 a1 t383 t384 t385 t386 t387).bind fun t403 => (if t403 = true then ((laws_stHolds.f kj39 5 t383 t384 t385 t386 t387 (wrap64 (a1 - 1)) t383 t384 t385 t386 t387).bind fun t404 => (some t404)) else (some false))) = some r := by rw [if_neg (show ¬ (false = true) by decide)] at H; exact H
                      clear H
                      have H := H1
                      clear H1
                      replace H := Option.bind_eq_some_iff.mp H
                      obtain ⟨t403, A840, H⟩ := H
                      replace H : (if t403 = true then ((laws_stHolds.f kj39 5 t383 t384 t385 t386 t387 (wrap64 (a1 - 1)) t383 t384 t385 t386 t387).bind fun t404 => (some t404)) else (some false)) = some r := H
                      have A84 := Aside0.mk A840
                      clear A840
                      by_cases c85 : t403 = true
                      · subst c85
                        have H1 : ((laws_stHolds.f kj39 5 t383 t384 t385 t386 t387 (wrap64 (a1 - 1)) t383 t384 t385 t386 t387).bind fun t404 => (some t404)) = some r := by rw [if_pos rfl] at H; exact H
                        clear H
                        have H := H1
                        clear H1
                        replace H := Option.bind_eq_some_iff.mp H
                        obtain ⟨t404, A860, H⟩ := H
                        replace H : (some t404) = some r := H
                        have A86 := Aside0.mk A860
                        clear A860
                        obtain rfl := Option.some.inj H
                        have hnb87 := NB379_380.out
                        have hnc87 := NB380_379.out
                        have hcz88_0 : wc.cell? ⟨gb379, 0, none⟩ = some (.int .u64 t383) := (blk_cell BK379.out 0).trans rfl
                        have hcz88_1 : wc.cell? ⟨gb379, 1, none⟩ = some (.int .u64 t384) := (blk_cell BK379.out 1).trans rfl
                        have hcz88_2 : wc.cell? ⟨gb379, 2, none⟩ = some (.int .u64 t385) := (blk_cell BK379.out 2).trans rfl
                        have hcz88_3 : wc.cell? ⟨gb379, 3, none⟩ = some (.string t386) := (blk_cell BK379.out 3).trans rfl
                        have hcz88_4 : wc.cell? ⟨gb379, 4, none⟩ = some (.string t387) := (blk_cell BK379.out 4).trans rfl
                        have hfz88_0 := blk_frozen BK379.out 0
                        have hfz88_1 := blk_frozen BK379.out 1
                        have hfz88_2 := blk_frozen BK379.out 2
                        have hfz88_3 := blk_frozen BK379.out 3
                        have hfz88_4 := blk_frozen BK379.out 4
                        go_wp2_with (first | (go_at_call 51; (with_reducible refine (laws_stHolds.calls kj39 5 t383 t384 t385 t386 t387 a1 t383 t384 t385 t386 t387 true _ ?side1 A84.out).mono ?_); (case side1 => exact globE_below HGE.out (by repeat (first | (with_reducible first | exact HB.out | apply below_alloc | apply pw_below_drewN | apply below_drew1 | refine below_set ?_ GE379.out | refine below_set ?_ GE380.out) | exact HB.out))); rintro e w89 ⟨rfl, hb⟩; have n0_ := Aside0.mk (blk_below (g := gb379) (o := .cells #[.int .u64 t383, .int .u64 t384, .int .u64 t385, .string t386, .string t387] 24 (0, 0)) (by (with_reducible repeat (first | refine blk_drewN ?_ _ | refine blk_drew ?_ | refine blk_alloc ?_ _)); exact BK379.out) hb); have n1_ := Aside0.mk (blk_below (g := gb380) (o := .cells #[.int .u64 t388, .int .u64 t389, .int .u64 t390, .string t391, .string t392] 24 (0, 0)) (by (with_reducible repeat (first | refine blk_drewN ?_ _ | refine blk_drew ?_ | refine blk_alloc ?_ _)); exact BK380.out) hb); have n2_ := Aside0.mk (below_step (by repeat (first | (with_reducible first | exact HB.out | apply below_alloc | apply pw_below_drewN | apply below_drew1 | refine below_set ?_ GE379.out | refine below_set ?_ GE380.out) | exact HB.out)) hb); clear BK379; clear BK380; clear HB; have BK379 := n0_; have BK380 := n1_; have HB := n2_; clear n0_ n1_ n2_; (try clear hb); (try clear hb2); (try clear hk); (try clear hi); have hcz90_0 : w89.cell? ⟨gb379, 0, none⟩ = some (.int .u64 t383) := (blk_cell BK379.out 0).trans rfl; have hcz90_1 : w89.cell? ⟨gb379, 1, none⟩ = some (.int .u64 t384) := (blk_cell BK379.out 1).trans rfl; have hcz90_2 : w89.cell? ⟨gb379, 2, none⟩ = some (.int .u64 t385) := (blk_cell BK379.out 2).trans rfl; have hcz90_3 : w89.cell? ⟨gb379, 3, none⟩ = some (.string t386) := (blk_cell BK379.out 3).trans rfl; have hcz90_4 : w89.cell? ⟨gb379, 4, none⟩ = some (.string t387) := (blk_cell BK379.out 4).trans rfl; have hfz90_0 := blk_frozen BK379.out 0; have hfz90_1 := blk_frozen BK379.out 1; have hfz90_2 := blk_frozen BK379.out 2; have hfz90_3 := blk_frozen BK379.out 3; have hfz90_4 := blk_frozen BK379.out 4) | (go_at_call 51; (with_reducible refine (laws_stHolds.calls kj39 5 t383 t384 t385 t386 t387 (wrap64 (a1 - 1)) t383 t384 t385 t386 t387 t404 _ ?side1 A86.out).mono ?_); (case side1 => exact globE_below HGE.out (by repeat (first | (with_reducible first | exact HB.out | apply below_alloc | apply pw_below_drewN | apply below_drew1 | refine below_set ?_ GE379.out | refine below_set ?_ GE380.out) | exact HB.out))); rintro e w91 ⟨rfl, hb⟩; have n0_ := Aside0.mk (blk_below (g := gb379) (o := .cells #[.int .u64 t383, .int .u64 t384, .int .u64 t385, .string t386, .string t387] 24 (0, 0)) (by (with_reducible repeat (first | refine blk_drewN ?_ _ | refine blk_drew ?_ | refine blk_alloc ?_ _)); exact BK379.out) hb); have n1_ := Aside0.mk (blk_below (g := gb380) (o := .cells #[.int .u64 t388, .int .u64 t389, .int .u64 t390, .string t391, .string t392] 24 (0, 0)) (by (with_reducible repeat (first | refine blk_drewN ?_ _ | refine blk_drew ?_ | refine blk_alloc ?_ _)); exact BK380.out) hb); have n2_ := Aside0.mk (below_step (by repeat (first | (with_reducible first | exact HB.out | apply below_alloc | apply pw_below_drewN | apply below_drew1 | refine below_set ?_ GE379.out | refine below_set ?_ GE380.out) | exact HB.out)) hb); clear BK379; clear BK380; clear HB; have BK379 := n0_; have BK380 := n1_; have HB := n2_; clear n0_ n1_ n2_; (try clear hb); (try clear hb2); (try clear hk); (try clear hi)))
                        go_ret
                        exact ⟨by first | rfl | (simp [errW_none, errW_some] <;> rfl) | (simp [*, errW_none, errW_some] <;> rfl), by repeat (first | (with_reducible first | exact HB.out | apply below_alloc | apply pw_below_drewN | apply below_drew1 | refine below_set ?_ GE379.out | refine below_set ?_ GE380.out) | exact HB.out)⟩
                      · replace c85 := Bool.eq_false_iff.mpr c85
                        subst c85
                        have H1 : (some false) = some r := by rw [if_neg (show ¬ (false = true) by decide)] at H; exact H
                        clear H
                        have H := H1
                        clear H1
                        obtain rfl := Option.some.inj H
                        have hnb92 := NB379_380.out
                        have hnc92 := NB380_379.out
                        have hcz93_0 : wc.cell? ⟨gb379, 0, none⟩ = some (.int .u64 t383) := (blk_cell BK379.out 0).trans rfl
                        have hcz93_1 : wc.cell? ⟨gb379, 1, none⟩ = some (.int .u64 t384) := (blk_cell BK379.out 1).trans rfl
                        have hcz93_2 : wc.cell? ⟨gb379, 2, none⟩ = some (.int .u64 t385) := (blk_cell BK379.out 2).trans rfl
                        have hcz93_3 : wc.cell? ⟨gb379, 3, none⟩ = some (.string t386) := (blk_cell BK379.out 3).trans rfl
                        have hcz93_4 : wc.cell? ⟨gb379, 4, none⟩ = some (.string t387) := (blk_cell BK379.out 4).trans rfl
                        have hfz93_0 := blk_frozen BK379.out 0
                        have hfz93_1 := blk_frozen BK379.out 1
                        have hfz93_2 := blk_frozen BK379.out 2
                        have hfz93_3 := blk_frozen BK379.out 3
                        have hfz93_4 := blk_frozen BK379.out 4
                        go_wp2_with (first | (go_at_call 51; (with_reducible refine (laws_stHolds.calls kj39 5 t383 t384 t385 t386 t387 a1 t383 t384 t385 t386 t387 false _ ?side1 A84.out).mono ?_); (case side1 => exact globE_below HGE.out (by repeat (first | (with_reducible first | exact HB.out | apply below_alloc | apply pw_below_drewN | apply below_drew1 | refine below_set ?_ GE379.out | refine below_set ?_ GE380.out) | exact HB.out))); rintro e w94 ⟨rfl, hb⟩; have n0_ := Aside0.mk (blk_below (g := gb379) (o := .cells #[.int .u64 t383, .int .u64 t384, .int .u64 t385, .string t386, .string t387] 24 (0, 0)) (by (with_reducible repeat (first | refine blk_drewN ?_ _ | refine blk_drew ?_ | refine blk_alloc ?_ _)); exact BK379.out) hb); have n1_ := Aside0.mk (blk_below (g := gb380) (o := .cells #[.int .u64 t388, .int .u64 t389, .int .u64 t390, .string t391, .string t392] 24 (0, 0)) (by (with_reducible repeat (first | refine blk_drewN ?_ _ | refine blk_drew ?_ | refine blk_alloc ?_ _)); exact BK380.out) hb); have n2_ := Aside0.mk (below_step (by repeat (first | (with_reducible first | exact HB.out | apply below_alloc | apply pw_below_drewN | apply below_drew1 | refine below_set ?_ GE379.out | refine below_set ?_ GE380.out) | exact HB.out)) hb); clear BK379; clear BK380; clear HB; have BK379 := n0_; have BK380 := n1_; have HB := n2_; clear n0_ n1_ n2_; (try clear hb); (try clear hb2); (try clear hk); (try clear hi)))
                        go_ret
                        exact ⟨by first | rfl | (simp [errW_none, errW_some] <;> rfl) | (simp [*, errW_none, errW_some] <;> rfl), by repeat (first | (with_reducible first | exact HB.out | apply below_alloc | apply pw_below_drewN | apply below_drew1 | refine below_set ?_ GE379.out | refine below_set ?_ GE380.out) | exact HB.out)⟩

end Go.Proofs.YtlooelfkkbgmhaaDoor.QS
