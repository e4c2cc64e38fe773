/-
  laws.FnCronAlone: it returns true.
-/
import Derived.Test.YtdgglkihiibmhaaNap
import Derived.Test.YtdgglkihiibmhaaCou
set_option linter.unusedVariables false
set_option linter.unusedSimpArgs false
namespace Go.Proofs.Ytdgglkihiibmhaa
open Go Go.RowKit Cal Go.Proofs.YtdgglkihiibmhaaW.PrintLast

abbrev An (w : World) (ev : Bool) (f : Six) (d s n : Int) (W : World) : Prop := W.cell? ⟨w.heap.size, 0, none⟩ = some (.bool ev) ∧ W.cell? ⟨w.heap.size, 1, none⟩ = some (.int .i64 d) ∧ W.cell? ⟨w.heap.size, 2, none⟩ = some (.int .u64 f.se) ∧ W.cell? ⟨w.heap.size, 3, none⟩ = some (.int .u64 f.mi) ∧ W.cell? ⟨w.heap.size, 4, none⟩ = some (.int .u64 f.ho) ∧ W.cell? ⟨w.heap.size, 5, none⟩ = some (.int .u64 f.dom) ∧ W.cell? ⟨w.heap.size, 6, none⟩ = some (.int .u64 f.mo) ∧ W.cell? ⟨w.heap.size, 7, none⟩ = some (.int .u64 f.dow) ∧ W.cell? ⟨w.heap.size + 1, 0, none⟩ = some (.int .i64 s) ∧ W.cell? ⟨w.heap.size + 1, 1, none⟩ = some (.int .i64 n) ∧ Hid (Below w.heap.size w W)
theorem an_on {w : World} {ev : Bool} {f : Six} {d s n : Int} {W W' : World} (hb : Below W.heap.size W W') (h : An w ev f d s n W) : An w ev f d s n W' := by
  obtain ⟨a0, a1, a2, a3, a4, a5, a6, a7, a8, a9, hh⟩ := h
  exact ⟨cell_on hb a0, cell_on hb a1, cell_on hb a2, cell_on hb a3, cell_on hb a4, cell_on hb a5, cell_on hb a6, cell_on hb a7, cell_on hb a8, cell_on hb a9, Lib.hid (bl_on hh.out hb)⟩
theorem an_set {w : World} {ev : Bool} {f : Six} {d s n : Int} {W : World} {r : Nat} {u v : Int} (hr : w.heap.size ≤ r) (o0 : w.heap.size < r) (o1 : w.heap.size + 1 < r) (h : An w ev f d s n W) : An w ev f d s n ((W.setCell ⟨r, 0, none⟩ (.int .i64 u)).setCell ⟨r, 1, none⟩ (.int .i64 v)) := by
  obtain ⟨a0, a1, a2, a3, a4, a5, a6, a7, a8, a9, hh⟩ := h
  have n0 : w.heap.size ≠ r := by omega
  have n1 : w.heap.size + 1 ≠ r := by omega
  exact ⟨cell_room n0 a0, cell_room n0 a1, cell_room n0 a2, cell_room n0 a3, cell_room n0 a4, cell_room n0 a5, cell_room n0 a6, cell_room n0 a7, cell_room n1 a8, cell_room n1 a9, Lib.hid (bl_set (bl_set hh.out (by exact hr) _) (by exact hr) _)⟩
theorem an_lt {w : World} {ev : Bool} {f : Six} {d s n : Int} {W : World} (h : An w ev f d s n W) : w.heap.size ≤ W.heap.size ∧ w.heap.size < W.heap.size ∧ w.heap.size + 1 < W.heap.size := by
  obtain ⟨a0, a1, a2, a3, a4, a5, a6, a7, a8, a9, hh⟩ := h
  exact ⟨hh.out.size, World.block_lt_of_cell? _ _ a0, World.block_lt_of_cell? _ _ a8⟩
theorem an_bel {w : World} {ev : Bool} {f : Six} {d s n : Int} {W : World} (h : An w ev f d s n W) : Below w.heap.size w W := by
  obtain ⟨-, -, -, -, -, -, -, -, -, -, hh⟩ := h
  exact hh.out
abbrev As (w : World) (ev : Bool) (f : Six) (d s n : Int) (q : Nat) (a : Int) (W : World) : Prop := W.cell? ⟨w.heap.size, 0, none⟩ = some (.bool ev) ∧ W.cell? ⟨w.heap.size, 1, none⟩ = some (.int .i64 d) ∧ W.cell? ⟨w.heap.size, 2, none⟩ = some (.int .u64 f.se) ∧ W.cell? ⟨w.heap.size, 3, none⟩ = some (.int .u64 f.mi) ∧ W.cell? ⟨w.heap.size, 4, none⟩ = some (.int .u64 f.ho) ∧ W.cell? ⟨w.heap.size, 5, none⟩ = some (.int .u64 f.dom) ∧ W.cell? ⟨w.heap.size, 6, none⟩ = some (.int .u64 f.mo) ∧ W.cell? ⟨w.heap.size, 7, none⟩ = some (.int .u64 f.dow) ∧ W.cell? ⟨w.heap.size + 1, 0, none⟩ = some (.int .i64 s) ∧ W.cell? ⟨w.heap.size + 1, 1, none⟩ = some (.int .i64 n) ∧ W.cell? ⟨q, 0, none⟩ = some (.int .i64 a) ∧ W.cell? ⟨q, 1, none⟩ = some (.int .i64 0) ∧ Hid (Below w.heap.size w W)
theorem as_on {w : World} {ev : Bool} {f : Six} {d s n : Int} {q : Nat} {a : Int} {W W' : World} (hb : Below W.heap.size W W') (h : As w ev f d s n q a W) : As w ev f d s n q a W' := by
  obtain ⟨a0, a1, a2, a3, a4, a5, a6, a7, a8, a9, a10, a11, hh⟩ := h
  exact ⟨cell_on hb a0, cell_on hb a1, cell_on hb a2, cell_on hb a3, cell_on hb a4, cell_on hb a5, cell_on hb a6, cell_on hb a7, cell_on hb a8, cell_on hb a9, cell_on hb a10, cell_on hb a11, Lib.hid (bl_on hh.out hb)⟩
theorem as_set {w : World} {ev : Bool} {f : Six} {d s n : Int} {q : Nat} {a : Int} {W : World} {r : Nat} {u v : Int} (hr : w.heap.size ≤ r) (o0 : w.heap.size < r) (o1 : w.heap.size + 1 < r) (o2 : q < r) (h : As w ev f d s n q a W) : As w ev f d s n q a ((W.setCell ⟨r, 0, none⟩ (.int .i64 u)).setCell ⟨r, 1, none⟩ (.int .i64 v)) := by
  obtain ⟨a0, a1, a2, a3, a4, a5, a6, a7, a8, a9, a10, a11, hh⟩ := h
  have n0 : w.heap.size ≠ r := by omega
  have n1 : w.heap.size + 1 ≠ r := by omega
  have n2 : q ≠ r := by omega
  exact ⟨cell_room n0 a0, cell_room n0 a1, cell_room n0 a2, cell_room n0 a3, cell_room n0 a4, cell_room n0 a5, cell_room n0 a6, cell_room n0 a7, cell_room n1 a8, cell_room n1 a9, cell_room n2 a10, cell_room n2 a11, Lib.hid (bl_set (bl_set hh.out (by exact hr) _) (by exact hr) _)⟩
theorem as_lt {w : World} {ev : Bool} {f : Six} {d s n : Int} {q : Nat} {a : Int} {W : World} (h : As w ev f d s n q a W) : w.heap.size ≤ W.heap.size ∧ w.heap.size < W.heap.size ∧ w.heap.size + 1 < W.heap.size ∧ q < W.heap.size := by
  obtain ⟨a0, a1, a2, a3, a4, a5, a6, a7, a8, a9, a10, a11, hh⟩ := h
  exact ⟨hh.out.size, World.block_lt_of_cell? _ _ a0, World.block_lt_of_cell? _ _ a8, World.block_lt_of_cell? _ _ a10⟩
theorem as_bel {w : World} {ev : Bool} {f : Six} {d s n : Int} {q : Nat} {a : Int} {W : World} (h : As w ev f d s n q a W) : Below w.heap.size w W := by
  obtain ⟨-, -, -, -, -, -, -, -, -, -, -, -, hh⟩ := h
  exact hh.out
theorem as_mk {w : World} {ev : Bool} {f : Six} {d s n : Int} {q : Nat} {a : Int} {W : World} (h : An w ev f d s n W) (h0 : W.cell? ⟨q, 0, none⟩ = some (.int .i64 a)) (h1 : W.cell? ⟨q, 1, none⟩ = some (.int .i64 0)) : As w ev f d s n q a W := by
  obtain ⟨a0, a1, a2, a3, a4, a5, a6, a7, a8, a9, hh⟩ := h
  exact ⟨a0, a1, a2, a3, a4, a5, a6, a7, a8, a9, h0, h1, hh⟩
theorem an_start (w : World) (ev : Bool) (f : Six) (d s n : Int) : An w ev f d s n ((w.alloc (schO ev f d)).alloc (io s n)) := by
  have b0 := heap_old (o' := io s n) (heap_new0 w _ (schO ev f d) rfl)
  have b1 := heap_new0 (w.alloc (schO ev f d)) (w.heap.size + 1) (io s n) (by simp)
  exact ⟨(blk_cell b0 0).trans rfl, (blk_cell b0 1).trans rfl, (blk_cell b0 2).trans rfl, (blk_cell b0 3).trans rfl, (blk_cell b0 4).trans rfl, (blk_cell b0 5).trans rfl, (blk_cell b0 6).trans rfl, (blk_cell b0 7).trans rfl, (blk_cell b1 0).trans rfl, (blk_cell b1 1).trans rfl, Lib.hid (by repeat (first | exact Below.refl _ _ | apply bl_alloc))⟩
theorem six_years (x r : Int) (x0 : 0 ≤ x) (h : r < BY (Yx x + 5)) : r ≤ x + 190000000 := by
  have h1 := (date_in_year (x_date x (by omega))).1
  have e := YS_next (Yx x)
  have e1 := YS_next (Yx x + 1)
  have e2 := YS_next (Yx x + 1 + 1)
  have e3 := YS_next (Yx x + 1 + 1 + 1)
  have e4 := YS_next (Yx x + 1 + 1 + 1 + 1)
  have e5 := YS_next (Yx x + 1 + 1 + 1 + 1 + 1)
  have l := lp_01 (Yx x)
  have l1 := lp_01 (Yx x + 1)
  have l2 := lp_01 (Yx x + 1 + 1)
  have l3 := lp_01 (Yx x + 1 + 1 + 1)
  have l4 := lp_01 (Yx x + 1 + 1 + 1 + 1)
  have l5 := lp_01 (Yx x + 1 + 1 + 1 + 1 + 1)
  have hc : CM (Yx x + 5 + 1) 1 = 0 := rfl
  unfold BY DS at h
  rw [hc] at h
  rw [show Yx x + 5 + 1 = Yx x + 1 + 1 + 1 + 1 + 1 + 1 by omega] at h
  omega
set_option maxRecDepth 100000 in
set_option maxHeartbeats 8000000 in
theorem alone_any (ev : Bool) (f : Six) (d s n : Int) (w : World) : Calls Try.prog 4 #[schV ev f d, inV s n] w fun e w' => e = .returned (.bool true) ∧ Below w.heap.size w w' := by
  have HS := Lib.hid (an_start w ev f d s n)
  have HC := Lib.hid (fun w => case_any ev f d s n w)
  go_enter Try.func4, Try.ntmps4
  go_upto_region 1 with fail
  generalize (w.alloc (schO ev f d)).alloc (io s n) = W0 at *
  generalize hc : (!ev && goodB s n) = c at HC
  have HCC := Lib.hid hc
  clear hc
  obtain ⟨z0, z1, z2, z3, z4, z5, z6, z7, z8, z9, -⟩ := HS.out
  cases c
  · go_wp2_with (go_at_call 15; with_reducible refine (HC.out _).mono ?_; rintro e w1 ⟨rfl, hb⟩; have HB := Lib.hid (bl_on (an_bel HS.out) hb); clear hb)
    go_ret
    exact ⟨rfl, HB.out⟩
  · go_upto_region 3 with (go_at_call 15; with_reducible refine (HC.out _).mono ?_; rintro e w1 ⟨rfl, hb⟩; have HS1 := Lib.hid (an_on hb HS.out); clear hb HS z0 z1 z2 z3 z4 z5 z6 z7 z8 z9)
    have HCO := HCC.out
    rw [Bool.and_eq_true] at HCO
    have hev : ev = false := by have h := HCO.1; revert h; cases ev <;> simp
    have HGO := Lib.hid (goodB_of HCO.2)
    clear HCO
    subst hev
    have HN := Lib.hid (fun w => implNext_any f d s n w HGO.out.2.2.1 HGO.out.2.2.2 HGO.out.1 HGO.out.2.1)
    go_cut [5, 6] from 8 (fun v5 v6 wc => ∃ (q : Nat) (r : Int), v5 = .pointer (some ⟨q, 0, none⟩) ∧ v6 = .bool (asB r) ∧ Hid (Nx1 f s r) ∧ Hid (As w false f d s n q (asI r) wc))
    case first =>
      have hH0 : An w false f d s n w1.drew := an_on (bl_drew (Below.refl _ _)) HS1.out
      have HLT := Lib.hid (an_lt HS1.out)
      go_region_held3 (fun W => An w false f d s n W) (first | assumption | exact hH0 | exact an_on hb1 (by assumption) | exact an_on hb2 (by assumption) | exact an_on (bl_alloc (Below.refl _ _) _) (by assumption) | exact an_on (bl_alloc (Below.refl _ _) _) (an_on hb2 (an_on hb1 hH0)) | exact an_set (r := w1.heap.size) (by have h8 := HLT.out; omega) (by have h8 := HLT.out; omega) (by have h8 := HLT.out; omega) (by assumption) | exact an_set (r := x1.heap.size) (by have h8 := HLT.out; have h21 := hb1.size; simp at h21; omega) (by have h8 := HLT.out; have h21 := hb1.size; simp at h21; omega) (by have h8 := HLT.out; have h21 := hb1.size; simp at h21; omega) (by assumption) | exact an_set (r := x2.heap.size) (by have h8 := HLT.out; have h21 := hb1.size; simp at h21; have h22 := hb2.size; simp at h22; omega) (by have h8 := HLT.out; have h21 := hb1.size; simp at h21; have h22 := hb2.size; simp at h22; omega) (by have h8 := HLT.out; have h21 := hb1.size; simp at h21; have h22 := hb2.size; simp at h22; omega) (by assumption) | fail) (first
        | (go_at_call 11; with_reducible refine (cronUTC_any _).mono ?_; rintro e x1 ⟨rfl, hb1⟩; first | (have HK0 := blk_on hb1 HK; clear HK r0 r1 f0 f1; have HK := HK0; clear HK0; obtain ⟨r0, r1, f0, f1⟩ := res2 HK) | (have HK := blk_on hb1 (heap_new0 _ w1.heap.size (.cells #[.int .i64 0, .int .i64 0] 23) (by first | rfl | simp)); obtain ⟨r0, r1, f0, f1⟩ := res2 HK) | skip)
        | (go_at_call 10; with_reducible refine (HN.out _).mono ?_; rintro e x2 ⟨⟨r, rfl, hr⟩, hb2⟩; have HR := Lib.hid hr; clear hr; first | (have HK0 := blk_on hb2 HK; clear HK r0 r1 f0 f1; have HK := HK0; clear HK0; obtain ⟨r0, r1, f0, f1⟩ := res2 HK) | (have HK := blk_on hb2 (heap_new0 _ x1.heap.size (.cells #[.int .i64 0, .int .i64 0] 23) (by first | rfl | simp)); obtain ⟨r0, r1, f0, f1⟩ := res2 HK) | skip))
      all_goals
        rename_i hH
        go_wp2_with fail
        go_meet
        case rel =>
          first
            | exact ⟨_, _, rfl, rfl, HR, Lib.hid (as_mk hH (set2_get r0 r1).1 (set2_get r0 r1).2)⟩
            | exact ⟨_, _, rfl, rfl, HR, Lib.hid (as_mk hH (res2 (heap_new0 _ _ (.cells #[.int .i64 _, .int .i64 0] 23) rfl)).1 (res2 (heap_new0 _ _ (.cells #[.int .i64 _, .int .i64 0] 23) rfl)).2.1)⟩
    case rest =>
      obtain ⟨q, r, rfl, rfl, HA, HTN⟩ := hcut
      clear HS1
      cases hr : asB r
      · have HN0 := Lib.hid (nx_none HA.out HGO.out.1 hr)
        have HNO := Lib.hid (fun w => none_any f d s (s + 62135596800 + 1) n w rfl (by have := HGO.out; omega) (by have := HGO.out; omega) HN0.out)
        clear hr HN
        go_upto_region 5 with fail
        have hT0 : As w false f d s n q (asI r) wc.drew := as_on (bl_drew (Below.refl _ _)) HTN.out
        go_region_held3 (fun W => As w false f d s n q (asI r) W) (first | assumption | exact hT0 | exact as_on hb1 (by assumption) | exact as_on hb2 (by assumption) | fail) (first
          | (go_at_call 11; with_reducible refine (cronUTC_any _).mono ?_; rintro e x1 ⟨rfl, hb1⟩)
          | (go_at_call 16; with_reducible refine (HNO.out _).mono ?_; rintro e x2 ⟨rfl, hb2⟩))
        all_goals
          rename_i hH
          have HE := Lib.hid (as_bel hH)
          clear hH
          go_wp2_with fail
          go_ret
          exact ⟨rfl, HE.out⟩
      · obtain ⟨m1, m2, m3, m4⟩ := nx_some HA.out hr
        have HSY := six_years (s + 62135596800 + 1) r (by have := HGO.out; omega) m2
        have hv := asI_of hr
        obtain ⟨v, ev⟩ : ∃ v, v = asI r := ⟨_, rfl⟩
        have g := HGO.out
        rw [← ev] at HTN hv
        have hw1 : wrap64 (s + 1) = s + 1 := wi (by omega) (by omega)
        have hw2 : wrap64 (v + 1) = v + 1 := wi (by omega) (by omega)
        have hw3 : wrap64 (s + 221356800) = s + 221356800 := wi (by omega) (by omega)
        have hd1 : decide (v ≤ s) = false := decide_eq_false (by omega)
        have hd2 : decide (s + 221356800 < v) = false := decide_eq_false (by omega)
        have HK1 : Hid (∀ w, Calls Try.prog 18 #[.agg (bs 384 (sixM f)), .int .i64 (s + 1), .int .i64 (v + 1)] w fun e w' => e = .returned (.int .i64 1) ∧ Below w.heap.size w w') := Lib.hid (fun w => by
          have h := count_any f (s + 1) (v + 1) (s + 62135596800 + 1) (r + 1) w (by omega) (by omega) (by omega) (by omega) (by omega)
          rw [nf_one (fits f) (s + 62135596800 + 1) r (r + 1 - (s + 62135596800 + 1)).toNat m1 (by omega) m3 m4 (by omega)] at h
          exact h)
        have HK2 : Hid (∀ w, Calls Try.prog 18 #[.agg (bs 384 (sixM f)), .int .i64 v, .int .i64 (v + 1)] w fun e w' => e = .returned (.int .i64 1) ∧ Below w.heap.size w w') := Lib.hid (fun w => by
          have h := count_any f v (v + 1) r (r + 1) w (by omega) (by omega) (by omega) (by omega) (by omega)
          rw [nf_one (fits f) r r (r + 1 - r).toNat (Int.le_refl _) (by omega) m3 (fun z z0 z1 => by omega) (by omega)] at h
          exact h)
        clear m1 m2 m3 m4 HSY hv ev HN hr
        have hz : ∀ w, (zeroValue 46).run Try.prog w = .ok (.agg (bs 384 fun _ => false)) w := (zero_of_info (n := 384) (by kernel_rfl)).1
        have HFO := Lib.hid (fun w => fieldsOf_any f d w)
        obtain ⟨z0, z1, z2, z3, z4, z5, z6, z7, z8, z9, z10, z11, -⟩ := HTN.out
        go_wp2_with (first
          | (with_reducible show wpList _ _ _ (Oper.mk _ (Op.store 46 _ _) _ _ _ _ :: _) _ _; refine wpList_store_row rfl 46 _ _ rfl w5.heap.size (bs 384 (sixM f)) rfl rfl 46 (bs 384 fun _ => false) (heap_new0 _ _ _ rfl) (by rw [bs_size]; kernel_rfl) (by rw [bs_size, bs_size]) (bs_one _ _) ?_; rw [World.setRow_alloc_new]; have HT6 := Lib.hid (as_on (bl_alloc (Below.refl _ _) (.cells (bs 384 (sixM f)) 46)) HT5.out); have HG6 := Lib.hid (heap_new0 w5 _ (.cells (bs 384 (sixM f)) 46) rfl); clear hz z0 z1 z2 z3 z4 z5 z6 z7 z8 z9 z10 z11; generalize w5.alloc (.cells (bs 384 (sixM f)) 46) = W6 at HT6 HG6 ⊢; generalize w5.heap.size = p at HG6 ⊢; obtain ⟨z0, z1, z2, z3, z4, z5, z6, z7, z8, z9, z10, z11, -⟩ := HT6.out)
          | (go_at_call 17; with_reducible refine (HFO.out _).mono ?_; rintro e w5 ⟨rfl, hb⟩; have HT5 := Lib.hid (as_on hb HTN.out); clear hb z0 z1 z2 z3 z4 z5 z6 z7 z8 z9 z10 z11; obtain ⟨z0, z1, z2, z3, z4, z5, z6, z7, z8, z9, z10, z11, -⟩ := HT5.out)
          | (with_reducible show wpList _ _ _ (Oper.mk _ (Op.load 46 _) _ _ _ _ :: _) _ _; refine wl_load46 rfl _ rfl _ rfl (sixM f) HG6.out ?_; simp only [Act.put, List.setIfInBounds_toArray, List.set_cons_zero, List.set_cons_succ])
          | (go_at_call 18; with_reducible refine (HK1.out _).mono ?_; rintro e w7 ⟨rfl, hb⟩; have HT7 := Lib.hid (as_on hb HT6.out); have HG7 := Lib.hid (blk_on hb HG6.out); clear hb z0 z1 z2 z3 z4 z5 z6 z7 z8 z9 z10 z11 HG6 HT6; have HG6 := HG7; have HT6 := HT7; clear HG7 HT7; obtain ⟨z0, z1, z2, z3, z4, z5, z6, z7, z8, z9, z10, z11, -⟩ := HT6.out)
          | (go_at_call 18; with_reducible refine (HK2.out _).mono ?_; rintro e w8 ⟨rfl, hb⟩; have HT7 := Lib.hid (as_on hb HT6.out); have HG7 := Lib.hid (blk_on hb HG6.out); clear hb z0 z1 z2 z3 z4 z5 z6 z7 z8 z9 z10 z11 HG6 HT6; have HG6 := HG7; have HT6 := HT7; clear HG7 HT7; obtain ⟨z0, z1, z2, z3, z4, z5, z6, z7, z8, z9, z10, z11, -⟩ := HT6.out))
        all_goals go_ret
        all_goals exact ⟨rfl, as_bel HT6.out⟩
end Go.Proofs.Ytdgglkihiibmhaa
