/-
  The specification's fits: a date and a time of day in a schedule's fields.
-/
import Derived.Test.YtdgglkihiibmhaaFle
set_option linter.unusedVariables false
set_option linter.unusedSimpArgs false
namespace Go.Proofs.Ytdgglkihiibmhaa
open Go Go.RowKit Cal Go.Proofs.YtdgglkihiibmhaaW.PrintLast

/-- the day fields' word -/
def dayF (A : Nat → Bool) (d wd : Int) : Bool := if A 192 || A 320 then A (193 + d.toNat) && A (321 + wd.toNat) else A (193 + d.toNat) || A (321 + wd.toNat)
abbrev DF (w : World) (A : Nat → Bool) (y m d wd : Int) (W : World) : Prop :=
  W.cell? ⟨w.heap.size, 192, none⟩ = some (.bool (A 192)) ∧ W.cell? ⟨w.heap.size, 320, none⟩ = some (.bool (A 320)) ∧ W.cell? ⟨w.heap.size, 193 + d.toNat, none⟩ = some (.bool (A (193 + d.toNat))) ∧ W.cell? ⟨w.heap.size, 321 + wd.toNat, none⟩ = some (.bool (A (321 + wd.toNat))) ∧ W.cell? ⟨w.heap.size + 1, 0, none⟩ = some (.int .i64 y) ∧ W.cell? ⟨w.heap.size + 1, 1, none⟩ = some (.int .i64 m) ∧ W.cell? ⟨w.heap.size + 1, 2, none⟩ = some (.int .i64 d) ∧ Hid (Below w.heap.size w W)
theorem df_on {w : World} {A : Nat → Bool} {y m d wd : Int} {W W' : World} (hb : Below W.heap.size W W') (h : DF w A y m d wd W) : DF w A y m d wd W' := by
  obtain ⟨a0, a1, a2, a3, a4, a5, a6, hh⟩ := h
  exact ⟨cell_on hb a0, cell_on hb a1, cell_on hb a2, cell_on hb a3, cell_on hb a4, cell_on hb a5, cell_on hb a6, Lib.hid (bl_on hh.out hb)⟩
theorem df_start (w : World) (A : Nat → Bool) (y m d wd : Int) (d0 : 0 ≤ d) (d1 : d < 63) (w0 : 0 ≤ wd) (w1 : wd < 63) : DF w A y m d wd ((w.alloc (.cells (bs 384 A) 46)).alloc (.cells #[.int .i64 y, .int .i64 m, .int .i64 d] 80)) := by
  have b0 := heap_old (o' := .cells #[.int .i64 y, .int .i64 m, .int .i64 d] 80) (heap_new0 w _ (.cells (bs 384 A) 46) rfl)
  have b1 := heap_new0 (w.alloc (.cells (bs 384 A) 46)) (w.heap.size + 1) (.cells #[.int .i64 y, .int .i64 m, .int .i64 d] 80) (by simp)
  exact ⟨(blk_cell b0 _).trans (bs_get _ _ _ (by decide)), (blk_cell b0 _).trans (bs_get _ _ _ (by decide)), (blk_cell b0 _).trans (bs_get _ _ _ (by omega)), (blk_cell b0 _).trans (bs_get _ _ _ (by omega)), (blk_cell b1 0).trans rfl, (blk_cell b1 1).trans rfl, (blk_cell b1 2).trans rfl, Lib.hid (by repeat (first | exact Below.refl _ _ | apply bl_alloc))⟩
set_option maxHeartbeats 2000000 in
theorem dayFits_any (A : Nat → Bool) (y m d wd : Int) (w : World) (d0 : 0 ≤ d) (d1 : d < 63) (w0 : 0 ≤ wd) (w1 : wd < 63) : Calls Try.prog 37 #[.agg (bs 384 A), dV y m d, .int .i64 wd] w fun e w' => e = .returned (.bool (dayF A d wd)) ∧ Below w.heap.size w w' := by
  have HS := Lib.hid (df_start w A y m d wd d0 d1 w0 w1)
  have HE : Hid (dayF A d wd = if A 192 || A 320 then A (193 + d.toNat) && A (321 + wd.toNat) else A (193 + d.toNat) || A (321 + wd.toNat)) := Lib.hid rfl
  go_enter Try.func37, Try.ntmps37
  go_upto_region 1 with fail
  generalize (w.alloc (.cells (bs 384 A) 46)).alloc (.cells #[.int .i64 y, .int .i64 m, .int .i64 d] 80) = W0 at *
  go_region_held3 (fun W => DF w A y m d wd W) (first | assumption | exact df_on (bl_drew (Below.refl _ _)) HS.out) (fail)
  have HZ := Lib.hid (df_on (bl_drew (Below.refl _ _)) HS.out)
  rename_i hq
  clear hq
  obtain ⟨k0, k1, -⟩ := HZ.out
  have HB := Lib.hid HZ.out.2.2.2.2.2.2.2.out
  generalize W0.drew = W1 at *
  clear HS HZ
  generalize A 192 = a at *
  generalize A 320 = b at *
  generalize A (193 + d.toNat) = c at *
  generalize A (321 + wd.toNat) = e at *
  cases a <;> cases b
  all_goals
    go_wp2_with fail
    all_goals go_ret
    all_goals refine ⟨?_, HB.out⟩
    all_goals rw [HE.out]
    all_goals clear HB HE
    all_goals first | rfl | (cases c <;> cases e <;> first | rfl | contradiction | (exfalso; simp_all; done))
/-- a date and a time of day in the fields -/
def fitsF (A : Nat → Bool) (m d h mi s wd : Int) : Bool := A (257 + m.toNat) && dayF A d wd && A (129 + h.toNat) && A (65 + mi.toNat) && A (1 + s.toNat)
theorem load46 {W : World} {g : Nat} {A : Nat → Bool} (h : W.heap[g]? = some (.cells (bs 384 A) 46)) : (Instr.loadAt 46 (.pointer (some ⟨g, 0, none⟩))).run Try.prog W = .ok (.agg (bs 384 A)) W := by
  simp only [Instr.loadAt, Instr.sureAddr, Sem.run_bind, Sem.run_pure, Result.andThen_ok]
  exact run_loadVar_row W g 46 46 (bs 384 A) (0, 0) _ h Try.underlying46 rfl (by rw [bs_size]; kernel_rfl)
theorem load46v {W : World} {g : Nat} {A : Nat → Bool} (h : W.heap[g]? = some (.cells (bs 384 A) 46)) : (loadVar 46 ⟨g, 0, none⟩).run Try.prog W = .ok (.agg (bs 384 A)) W := run_loadVar_row W g 46 46 (bs 384 A) (0, 0) _ h Try.underlying46 rfl (by rw [bs_size]; kernel_rfl)
theorem load46c {W : World} {g : Nat} {A : Nat → Bool} (h : W.heap[g]? = some (.cells (bs 384 A) 46)) : (loadCellsFrom ⟨g, 0, none⟩ 0 384 #[]).run Try.prog W = .ok (bs 384 A) W := by
  have := run_loadCells_list (P := Try.prog) W ⟨g, 0, none⟩ (bs 384 A).toList (fun j v hv => by
    have hadd : (⟨g, 0, none⟩ : Addr).add j = ⟨g, j, none⟩ := by unfold Addr.add; split <;> simp_all
    rw [hadd, blk_cell h]
    simpa using hv)
  rw [Array.length_toList, bs_size, Array.toArray_toList] at this
  exact this
theorem wl_load46 {ops : Array Oper} {Q : Exit → Act → World → Prop} {a : Act} {w : World} {rest : List Oper} {o : Oper} (hw : Region.wanted o (yielded ops a.tmps) = true) (x : Operand) (ho : o.op = .load 46 x) (g : Nat) (hx : a.eval x = .pointer (some ⟨g, 0, none⟩)) (A : Nat → Bool) (hg : w.heap[g]? = some (.cells (bs 384 A) 46)) (h : wpList Try.prog ops Q rest (a.put o.dst (.agg (bs 384 A))) w) : wpList Try.prog ops Q (o :: rest) a w :=
  BigFrame.wpList_want hw fun K hK => wp_load_row 46 x ho g hx 46 (bs 384 A) (0, 0) _ hg Try.underlying46 rfl (by rw [bs_size]; kernel_rfl) (hK _ _ h)
abbrev cG (y m d h mi s n wd : Int) : Value := .agg #[.int .i64 y, .int .i64 m, .int .i64 d, .int .i64 h, .int .i64 mi, .int .i64 s, .int .i64 n, .int .i64 wd]
abbrev cO (y m d h mi s n wd : Int) : Obj := .cells #[.int .i64 y, .int .i64 m, .int .i64 d, .int .i64 h, .int .i64 mi, .int .i64 s, .int .i64 n, .int .i64 wd] 56
abbrev FF (g q : Nat) (a b c e : Bool) (y m d h mi s n wd : Int) (W : World) : Prop :=
  W.cell? ⟨g, 257 + m.toNat, none⟩ = some (.bool a) ∧ W.cell? ⟨g, 129 + h.toNat, none⟩ = some (.bool b) ∧ W.cell? ⟨g, 65 + mi.toNat, none⟩ = some (.bool c) ∧ W.cell? ⟨g, 1 + s.toNat, none⟩ = some (.bool e) ∧ W.cell? ⟨q, 0, none⟩ = some (.int .i64 y) ∧ W.cell? ⟨q, 1, none⟩ = some (.int .i64 m) ∧ W.cell? ⟨q, 2, none⟩ = some (.int .i64 d) ∧ W.cell? ⟨q, 3, none⟩ = some (.int .i64 h) ∧ W.cell? ⟨q, 4, none⟩ = some (.int .i64 mi) ∧ W.cell? ⟨q, 5, none⟩ = some (.int .i64 s) ∧ W.cell? ⟨q, 7, none⟩ = some (.int .i64 wd)
theorem ff_on {g q : Nat} {a b c e : Bool} {y m d h mi s n wd : Int} {W W' : World} (hb : Below W.heap.size W W') (hh : FF g q a b c e y m d h mi s n wd W) : FF g q a b c e y m d h mi s n wd W' := by
  obtain ⟨a0, a1, a2, a3, a4, a5, a6, a7, a8, a9, a10⟩ := hh
  exact ⟨cell_on hb a0, cell_on hb a1, cell_on hb a2, cell_on hb a3, cell_on hb a4, cell_on hb a5, cell_on hb a6, cell_on hb a7, cell_on hb a8, cell_on hb a9, cell_on hb a10⟩
theorem ff_start {g q : Nat} {A : Nat → Bool} {y m d h mi s n wd : Int} {W : World} (hg : W.heap[g]? = some (.cells (bs 384 A) 46)) (hq : W.heap[q]? = some (cO y m d h mi s n wd)) (m0 : 0 ≤ m) (m1 : m < 63) (h0 : 0 ≤ h) (h1 : h < 63) (i0 : 0 ≤ mi) (i1 : mi < 63) (s0 : 0 ≤ s) (s1 : s < 63) : FF g q (A (257 + m.toNat)) (A (129 + h.toNat)) (A (65 + mi.toNat)) (A (1 + s.toNat)) y m d h mi s n wd W :=
  ⟨(blk_cell hg _).trans (bs_get _ _ _ (by omega)), (blk_cell hg _).trans (bs_get _ _ _ (by omega)), (blk_cell hg _).trans (bs_get _ _ _ (by omega)), (blk_cell hg _).trans (bs_get _ _ _ (by omega)), (blk_cell hq 0).trans rfl, (blk_cell hq 1).trans rfl, (blk_cell hq 2).trans rfl, (blk_cell hq 3).trans rfl, (blk_cell hq 4).trans rfl, (blk_cell hq 5).trans rfl, (blk_cell hq 7).trans rfl⟩
set_option maxHeartbeats 4000000 in
theorem fitsF_any (A : Nat → Bool) (y m d h mi s n wd : Int) (w : World) (m0 : 0 ≤ m) (m1 : m < 63) (d0 : 0 ≤ d) (d1 : d < 63) (h0 : 0 ≤ h) (h1 : h < 63) (i0 : 0 ≤ mi) (i1 : mi < 63) (s0 : 0 ≤ s) (s1 : s < 63) (w0 : 0 ≤ wd) (w1 : wd < 63) : Calls Try.prog 22 #[.agg (bs 384 A), cG y m d h mi s n wd] w fun e w' => e = .returned (.bool (fitsF A m d h mi s wd)) ∧ Below w.heap.size w w' := by
  have HG := Lib.hid (heap_old (o' := cO y m d h mi s n wd) (heap_new0 w _ (.cells (bs 384 A) 46) rfl))
  have HQ := Lib.hid (heap_new0 (w.alloc (.cells (bs 384 A) 46)) (w.heap.size + 1) (cO y m d h mi s n wd) (by simp))
  have HF := Lib.hid (ff_start HG.out HQ.out m0 m1 h0 h1 i0 i1 s0 s1)
  have HB : Hid (Below w.heap.size w ((w.alloc (.cells (bs 384 A) 46)).alloc (cO y m d h mi s n wd))) := Lib.hid (by repeat (first | exact Below.refl _ _ | apply bl_alloc))
  have HE : Hid (fitsF A m d h mi s wd = (A (257 + m.toNat) && dayF A d wd && A (129 + h.toNat) && A (65 + mi.toNat) && A (1 + s.toNat))) := Lib.hid rfl
  go_enter Try.func22, Try.ntmps22
  go_upto_region 1 with fail
  generalize (w.alloc (.cells (bs 384 A) 46)).alloc (cO y m d h mi s n wd) = W0 at *
  obtain ⟨k0, k1, k2, k3, k4, k5, k6, k7, k8, k9, k10⟩ := HF.out
  generalize A (257 + m.toNat) = a at *
  generalize A (129 + h.toNat) = b at *
  generalize A (65 + mi.toNat) = c at *
  generalize A (1 + s.toNat) = e at *
  generalize ht : dayF A d wd = t at *
  have HT := Lib.hid ht
  clear ht
  cases a
  · go_wp2_with fail
    all_goals go_ret
    exact ⟨by rw [HE.out]; rfl, HB.out⟩
  · go_wp2_with (first | (with_reducible show wpList _ _ _ (Oper.mk _ (Op.load 46 _) _ _ _ _ :: _) _ _; refine wl_load46 rfl _ rfl _ rfl A HG.out ?_; simp only [Act.put, List.setIfInBounds_toArray, List.set_cons_zero, List.set_cons_succ]) | (go_at_call 37; with_reducible refine (dayFits_any A y m d wd _ d0 d1 w0 w1).mono ?_; rintro e1 w3 ⟨he, hb⟩; rw [HT.out] at he; subst he; have HF3 := Lib.hid (ff_on hb HF.out); have HB3 := Lib.hid (bl_on HB.out hb); clear hb k0 k1 k2 k3 k4 k5 k6 k7 k8 k9 k10; obtain ⟨k0, k1, k2, k3, k4, k5, k6, k7, k8, k9, k10⟩ := HF3.out))
    all_goals go_ret
    all_goals refine ⟨?_, HB3.out⟩
    all_goals rw [HE.out]
    all_goals clear HG HQ HB HT HF HE HF3 HB3 k0 k1 k2 k3 k4 k5 k6 k7 k8 k9 k10
    all_goals (try simp_all)
/-- a value's mark -/
theorem sixM_in (f : Six) (k : Nat) (v : Int) (c : Nat) (hk : c = 64 * k + 1) (h0 : (lowK k : Int) ≤ v) (h1 : v ≤ highK k) : sixM f (c + v.toNat) = hb (sixB f k) v := by
  have hl : highK k ≤ 59 := by unfold highK; (repeat' split) <;> omega
  have e1 : (c + v.toNat) / 64 = k := by omega
  have e2 : (c + v.toNat) % 64 = 1 + v.toNat := by omega
  unfold sixM setM hb
  rw [e1, e2, if_neg (by omega), show 1 + v.toNat - 1 = v.toNat by omega, decide_eq_true (show lowK k ≤ v.toNat by omega), decide_eq_true (show v.toNat ≤ highK k by omega)]
  rfl
theorem sixM_star (f : Six) (k c : Nat) (hk : c = 64 * k) : sixM f c = hb (sixB f k) 63 := by
  have e1 : c / 64 = k := by omega
  have e2 : c % 64 = 0 := by omega
  unfold sixM setM hb
  rw [e1, e2, if_pos rfl]
  rfl
theorem dayF_dm (f : Six) (x : Int) (x0 : 0 ≤ x) : dayF (sixM f) (Dx x) (Wx x) = dm f x := by
  have hx := x_date x (by omega)
  have hm : MD (Yx x) (Mx x) ≤ 31 := by unfold MD; have := lp_01 (Yx x); (repeat' split) <;> omega
  have hd := hx.dm
  have hd1 := hx.d1
  have hw : 0 ≤ Wx x ∧ Wx x ≤ 6 := by unfold Wx; omega
  unfold dayF dm
  rw [sixM_star f 3 192 rfl, sixM_star f 5 320 rfl, sixM_in f 3 (Dx x) 193 rfl (by show (1 : Int) ≤ _; omega) (by show _ ≤ (31 : Int); omega), sixM_in f 5 (Wx x) 321 rfl (by show (0 : Int) ≤ _; omega) (by show _ ≤ (6 : Int); omega)]
  rfl
theorem fitsF_fits (f : Six) (x : Int) (x0 : 0 ≤ x) : fitsF (sixM f) (Mx x) (Dx x) (x % 86400 / 3600) (x % 3600 / 60) (x % 60) (Wx x) = fits f x := by
  have hx := x_date x (by omega)
  unfold fitsF fits
  rw [dayF_dm f x x0, sixM_in f 4 (Mx x) 257 rfl (by show (1 : Int) ≤ _; exact hx.m1) (by show _ ≤ (12 : Int); exact hx.m12), sixM_in f 2 (x % 86400 / 3600) 129 rfl (by show (0 : Int) ≤ _; omega) (by show _ ≤ (23 : Int); omega), sixM_in f 1 (x % 3600 / 60) 65 rfl (by show (0 : Int) ≤ _; omega) (by show _ ≤ (59 : Int); omega), sixM_in f 0 (x % 60) 1 rfl (by show (0 : Int) ≤ _; omega) (by show _ ≤ (59 : Int); omega)]
  rfl
/-- the fits of a schedule at a second -/
theorem fits_any (f : Six) (x n : Int) (w : World) (x0 : 0 ≤ x) : Calls Try.prog 22 #[.agg (bs 384 (sixM f)), cV x n] w fun e w' => e = .returned (.bool (fits f x)) ∧ Below w.heap.size w w' := by
  have hx := x_date x (by omega)
  have hm : MD (Yx x) (Mx x) ≤ 31 := by unfold MD; have := lp_01 (Yx x); (repeat' split) <;> omega
  have hd := hx.dm
  have hd1 := hx.d1
  have hm1 := hx.m1
  have hm2 := hx.m12
  have hw : 0 ≤ Wx x ∧ Wx x ≤ 6 := by unfold Wx; omega
  have h := fitsF_any (sixM f) (Yx x) (Mx x) (Dx x) (x % 86400 / 3600) (x % 3600 / 60) (x % 60) n (Wx x) w (by omega) (by omega) (by omega) (by omega) (by omega) (by omega) (by omega) (by omega) (by omega) (by omega) (by omega) (by omega)
  rw [fitsF_fits f x x0] at h
  exact h
end Go.Proofs.Ytdgglkihiibmhaa
