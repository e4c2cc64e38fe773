/-
  The specification's next activation on clocks of UTC: where it tells one, there is one.
-/
import Derived.Test.YtdgglkihiibmhaaLoc
import Derived.Test.YtdgglkihiibmhaaRea
set_option linter.unusedVariables false
set_option linter.unusedSimpArgs false
namespace Go.Proofs.Ytdgglkihiibmhaa
open Go Go.RowKit Cal Go.Proofs.YtdgglkihiibmhaaW.PrintLast

/-- a day and a second of it make a second that fits -/
theorem fits_of {f : Six} {x l day y m d s : Int} (x0 : 0 ≤ x) (hd : IsDate day y m d) (hy : y ≤ l) (hx : x ≤ sx day s) (s0 : 0 ≤ s) (s1 : s < 86400) (h1 : sixM f (257 + m.toNat) = true) (h2 : dayF (sixM f) d ((day + 4) % 7) = true) (h3 : sixM f (129 + (s / 3600).toNat) = true) (h4 : sixM f (65 + (s % 3600 / 60).toNat) = true) (h5 : sixM f (1 + (s % 60).toNat) = true) : ∃ z, x ≤ z ∧ z < BY l ∧ fits f z = true := by
  obtain ⟨z, hz⟩ : ∃ z, z = sx day s := ⟨_, rfl⟩
  have hz1 := hz
  unfold sx at hz1
  have z0 : 0 ≤ z := by omega
  have e1 : z / 86400 - 719162 = day := by omega
  obtain ⟨a, b, c⟩ := x_one (x := z) z0 (by rw [e1]; exact hd)
  refine ⟨z, by omega, (by_iff z l z0).1 (by rw [a]; exact hy), ?_⟩
  rw [← fitsF_fits f z z0, b, c]
  unfold fitsF
  rw [show z % 86400 / 3600 = s / 3600 by omega, show z % 3600 / 60 = s % 3600 / 60 by omega, show z % 60 = s % 60 by omega, show Wx z = (day + 4) % 7 by unfold Wx; omega, h1, h2, h3, h4, h5]
  rfl
/-- what the specification answers -/
def SnOk (f : Six) (x l : Int) (e : Ending) : Prop := ∃ v b, e = .returned (.tuple #[inV v 0, .bool b]) ∧ (b = true → ∃ z, x ≤ z ∧ z < BY l ∧ fits f z = true)
theorem localS_any (f : Six) (x l : Int) (w : World) (x0 : 0 ≤ x) (x1 : x ≤ 1000000000000) (l1 : l ≤ 20000) : Calls Try.prog 51 #[.agg (bs 384 (sixM f)), .int .i64 (x - 62135596800), .int .i64 4611686018427387904, .int .i64 l] w fun e w' => (∃ v b, e = .returned (.tuple #[.int .i64 v, .bool b]) ∧ (b = true → ∃ z, x ≤ z ∧ z < BY l ∧ fits f z = true)) ∧ Below w.heap.size w w' := (local_any (sixM f) x l w x0 x1 l1).mono (by
  rintro e w' ⟨⟨v, b, rfl, h⟩, hb⟩
  refine ⟨⟨v, b, rfl, fun hb1 => ?_⟩, hb⟩
  obtain ⟨day, y, m, d, s, h1, h2, h3, h4, h5, h6, h7, h8, h9, h10, h11⟩ := h hb1
  exact fits_of x0 h1 h3 h4 h5 h6 h7 h8 h9 h10 h11)
abbrev NC (w : World) (s : Int) (W : World) : Prop := W.cell? ⟨w.heap.size + 1, 0, none⟩ = some (.int .i64 s) ∧ W.cell? ⟨w.heap.size + 1 + 1, 0, none⟩ = some (.slice none 0 0) ∧ W.cell? ⟨w.heap.size + 1 + 1, 1, none⟩ = some (.slice none 0 0) ∧ W.cell? ⟨w.heap.size + 1 + 1, 2, none⟩ = some (.slice none 0 0) ∧ W.cell? ⟨w.heap.size + 1 + 1, 3, none⟩ = some (.slice none 0 0) ∧ R2 (w.heap.size + 1 + 1 + 1) W
def NX (w : World) (A : Nat → Bool) (s : Int) (W : World) : Prop := W.heap[w.heap.size]? = some (.cells (bs 384 A) 46) ∧ NC w s W ∧ Hid (Below w.heap.size w W)
theorem nx_on {w : World} {A : Nat → Bool} {s : Int} {W W' : World} (hb : Below W.heap.size W W') (h : NX w A s W) : NX w A s W' := by
  obtain ⟨h0, ⟨a0, a1, a2, a3, a4, hr⟩, hh⟩ := h
  exact ⟨blk_on hb h0, ⟨cell_on hb a0, cell_on hb a1, cell_on hb a2, cell_on hb a3, cell_on hb a4, r2_on hb hr⟩, Lib.hid (bl_on hh.out hb)⟩
theorem nx_c {w : World} {A : Nat → Bool} {s : Int} {W : World} (h : NX w A s W) : NC w s W := h.2.1
theorem nx_g {w : World} {A : Nat → Bool} {s : Int} {W : World} (h : NX w A s W) : W.heap[w.heap.size]? = some (.cells (bs 384 A) 46) := h.1
theorem nx_b {w : World} {A : Nat → Bool} {s : Int} {W : World} (h : NX w A s W) : Below w.heap.size w W := h.2.2.out
abbrev zo : Obj := .cells #[.slice none 0 0, .slice none 0 0, .slice none 0 0, .slice none 0 0] 35
abbrev io (s n : Int) : Obj := .cells #[.int .i64 s, .int .i64 n] 23
theorem nx_start (w : World) (A : Nat → Bool) (s n : Int) : NX w A s ((((w.alloc (.cells (bs 384 A) 46)).alloc (io s n)).alloc zo).alloc (io 0 0)) := by
  have b0 := heap_old (o' := io 0 0) (heap_old (o' := zo) (heap_old (o' := io s n) (heap_new0 w _ (.cells (bs 384 A) 46) rfl)))
  have b1 := heap_old (o' := io 0 0) (heap_old (o' := zo) (heap_new0 (w.alloc (.cells (bs 384 A) 46)) (w.heap.size + 1) (io s n) (by simp)))
  have b2 := heap_old (o' := io 0 0) (heap_new0 ((w.alloc (.cells (bs 384 A) 46)).alloc (io s n)) (w.heap.size + 1 + 1) zo (by simp))
  obtain ⟨k3, k4, f3, f4⟩ := res2 (g := w.heap.size + 1 + 1 + 1) (heap_new0 (((w.alloc (.cells (bs 384 A) 46)).alloc (io s n)).alloc zo) _ (io 0 0) (by simp))
  exact ⟨b0, ⟨(blk_cell b1 0).trans rfl, (blk_cell b2 0).trans rfl, (blk_cell b2 1).trans rfl, (blk_cell b2 2).trans rfl, (blk_cell b2 3).trans rfl, ⟨i0_of k3, i0_of k4, f3, f4⟩⟩, Lib.hid (by repeat (first | exact Below.refl _ _ | apply bl_alloc))⟩
set_option maxRecDepth 100000 in
set_option maxHeartbeats 8000000 in
theorem specNextF_any (f : Six) (s x n : Int) (w : World) (hx : x = s + 62135596800 + 1) (x0 : 1 ≤ x) (x1 : x ≤ 400000000000) : Calls Try.prog 32 #[.agg (bs 384 (sixM f)), inV s n, znV] w fun e w' => SnOk f x (Yx x + 5) e ∧ Below w.heap.size w w' := by
  have HN := Lib.hid (nx_start w (sixM f) s n)
  have HQ := Lib.hid (show (s + 1) / 86400 = x / 86400 - 719162 by omega)
  have HX := Lib.hid (And.intro x0 x1)
  have HY : Hid (Yx x + 5 ≤ 20000) := Lib.hid (by
    have h := (date_in_year (x_date x (by omega))).1
    unfold YS at h
    omega)
  have HL : Hid (∀ w, Calls Try.prog 51 #[.agg (bs 384 (sixM f)), .int .i64 (s + 1), .int .i64 4611686018427387904, .int .i64 (Yx x + 5)] w fun e w' => (∃ v b, e = .returned (.tuple #[.int .i64 v, .bool b]) ∧ (b = true → ∃ z, x ≤ z ∧ z < BY (Yx x + 5) ∧ fits f z = true)) ∧ Below w.heap.size w w') := Lib.hid (fun w => by
    have h := localS_any f x (Yx x + 5) w (by omega) (by omega) HY.out
    rw [show x - 62135596800 = s + 1 by omega] at h
    exact h)
  have hfy : ∀ (y m d : Int) w, (Instr.field 80 (dV y m d) 0).run Try.prog w = .ok (.int .i64 y) w := fun _ _ _ _ => by kernel_rfl
  obtain ⟨yb0, yb1, -⟩ := date_b x (by omega) (by omega)
  have s0 : -62135596800 ≤ s := by omega
  have s1 : s ≤ 400000000000 := by omega
  have HXS := Lib.hid hx
  clear hx
  go_enter Try.func32, Try.ntmps32
  go_upto_region 1 with fail
  generalize (((w.alloc (.cells (bs 384 (sixM f)) 46)).alloc (io s n)).alloc zo).alloc (io 0 0) = W at *
  obtain ⟨c0, c1, c2, c3, c4, r0, r1, f0, f1⟩ := nx_c HN.out
  go_wp2_with (first
    | (go_at_call 41; with_reducible refine (offset_any _ _).mono ?_; rintro e w1 ⟨rfl, hb⟩; have HN0 := Lib.hid (nx_on hb HN.out); clear hb HN c0 c1 c2 c3 c4 r0 r1 f0 f1; have HN := HN0; clear HN0; obtain ⟨c0, c1, c2, c3, c4, r0, r1, f0, f1⟩ := nx_c HN.out)
    | (go_at_call 34; with_reducible refine (fdiv_any (s + 1) 86400 _ (by decide) (by decide) (by omega) (by omega)).mono ?_; rw [HQ.out]; rintro e w2 ⟨rfl, rfl⟩)
    | (go_at_call 35; with_reducible refine (dateOf_any (x / 86400 - 719162) _ (by omega) (by omega)).mono ?_; rintro e w3 ⟨⟨y, m, d, rfl, hd, hy⟩, hb⟩; have HN0 := Lib.hid (nx_on hb HN.out); have HD := Lib.hid (x_one (by have := HX.out; omega) hd); clear hb HN c0 c1 c2 c3 c4 r0 r1 f0 f1 hd hy; have HN := HN0; clear HN0; obtain ⟨c0, c1, c2, c3, c4, r0, r1, f0, f1⟩ := nx_c HN.out; rw [← HD.out.1]))
  go_loopg [8] 1 (fun g v8 w' => v8 = .int .i64 (s + 1) ∧ Hid (NX w (sixM f) s w'))
  case atStart => exact ⟨rfl, HN⟩
  case round =>
    clear HN c0 c1 c2 c3 c4 r0 r1 f0 f1
    obtain ⟨rfl, HN⟩ := hrel
    obtain ⟨c0, c1, c2, c3, c4, r0, r1, f0, f1⟩ := nx_c HN.out
    go_wp2_with (first
      | (with_reducible show wpList _ _ _ (Oper.mk _ (Op.load 46 _) _ _ _ _ :: _) _ _; refine wl_load46 rfl _ rfl _ rfl (sixM f) (nx_g HN.out) ?_; simp only [Act.put, List.setIfInBounds_toArray, List.set_cons_zero, List.set_cons_succ])
      | (go_at_call 41; with_reducible refine (offset_any _ _).mono ?_; rintro e w1 ⟨rfl, hb⟩; have HN0 := Lib.hid (nx_on hb HN.out); clear hb HN c0 c1 c2 c3 c4 r0 r1 f0 f1; have HN := HN0; clear HN0; obtain ⟨c0, c1, c2, c3, c4, r0, r1, f0, f1⟩ := nx_c HN.out)
      | (go_at_call 50; with_reducible refine (change_any _ _).mono ?_; rintro e w1 ⟨rfl, hb⟩; have HN0 := Lib.hid (nx_on hb HN.out); clear hb HN c0 c1 c2 c3 c4 r0 r1 f0 f1; have HN := HN0; clear HN0; obtain ⟨c0, c1, c2, c3, c4, r0, r1, f0, f1⟩ := nx_c HN.out)
      | (go_at_call 51; with_reducible refine (HL.out _).mono ?_; rintro e w1 ⟨⟨v, b, rfl, hv⟩, hb⟩; have HV := Lib.hid hv; have HN0 := Lib.hid (nx_on hb HN.out); clear hv hb HN c0 c1 c2 c3 c4 r0 r1 f0 f1; have HN := HN0; clear HN0; obtain ⟨c0, c1, c2, c3, c4, r0, r1, f0, f1⟩ := nx_c HN.out))
    · obtain ⟨q0, q1⟩ := r2_get (s := wrap64 v) (n := 0) (nx_c HN.out).2.2.2.2.2
      rename_i hb
      refine bodyPost_ret (v := .tuple #[inV (wrap64 v) 0, .bool true]) (by simp [results, Try.results32, go_sem, q0, q1]) rfl ⟨⟨_, true, rfl, fun _ => HV.out hb⟩, bl_set (bl_set (nx_b HN.out) (by show _ ≤ w.heap.size + 1 + 1 + 1; omega) _) (by show _ ≤ w.heap.size + 1 + 1 + 1; omega) _⟩
    · obtain ⟨q0, q1⟩ := r2_get (s := 0) (n := 0) (nx_c HN.out).2.2.2.2.2
      refine bodyPost_ret (v := .tuple #[inV 0 0, .bool false]) (by simp [results, Try.results32, go_sem, q0, q1]) rfl ⟨⟨_, false, rfl, fun h => absurd h (by decide)⟩, bl_set (bl_set (nx_b HN.out) (by show _ ≤ w.heap.size + 1 + 1 + 1; omega) _) (by show _ ≤ w.heap.size + 1 + 1 + 1; omega) _⟩
/-- where no second fits, the specification tells none -/
theorem specNone_any (f : Six) (s x n : Int) (w : World) (hx : x = s + 62135596800 + 1) (x0 : 1 ≤ x) (x1 : x ≤ 400000000000) (hn : ∀ z, x ≤ z → z < BY (Yx x + 5) → fits f z = false) : Calls Try.prog 32 #[.agg (bs 384 (sixM f)), inV s n, znV] w fun e w' => (∃ v, e = .returned (.tuple #[inV v 0, .bool false])) ∧ Below w.heap.size w w' := (specNextF_any f s x n w hx x0 x1).mono (by
  rintro e w' ⟨⟨v, b, rfl, h⟩, hb⟩
  refine ⟨⟨v, ?_⟩, hb⟩
  cases b
  · rfl
  · obtain ⟨z, z0, z1, z2⟩ := h rfl
    rw [hn z z0 z1] at z2
    exact absurd z2 (by decide))
abbrev N0 (w : World) (f : Six) (d s n : Int) (W : World) : Prop :=
  W.cell? ⟨w.heap.size, 0, none⟩ = some (.bool false) ∧ W.cell? ⟨w.heap.size, 1, none⟩ = some (.int .i64 d) ∧ W.cell? ⟨w.heap.size, 2, none⟩ = some (.int .u64 f.se) ∧ W.cell? ⟨w.heap.size, 3, none⟩ = some (.int .u64 f.mi) ∧ W.cell? ⟨w.heap.size, 4, none⟩ = some (.int .u64 f.ho) ∧ W.cell? ⟨w.heap.size, 5, none⟩ = some (.int .u64 f.dom) ∧ W.cell? ⟨w.heap.size, 6, none⟩ = some (.int .u64 f.mo) ∧ W.cell? ⟨w.heap.size, 7, none⟩ = some (.int .u64 f.dow) ∧
  W.cell? ⟨w.heap.size + 1, 0, none⟩ = some (.int .i64 s) ∧ W.cell? ⟨w.heap.size + 1, 1, none⟩ = some (.int .i64 n) ∧
  W.cell? ⟨w.heap.size + 1 + 1, 0, none⟩ = some (.slice none 0 0) ∧ W.cell? ⟨w.heap.size + 1 + 1, 1, none⟩ = some (.slice none 0 0) ∧ W.cell? ⟨w.heap.size + 1 + 1, 2, none⟩ = some (.slice none 0 0) ∧ W.cell? ⟨w.heap.size + 1 + 1, 3, none⟩ = some (.slice none 0 0) ∧ Hid (Below w.heap.size w W)
theorem n0_on {w : World} {f : Six} {d s n : Int} {W W' : World} (hb : Below W.heap.size W W') (h : N0 w f d s n W) : N0 w f d s n W' := by
  obtain ⟨a0, a1, a2, a3, a4, a5, a6, a7, b0, b1, c0, c1, c2, c3, hh⟩ := h
  exact ⟨cell_on hb a0, cell_on hb a1, cell_on hb a2, cell_on hb a3, cell_on hb a4, cell_on hb a5, cell_on hb a6, cell_on hb a7, cell_on hb b0, cell_on hb b1, cell_on hb c0, cell_on hb c1, cell_on hb c2, cell_on hb c3, Lib.hid (bl_on hh.out hb)⟩
theorem n0_set {w : World} {f : Six} {d s n : Int} {W : World} {r : Nat} {u v : Int} (hr : w.heap.size + 1 + 1 < r) (h : N0 w f d s n W) : N0 w f d s n ((W.setCell ⟨r, 0, none⟩ (.int .i64 u)).setCell ⟨r, 1, none⟩ (.int .i64 v)) := by
  obtain ⟨a0, a1, a2, a3, a4, a5, a6, a7, b0, b1, c0, c1, c2, c3, hh⟩ := h
  have o0 : w.heap.size ≠ r := by omega
  have o1 : w.heap.size + 1 ≠ r := by omega
  have o2 : w.heap.size + 1 + 1 ≠ r := by omega
  exact ⟨cell_room o0 a0, cell_room o0 a1, cell_room o0 a2, cell_room o0 a3, cell_room o0 a4, cell_room o0 a5, cell_room o0 a6, cell_room o0 a7, cell_room o1 b0, cell_room o1 b1, cell_room o2 c0, cell_room o2 c1, cell_room o2 c2, cell_room o2 c3, Lib.hid (bl_set (bl_set hh.out (by show _ ≤ r; omega) _) (by show _ ≤ r; omega) _)⟩
theorem n0_lt {w : World} {f : Six} {d s n : Int} {W : World} (h : N0 w f d s n W) : w.heap.size + 1 + 1 < W.heap.size := by
  obtain ⟨-, -, -, -, -, -, -, -, -, -, c0, -⟩ := h
  exact World.block_lt_of_cell? _ _ c0
theorem n0_start (w : World) (f : Six) (d s n : Int) : N0 w f d s n (((w.alloc (schO false f d)).alloc (io s n)).alloc zo) := by
  have b0 := heap_old (o' := zo) (heap_old (o' := io s n) (heap_new0 w _ (schO false f d) rfl))
  have b1 := heap_old (o' := zo) (heap_new0 (w.alloc (schO false f d)) (w.heap.size + 1) (io s n) (by simp))
  have b2 := heap_new0 ((w.alloc (schO false f d)).alloc (io s n)) (w.heap.size + 1 + 1) zo (by simp)
  exact ⟨(blk_cell b0 0).trans rfl, (blk_cell b0 1).trans rfl, (blk_cell b0 2).trans rfl, (blk_cell b0 3).trans rfl, (blk_cell b0 4).trans rfl, (blk_cell b0 5).trans rfl, (blk_cell b0 6).trans rfl, (blk_cell b0 7).trans rfl, (blk_cell b1 0).trans rfl, (blk_cell b1 1).trans rfl, (blk_cell b2 0).trans rfl, (blk_cell b2 1).trans rfl, (blk_cell b2 2).trans rfl, (blk_cell b2 3).trans rfl, Lib.hid (by repeat (first | exact Below.refl _ _ | apply bl_alloc))⟩
set_option maxRecDepth 100000 in
set_option maxHeartbeats 8000000 in
theorem none_any (f : Six) (d s x n : Int) (w : World) (hx : x = s + 62135596800 + 1) (x0 : 1 ≤ x) (x1 : x ≤ 400000000000) (hn : ∀ z, x ≤ z → z < BY (Yx x + 5) → fits f z = false) : Calls Try.prog 16 #[sixV f d, inV s n, znV] w fun e w' => e = .returned (.bool true) ∧ Below w.heap.size w w' := by
  have HN := Lib.hid (fun w => specNone_any f s x n w hx x0 x1 hn)
  have HS := Lib.hid (n0_start w f d s n)
  clear hx hn
  go_enter Try.func16, Try.ntmps16
  go_upto_region 1 with fail
  generalize ((w.alloc (schO false f d)).alloc (io s n)).alloc zo = W4 at *
  have hH0 : N0 w f d s n W4.drew := n0_on (bl_drew (Below.refl _ _)) HS.out
  have HLT := Lib.hid (n0_lt HS.out)
  go_region_held3 (fun W => N0 w f d s n W) (first | assumption | exact hH0 | exact n0_on hb4 (by assumption) | exact n0_on hb3 (by assumption) | exact n0_on (bl_alloc (Below.refl _ _) _) (by assumption) | exact n0_on (bl_alloc (Below.refl _ _) _) (n0_on hb4 (n0_on hb3 hH0)) | exact n0_set (r := W4.heap.size) (by have h8 := HLT.out; omega) (by assumption) | exact n0_set (r := w3.heap.size) (by have h8 := HLT.out; have h9 := hb3.size; simp at h9; omega) (by assumption) | exact n0_set (r := w5.heap.size) (by have h8 := HLT.out; have h9 := hb3.size; have h10 := hb4.size; simp at h9 h10; omega) (by assumption) | fail) (first
    | (go_at_call 17; with_reducible refine (fieldsOf_any f d _).mono ?_; rintro e w3 ⟨rfl, hb3⟩; try (have HK := blk_on hb3 (heap_new0 _ W4.heap.size (.cells #[.int .i64 0, .int .i64 0] 23) (by simp)); obtain ⟨r0, r1, f0, f1⟩ := res2 HK))
    | (go_at_call 32; with_reducible refine (HN.out _).mono ?_; rintro e w5 ⟨⟨v, rfl⟩, hb4⟩; first | (have HK := blk_on hb4 (heap_new0 _ w3.heap.size (.cells #[.int .i64 0, .int .i64 0] 23) rfl); obtain ⟨r0, r1, f0, f1⟩ := res2 HK) | (have HK := blk_on hb4 HK; obtain ⟨r0, r1, f0, f1⟩ := res2 HK) | skip))
  all_goals
    rename_i hH
    have HE := Lib.hid hH.2.2.2.2.2.2.2.2.2.2.2.2.2.2.out
    clear hH
    go_wp2_with fail
    all_goals go_ret
    all_goals exact ⟨rfl, HE.out⟩
end Go.Proofs.Ytdgglkihiibmhaa
