/-
  The specification's search on clocks without changes: what it finds is in the fields.
-/
import Derived.Test.YtdgglkihiibmhaaTim
import Derived.Test.YtdgglkihiibmhaaEmp
set_option linter.unusedVariables false
set_option linter.unusedSimpArgs false
namespace Go.Proofs.Ytdgglkihiibmhaa
open Go Go.RowKit Cal Go.Proofs.YtdgglkihiibmhaaW.PrintLast

theorem exec46 {a : Act} {o : Oper} {W : World} {g : Nat} {A : Nat → Bool} (x : Operand) (ho : o.op = .load 46 x) (hx : a.eval x = .pointer (some ⟨g, 0, none⟩)) (hg : W.heap[g]? = some (.cells (bs 384 A) 46)) : (execOp a.eval o).run Try.prog W = .ok (.value (.agg (bs 384 A))) W := by
  unfold execOp
  simp only [ho, hx, Instr.loadAt, Instr.sureAddr, Sem.run_bind, Sem.run_pure, Result.andThen_ok, load46v hg]
def L8 (w : World) (g0 q : Nat) (A : Nat → Bool) (a : Bool) (y m d : Int) (w' : World) : Prop :=
  w'.cell? ⟨q, 0, none⟩ = some (.int .i64 y) ∧ w'.cell? ⟨q, 1, none⟩ = some (.int .i64 m) ∧ w'.cell? ⟨q, 2, none⟩ = some (.int .i64 d) ∧ w'.cell? ⟨g0, 257 + m.toNat, none⟩ = some (.bool a) ∧ w'.heap[g0]? = some (.cells (bs 384 A) 46) ∧ w'.heap[q]? = some (.cells #[.int .i64 y, .int .i64 m, .int .i64 d] 80) ∧ Hid (Below w.heap.size w w')
theorem l8_on {w : World} {g0 q : Nat} {A : Nat → Bool} {a : Bool} {y m d : Int} {W W' : World} (hb : Below W.heap.size W W') (h : L8 w g0 q A a y m d W) : L8 w g0 q A a y m d W' := by
  obtain ⟨a0, a1, a2, a3, a4, a5, hh⟩ := h
  exact ⟨cell_on hb a0, cell_on hb a1, cell_on hb a2, cell_on hb a3, blk_on hb a4, blk_on hb a5, Lib.hid (bl_on hh.out hb)⟩
theorem l8_mk {w W : World} {g0 q : Nat} {A : Nat → Bool} {y m d : Int} (hg : W.heap[g0]? = some (.cells (bs 384 A) 46)) (hq : W.heap[q]? = some (.cells #[.int .i64 y, .int .i64 m, .int .i64 d] 80)) (hb : Below w.heap.size w W) (m0 : 0 ≤ m) (m1 : m < 63) : L8 w g0 q A (A (257 + m.toNat)) y m d W :=
  ⟨(blk_cell hq 0).trans rfl, (blk_cell hq 1).trans rfl, (blk_cell hq 2).trans rfl, (blk_cell hg _).trans (bs_get _ _ _ (by omega)), hg, hq, Lib.hid hb⟩
theorem put3_blk {W : World} {q : Nat} {a b c a' b' c' : Int} (h : W.heap[q]? = some (.cells #[.int .i64 a, .int .i64 b, .int .i64 c] 80)) : (((W.setCell ⟨q, 0, none⟩ (.int .i64 a')).setCell ⟨q, 1, none⟩ (.int .i64 b')).setCell ⟨q, 2, none⟩ (.int .i64 c')).heap[q]? = some (.cells #[.int .i64 a', .int .i64 b', .int .i64 c'] 80) := blk_put (blk_put (blk_put h))
theorem put3_bel {w W : World} {q : Nat} {a' b' c' : Int} (h : Below w.heap.size w W) (hq : w.heap.size ≤ q) : Below w.heap.size w (((W.setCell ⟨q, 0, none⟩ (.int .i64 a')).setCell ⟨q, 1, none⟩ (.int .i64 b')).setCell ⟨q, 2, none⟩ (.int .i64 c')) := bl_set (bl_set (bl_set h (by exact hq) _) (by exact hq) _) (by exact hq) _
theorem put3_out {W : World} {q g : Nat} {a' b' c' : Int} (h : g ≠ q) : (((W.setCell ⟨q, 0, none⟩ (.int .i64 a')).setCell ⟨q, 1, none⟩ (.int .i64 b')).setCell ⟨q, 2, none⟩ (.int .i64 c')).heap[g]? = W.heap[g]? := by
  rw [blk_out h, blk_out h, blk_out h]
theorem q3_of {W : World} {q : Nat} {y m d : Int} (h : W.heap[q]? = some (.cells #[.int .i64 y, .int .i64 m, .int .i64 d] 80)) : W.cell? ⟨q, 0, none⟩ = some (.int .i64 y) ∧ W.cell? ⟨q, 1, none⟩ = some (.int .i64 m) ∧ W.cell? ⟨q, 2, none⟩ = some (.int .i64 d) ∧ W.frozen? ⟨q, 0, none⟩ = false ∧ W.frozen? ⟨q, 1, none⟩ = false ∧ W.frozen? ⟨q, 2, none⟩ = false :=
  ⟨(blk_cell h 0).trans rfl, (blk_cell h 1).trans rfl, (blk_cell h 2).trans rfl, blk_frozen h 0, blk_frozen h 1, blk_frozen h 2⟩
theorem l8_lt {w : World} {g0 q : Nat} {A : Nat → Bool} {a : Bool} {y m d : Int} {W : World} (h : L8 w g0 q A a y m d W) : g0 < W.heap.size ∧ q < W.heap.size := ⟨(Array.getElem?_eq_some_iff.1 h.2.2.2.2.1).1, (Array.getElem?_eq_some_iff.1 h.2.2.2.2.2.1).1⟩
theorem l8_g {w : World} {g0 q : Nat} {A : Nat → Bool} {a : Bool} {y m d : Int} {W : World} (h : L8 w g0 q A a y m d W) : W.heap[g0]? = some (.cells (bs 384 A) 46) := h.2.2.2.2.1
theorem l8_bel {w : World} {g0 q : Nat} {A : Nat → Bool} {a : Bool} {y m d : Int} {W : World} (h : L8 w g0 q A a y m d W) : Below w.heap.size w W := h.2.2.2.2.2.2.out
theorem l8_c {w : World} {g0 q : Nat} {A : Nat → Bool} {a : Bool} {y m d : Int} {W : World} (h : L8 w g0 q A a y m d W) : W.cell? ⟨q, 0, none⟩ = some (.int .i64 y) ∧ W.cell? ⟨q, 1, none⟩ = some (.int .i64 m) ∧ W.cell? ⟨q, 2, none⟩ = some (.int .i64 d) := ⟨h.1, h.2.1, h.2.2.1⟩
theorem timeOk_pos {A : Nat → Bool} {fr s : Int} (h : TimeOk A fr s) (hs : 0 ≤ s) : fr ≤ s ∧ s < 86400 ∧ A (129 + (s / 3600).toNat) = true ∧ A (65 + (s % 3600 / 60).toNat) = true ∧ A (1 + (s % 60).toNat) = true := by
  rcases h with h | h
  · omega
  · exact h
/-- the second that a day's second is -/
abbrev sx (day s : Int) : Int := (day + 719162) * 86400 + s
/-- what the search answers: a second, or none; where one is told, there is one -/
def LocOk (A : Nat → Bool) (x l : Int) (e : Ending) : Prop := ∃ v b, e = .returned (.tuple #[.int .i64 v, .bool b]) ∧ (b = true → ∃ day y m d s, IsDate day y m d ∧ 0 < y ∧ y ≤ l ∧ x ≤ sx day s ∧ 0 ≤ s ∧ s < 86400 ∧ A (257 + m.toNat) = true ∧ dayF A d ((day + 4) % 7) = true ∧ A (129 + (s / 3600).toNat) = true ∧ A (65 + (s % 3600 / 60).toNat) = true ∧ A (1 + (s % 60).toNat) = true)
theorem year_b {day y m d l : Int} (h : IsDate day y m d) (hy : y ≤ l) (l1 : l ≤ 20000) : day < YS (l + 1) ∧ YS (l + 1) ≤ 8000000 := by
  have h1 := (date_in_year h).2
  have h2 := ys_le (show y + 1 ≤ l + 1 by omega)
  refine ⟨by omega, ?_⟩
  unfold YS
  omega
theorem day_b {day y m d : Int} (h : IsDate day y m d) : 1 ≤ m ∧ m ≤ 12 ∧ 1 ≤ d ∧ d ≤ 31 := by
  have hm : MD y m ≤ 31 := by unfold MD; have := lp_01 y; (repeat' split) <;> omega
  have := h.dm
  exact ⟨h.m1, h.m12, h.d1, by omega⟩
set_option maxRecDepth 100000 in
set_option maxHeartbeats 16000000 in
theorem local_any (A : Nat → Bool) (x l : Int) (w : World) (x0 : 0 ≤ x) (x1 : x ≤ 1000000000000) (l1 : l ≤ 20000) : Calls Try.prog 51 #[.agg (bs 384 A), .int .i64 (x - 62135596800), .int .i64 4611686018427387904, .int .i64 l] w fun e w' => LocOk A x l e ∧ Below w.heap.size w w' := by
  have HG := Lib.hid (heap_new0 w _ (.cells (bs 384 A) 46) rfl)
  have hq : (x - 62135596800) / 86400 = x / 86400 - 719162 := by omega
  have HQ := Lib.hid hq
  clear hq
  have HX := Lib.hid (And.intro x0 x1)
  have HL1 := Lib.hid l1
  have hw1 : wrap64 (86400 * (x / 86400 - 719162)) = 86400 * (x / 86400 - 719162) := wi (by omega) (by omega)
  have hw2 : wrap64 (x - 62135596800 - 86400 * (x / 86400 - 719162)) = x - 62135596800 - 86400 * (x / 86400 - 719162) := wi (by omega) (by omega)
  have HE := Lib.hid (show x - 62135596800 - 86400 * (x / 86400 - 719162) = x % 86400 by omega)
  go_enter Try.func51, Try.ntmps51
  go_upto_region 1 with fail
  generalize hW : w.alloc (.cells (bs 384 A) 46) = W at *
  have HB : Hid (Below w.heap.size w W) := Lib.hid (by rw [← hW]; exact bl_alloc (Below.refl _ _) _)
  clear hW
  go_wp2_with (first
    | (with_reducible show wpList _ _ _ (Oper.mk _ (Op.load 46 _) _ _ _ _ :: _) _ _; refine wl_load46 rfl _ rfl _ rfl A HG.out ?_; simp only [Act.put, List.setIfInBounds_toArray, List.set_cons_zero, List.set_cons_succ])
    | (go_at_call 64; with_reducible refine (never_ex _ _).mono ?_; rintro e w1 ⟨⟨b, rfl⟩, hb⟩; have HG0 := Lib.hid (blk_on hb HG.out); have HB0 := Lib.hid (bl_on HB.out hb); clear HG HB hb; have HG := HG0; have HB := HB0; clear HG0 HB0)
    | (go_at_call 34; with_reducible refine (fdiv_any (x - 62135596800) 86400 _ (by decide) (by decide) (by omega) (by omega)).mono ?_; rw [HQ.out]; rintro e w2 ⟨rfl, rfl⟩)
    | (go_at_call 35; with_reducible refine (dateOf_any (x / 86400 - 719162) _ (by omega) (by omega)).mono ?_; rintro e w3 ⟨⟨y, m, d, rfl, hd, hy⟩, hb⟩; have HD0 := Lib.hid (And.intro hd hy); have HG0 := Lib.hid (blk_on hb HG.out); have HB0 := Lib.hid (bl_on HB.out hb); clear HG HB hb hd hy; have HG := HG0; have HB := HB0; clear HG0 HB0))
  · refine bodyPost_ret (v := .tuple #[.int .i64 0, .bool false]) (by simp [results, Try.results51, go_sem]) rfl ⟨⟨0, false, rfl, fun h => absurd h (by decide)⟩, HB.out⟩
  · rw [HE.out]
    clear hw1 hw2
    have HGL := Lib.hid (show w.heap.size < w3.heap.size from (Array.getElem?_eq_some_iff.1 HG.out).1)
    go_loopg [10, 11, 12] (YS (l + 1) + 1 - (x / 86400 - 719162)).toNat (fun g v10 v11 v12 w' => ∃ (day at_ : Int) (q : Nat) (y m d : Int), v10 = .int .i64 day ∧ v11 = .int .i64 at_ ∧ v12 = .pointer (some ⟨q, 0, none⟩) ∧ Hid (IsDate day y m d ∧ 0 < y) ∧ Hid (x ≤ sx day at_ ∧ 0 ≤ at_ ∧ at_ < 86400 ∧ -719162 ≤ day ∧ day ≤ 100000000 ∧ g = (YS (l + 1) + 1 - day).toNat) ∧ Hid (w'.heap[w.heap.size]? = some (.cells (bs 384 A) 46) ∧ w'.heap[q]? = some (.cells #[.int .i64 y, .int .i64 m, .int .i64 d] 80) ∧ w.heap.size < q ∧ Below w.heap.size w w'))
    case atStart =>
      have h := HX.out
      exact ⟨_, _, _, y, m, d, rfl, rfl, rfl, HD0, Lib.hid ⟨by unfold sx; omega, by omega, by omega, by omega, by omega, rfl⟩, Lib.hid ⟨heap_old HG.out, heap_new0 _ _ _ rfl, HGL.out, bl_alloc HB.out _⟩⟩
    case round =>
      clear HG HB HD0 HGL
      obtain ⟨day, at_, q, y, m, d, rfl, rfl, rfl, HD, HY, HW⟩ := hrel
      have hyb := day_b HD.out.1
      have HYB := Lib.hid hyb
      clear hyb
      have j0 : wr.cell? ⟨q, 0, none⟩ = some (.int .i64 y) := (blk_cell HW.out.2.1 0).trans rfl
      have hwd : wrap64 (86400 * day) = 86400 * day := by have h := HY.out; exact wi (by omega) (by omega)
      have hdu : decide (86400 * day < 4611686018427387904) = true := decide_eq_true (by have h := HY.out; omega)
      by_cases hyl : y ≤ l
      · have HYL := Lib.hid hyl
        have hd6 := decide_eq_true hyl
        clear hyl
        have HYR := Lib.hid (year_b HD.out.1 HYL.out HL1.out)
        go_upto_region 8 with fail
        have m0 : 0 ≤ m := by have := HYB.out; omega
        have m1 : m < 63 := by have := HYB.out; omega
        have HT0 := Lib.hid (l8_mk HW.out.1 HW.out.2.1 HW.out.2.2.2 m0 m1)
        have hd1 : wrap64 (day + 1) = day + 1 := by have h := HY.out; exact wi (by omega) (by omega)
        have HWD := Lib.hid (fun w => wday_b day w (by have h := HY.out; omega) (by have h := HY.out; omega))
        have HDF := Lib.hid (fun w => dayFits_any A y m d ((day + 4) % 7) w (by have := HYB.out; omega) (by have := HYB.out; omega) (by omega) (by omega))
        generalize ha : A (257 + m.toNat) = a at HT0
        have HA := Lib.hid ha
        clear ha
        have HT := HT0
        clear HT0
        cases a
        · skip
          refine start_ (n := 13) (S := fun w' => L8 w w.heap.size q A false y m d w') (ds := []) #[false, false, false, false, false, false, false, false, false, false, false, false, false] (by kernel_rfl) rfl rfl (l8_on (bl_drew (Below.refl _ _)) HT.out) (fun hHeld => ?_)
          refine pure_ (i := 0) (N := some 36) (v := ?_) (a' := ?_) #[true, false, false, false, false, false, false, false, false, false, false, false, false] rfl rfl (by kernel_rfl) (fun _ _ _ h => h) (Or.inl ⟨by rfl, ?_⟩) ?_ ?_
          rotate_left
          · intro w'
            go_simp
            with_reducible rfl
          rotate_left
          · simp only [Act.put, List.setIfInBounds_toArray, List.set_cons_zero, List.set_cons_succ, i64_w, i32_w]
            rfl
          refine pure_ (i := 2) (N := some 38) (v := ?_) (a' := ?_) #[true, false, true, false, false, false, false, false, false, false, false, false, false] rfl rfl (by kernel_rfl) (fun _ _ _ h => h) (Or.inl ⟨by rfl, ?_⟩) ?_ ?_
          rotate_left
          · intro w'
            go_simp
            with_reducible rfl
          rotate_left
          · simp only [Act.put, List.setIfInBounds_toArray, List.set_cons_zero, List.set_cons_succ, i64_w, i32_w]
            rfl
          refine pure_ (i := 3) (N := some 39) (v := ?_) (a' := ?_) #[true, false, true, true, false, false, false, false, false, false, false, false, false] rfl rfl (by kernel_rfl) (fun _ _ _ h => h) (Or.inl ⟨by rfl, ?_⟩) ?_ ?_
          rotate_left
          · intro w'
            go_simp
            with_reducible rfl
          rotate_left
          · simp only [Act.put, List.setIfInBounds_toArray, List.set_cons_zero, List.set_cons_succ, i64_w, i32_w]
            rfl
          refine take_ (i := 1) (N := some 37) (v := ?_) (a' := ?_) #[true, true, true, true, false, false, false, false, false, false, false, false, false] rfl rfl (by kernel_rfl) (fun _ _ _ h => h) (Or.inl ⟨by rfl, ?_⟩) hHeld ?_ ?_
          rotate_left
          · rintro w' ⟨s0, s1, s2, s3, s4, s5, s6⟩
            go_simp
            with_reducible rfl
          rotate_left
          · simp only [Act.put, List.setIfInBounds_toArray, List.set_cons_zero, List.set_cons_succ, i64_w, i32_w]
            rfl
          refine pure_ (i := 4) (N := some 40) (v := ?_) (a' := ?_) #[true, true, true, true, true, false, false, false, false, false, false, false, false] rfl rfl (by kernel_rfl) (fun _ _ _ h => h) (Or.inl ⟨by rfl, ?_⟩) ?_ ?_
          rotate_left
          · intro w'
            go_simp
            with_reducible rfl
          rotate_left
          · simp only [Act.put, List.setIfInBounds_toArray, List.set_cons_zero, List.set_cons_succ, i64_w, i32_w]
            rfl
          refine take_ (i := 5) (N := some 41) (v := ?_) (a' := ?_) #[true, true, true, true, true, true, false, false, false, false, false, false, false] rfl rfl (by kernel_rfl) (fun _ _ _ h => h) (Or.inl ⟨by rfl, ?_⟩) hHeld ?_ ?_
          rotate_left
          · rintro w' ⟨s0, s1, s2, s3, s4, s5, s6⟩
            go_simp
            with_reducible rfl
          rotate_left
          · simp only [Act.put, List.setIfInBounds_toArray, List.set_cons_zero, List.set_cons_succ, i64_w, i32_w]
            rfl
          refine pure_ (i := 6) (N := some 42) (v := ?_) (a' := ?_) #[true, true, true, true, true, true, true, false, false, false, false, false, false] rfl rfl (by kernel_rfl) (fun _ _ _ h => h) (Or.inl ⟨by rfl, ?_⟩) ?_ ?_
          rotate_left
          · intro w'
            go_simp
            with_reducible rfl
          rotate_left
          · simp only [Act.put, List.setIfInBounds_toArray, List.set_cons_zero, List.set_cons_succ, i64_w, i32_w]
            rfl
          refine pure_ (i := 7) (N := some 43) (v := undef) (a' := ?_) #[true, true, true, true, true, true, true, true, false, false, false, false, false] rfl rfl (by kernel_rfl) (fun _ _ _ h => h) (Or.inr ⟨by rfl, rfl⟩) ?_ ?_
          rotate_left
          · simp only [Act.put, List.setIfInBounds_toArray, List.set_cons_zero, List.set_cons_succ, i64_w, i32_w]
            rfl
          refine pure_ (i := 8) (N := some 44) (v := undef) (a' := ?_) #[true, true, true, true, true, true, true, true, true, false, false, false, false] rfl rfl (by kernel_rfl) (fun _ _ _ h => h) (Or.inr ⟨by rfl, rfl⟩) ?_ ?_
          rotate_left
          · simp only [Act.put, List.setIfInBounds_toArray, List.set_cons_zero, List.set_cons_succ, i64_w, i32_w]
            rfl
          refine pure_ (i := 9) (N := some 45) (v := undef) (a' := ?_) #[true, true, true, true, true, true, true, true, true, true, false, false, false] rfl rfl (by kernel_rfl) (fun _ _ _ h => h) (Or.inr ⟨by rfl, rfl⟩) ?_ ?_
          rotate_left
          · simp only [Act.put, List.setIfInBounds_toArray, List.set_cons_zero, List.set_cons_succ, i64_w, i32_w]
            rfl
          refine pure_ (i := 10) (N := some 46) (v := undef) (a' := ?_) #[true, true, true, true, true, true, true, true, true, true, true, false, false] rfl rfl (by kernel_rfl) (fun _ _ _ h => h) (Or.inr ⟨by rfl, rfl⟩) ?_ ?_
          rotate_left
          · simp only [Act.put, List.setIfInBounds_toArray, List.set_cons_zero, List.set_cons_succ, i64_w, i32_w]
            rfl
          refine pure_ (i := 11) (N := some 47) (v := undef) (a' := ?_) #[true, true, true, true, true, true, true, true, true, true, true, true, false] rfl rfl (by kernel_rfl) (fun _ _ _ h => h) (Or.inr ⟨by rfl, rfl⟩) ?_ ?_
          rotate_left
          · simp only [Act.put, List.setIfInBounds_toArray, List.set_cons_zero, List.set_cons_succ, i64_w, i32_w]
            rfl
          refine pure_ (i := 12) (N := some 48) (v := ?_) (a' := ?_) #[true, true, true, true, true, true, true, true, true, true, true, true, true] rfl rfl (by kernel_rfl) (fun _ _ _ h => h) (Or.inl ⟨by rfl, ?_⟩) ?_ ?_
          rotate_left
          · intro w'
            go_simp
            with_reducible rfl
          rotate_left
          · simp only [Act.put, List.setIfInBounds_toArray, List.set_cons_zero, List.set_cons_succ, i64_w, i32_w]
            rfl
          refine done_ (by kernel_rfl) ?_
          have HZ := Lib.hid hHeld
          clear hHeld
          generalize wr.drew = W5 at HZ ⊢
          obtain ⟨z0, z1, z2⟩ := l8_c HZ.out
          have HZS := Lib.hid (l8_lt HZ.out)
          go_wp2_with (first
            | (go_at_call 36; with_reducible refine (tomorrow_any day y m d _ HD.out.1 HD.out.2 (by have := HYL.out; have := HL1.out; omega)).mono ?_; rintro e w9 ⟨⟨y', m', d', rfl, hd', hy'⟩, hb9⟩; have H9 := Lib.hid (And.intro hd' hy'); have HB9 := Lib.hid hb9; clear hd' hy' hb9; have HGN := Lib.hid (blk_on HB9.out (heap_old (o' := .cells #[.int .i64 y, .int .i64 m, .int .i64 d] 80) (l8_g HZ.out))); have HQN := Lib.hid (blk_on HB9.out (heap_new0 _ _ (.cells #[.int .i64 y, .int .i64 m, .int .i64 d] 80) rfl)); obtain ⟨r0, r1, r2, f0, f1, f2⟩ := q3_of HQN.out))
          go_roundg (YS (l + 1) + 1 - (day + 1)).toNat
          case measure => have := HY.out; have := HYR.out; omega
          case rel =>
            have h1 := HY.out
            have h2 := HYR.out
            have h3 := HZS.out
            unfold sx at h1
            exact ⟨day + 1, 0, _, y', m', d', by first | rfl | rw [wi (x := day + 1) (by omega) (by omega)], rfl, rfl, H9, Lib.hid ⟨by unfold sx; omega, by decide, by decide, by omega, by omega, rfl⟩, Lib.hid ⟨(put3_out (by omega)).trans HGN.out, put3_blk HQN.out, h3.1, put3_bel (bl_on (bl_alloc (l8_bel HZ.out) _) HB9.out) (by omega)⟩⟩
        · generalize hdf : dayF A d ((day + 4) % 7) = df at HDF
          have HDD := Lib.hid hdf
          clear hdf
          refine start_ (n := 13) (S := fun w' => L8 w w.heap.size q A true y m d w') (ds := []) #[false, false, false, false, false, false, false, false, false, false, false, false, false] (by kernel_rfl) rfl rfl (l8_on (bl_drew (Below.refl _ _)) HT.out) (fun hHeld => ?_)
          refine pure_ (i := 0) (N := some 36) (v := ?_) (a' := ?_) #[true, false, false, false, false, false, false, false, false, false, false, false, false] rfl rfl (by kernel_rfl) (fun _ _ _ h => h) (Or.inl ⟨by rfl, ?_⟩) ?_ ?_
          rotate_left
          · intro w'
            go_simp
            with_reducible rfl
          rotate_left
          · simp only [Act.put, List.setIfInBounds_toArray, List.set_cons_zero, List.set_cons_succ, i64_w, i32_w]
            rfl
          refine pure_ (i := 2) (N := some 38) (v := ?_) (a' := ?_) #[true, false, true, false, false, false, false, false, false, false, false, false, false] rfl rfl (by kernel_rfl) (fun _ _ _ h => h) (Or.inl ⟨by rfl, ?_⟩) ?_ ?_
          rotate_left
          · intro w'
            go_simp
            with_reducible rfl
          rotate_left
          · simp only [Act.put, List.setIfInBounds_toArray, List.set_cons_zero, List.set_cons_succ, i64_w, i32_w]
            rfl
          refine pure_ (i := 3) (N := some 39) (v := ?_) (a' := ?_) #[true, false, true, true, false, false, false, false, false, false, false, false, false] rfl rfl (by kernel_rfl) (fun _ _ _ h => h) (Or.inl ⟨by rfl, ?_⟩) ?_ ?_
          rotate_left
          · intro w'
            go_simp
            with_reducible rfl
          rotate_left
          · simp only [Act.put, List.setIfInBounds_toArray, List.set_cons_zero, List.set_cons_succ, i64_w, i32_w]
            rfl
          refine take_ (i := 1) (N := some 37) (v := ?_) (a' := ?_) #[true, true, true, true, false, false, false, false, false, false, false, false, false] rfl rfl (by kernel_rfl) (fun _ _ _ h => h) (Or.inl ⟨by rfl, ?_⟩) hHeld ?_ ?_
          rotate_left
          · rintro w' ⟨s0, s1, s2, s3, s4, s5, s6⟩
            go_simp
            with_reducible rfl
          rotate_left
          · simp only [Act.put, List.setIfInBounds_toArray, List.set_cons_zero, List.set_cons_succ, i64_w, i32_w]
            rfl
          refine pure_ (i := 4) (N := some 40) (v := ?_) (a' := ?_) #[true, true, true, true, true, false, false, false, false, false, false, false, false] rfl rfl (by kernel_rfl) (fun _ _ _ h => h) (Or.inl ⟨by rfl, ?_⟩) ?_ ?_
          rotate_left
          · intro w'
            go_simp
            with_reducible rfl
          rotate_left
          · simp only [Act.put, List.setIfInBounds_toArray, List.set_cons_zero, List.set_cons_succ, i64_w, i32_w]
            rfl
          refine take_ (i := 5) (N := some 41) (v := ?_) (a' := ?_) #[true, true, true, true, true, true, false, false, false, false, false, false, false] rfl rfl (by kernel_rfl) (fun _ _ _ h => h) (Or.inl ⟨by rfl, ?_⟩) hHeld ?_ ?_
          rotate_left
          · rintro w' ⟨s0, s1, s2, s3, s4, s5, s6⟩
            go_simp
            with_reducible rfl
          rotate_left
          · simp only [Act.put, List.setIfInBounds_toArray, List.set_cons_zero, List.set_cons_succ, i64_w, i32_w]
            rfl
          refine pure_ (i := 6) (N := some 42) (v := ?_) (a' := ?_) #[true, true, true, true, true, true, true, false, false, false, false, false, false] rfl rfl (by kernel_rfl) (fun _ _ _ h => h) (Or.inl ⟨by rfl, ?_⟩) ?_ ?_
          rotate_left
          · intro w'
            go_simp
            with_reducible rfl
          rotate_left
          · simp only [Act.put, List.setIfInBounds_toArray, List.set_cons_zero, List.set_cons_succ, i64_w, i32_w]
            rfl
          refine pure_ (i := 9) (N := some 45) (v := ?_) (a' := ?_) #[true, true, true, true, true, true, true, false, false, true, false, false, false] rfl rfl (by kernel_rfl) (fun _ _ _ h => h) (Or.inl ⟨by rfl, ?_⟩) ?_ ?_
          rotate_left
          · intro w'
            go_simp
            with_reducible rfl
          rotate_left
          · simp only [Act.put, List.setIfInBounds_toArray, List.set_cons_zero, List.set_cons_succ, i64_w, i32_w]
            rfl
          refine take_ (i := 7) (N := some 43) (v := ?_) (a' := ?_) #[true, true, true, true, true, true, true, true, false, true, false, false, false] rfl rfl (by kernel_rfl) (fun _ _ _ h => h) (Or.inl ⟨by rfl, ?_⟩) hHeld ?_ ?_
          rotate_left
          · rintro w' ⟨s0, s1, s2, s3, s4, s5, s6⟩
            refine exec46 (.tmp 4) ?_ ?_ s4 <;> rfl
          rotate_left
          · simp only [Act.put, List.setIfInBounds_toArray, List.set_cons_zero, List.set_cons_succ, i64_w, i32_w]
            rfl
          refine take_ (i := 8) (N := some 44) (v := ?_) (a' := ?_) #[true, true, true, true, true, true, true, true, true, true, false, false, false] rfl rfl (by kernel_rfl) (fun _ _ _ h => h) (Or.inl ⟨by rfl, ?_⟩) hHeld ?_ ?_
          rotate_left
          · rintro w' ⟨s0, s1, s2, s3, s4, s5, s6⟩
            go_simp
            with_reducible rfl
          rotate_left
          · simp only [Act.put, List.setIfInBounds_toArray, List.set_cons_zero, List.set_cons_succ, i64_w, i32_w]
            rfl
          refine one_ (i := 10) (N := some 46) #[true, true, true, true, true, true, true, true, true, true, true, false, false] rfl rfl (by kernel_rfl) (by decide) (fun K hK => ?_)
          refine goes_ Try.func38 (by kernel_rfl) rfl #[.int .i64 day] (by rfl) rfl rfl (by simp only [List.map_toArray, List.map_cons, List.map_nil]; rfl) ?_
          with_reducible refine (HWD.out _).mono ?_
          rintro e w4 ⟨rfl, hb⟩
          refine ⟨_, rfl, ?_⟩
          refine hK.out _ _ (l8_on hb hHeld) (fun hHeld => ?_)
          clear hK K
          refine norm_ (a' := ?_) ?_ ?_
          rotate_left
          · show Act.put _ (some 46) _ = _
            simp only [Act.put, List.setIfInBounds_toArray, List.set_cons_zero, List.set_cons_succ, i64_w, i32_w]
            rfl
          refine one_ (i := 11) (N := some 47) #[true, true, true, true, true, true, true, true, true, true, true, true, false] rfl rfl (by kernel_rfl) (by decide) (fun K hK => ?_)
          refine goes_ Try.func37 (by kernel_rfl) rfl #[.agg (bs 384 A), dV y m d, .int .i64 ((day + 4) % 7)] (by rfl) rfl rfl (by simp only [List.map_toArray, List.map_cons, List.map_nil]; rfl) ?_
          with_reducible refine (HDF.out _).mono ?_
          rintro e w4 ⟨rfl, hb⟩
          refine ⟨_, rfl, ?_⟩
          refine hK.out _ _ (l8_on hb hHeld) (fun hHeld => ?_)
          clear hK K
          refine norm_ (a' := ?_) ?_ ?_
          rotate_left
          · show Act.put _ (some 47) _ = _
            simp only [Act.put, List.setIfInBounds_toArray, List.set_cons_zero, List.set_cons_succ, i64_w, i32_w]
            rfl
          refine pure_ (i := 12) (N := some 48) (v := ?_) (a' := ?_) #[true, true, true, true, true, true, true, true, true, true, true, true, true] rfl rfl (by kernel_rfl) (fun _ _ _ h => h) (Or.inl ⟨by rfl, ?_⟩) ?_ ?_
          rotate_left
          · intro w'
            go_simp
            with_reducible rfl
          rotate_left
          · simp only [Act.put, List.setIfInBounds_toArray, List.set_cons_zero, List.set_cons_succ, i64_w, i32_w]
            rfl
          refine done_ (by kernel_rfl) ?_
          have HZ := Lib.hid hHeld
          clear hHeld
          clear hb
          clear HT
          generalize w4 = W5 at HZ ⊢
          cases df
          · skip
            obtain ⟨z0, z1, z2⟩ := l8_c HZ.out
            have HZS := Lib.hid (l8_lt HZ.out)
            go_wp2_with (first
              | (go_at_call 36; with_reducible refine (tomorrow_any day y m d _ HD.out.1 HD.out.2 (by have := HYL.out; have := HL1.out; omega)).mono ?_; rintro e w9 ⟨⟨y', m', d', rfl, hd', hy'⟩, hb9⟩; have H9 := Lib.hid (And.intro hd' hy'); have HB9 := Lib.hid hb9; clear hd' hy' hb9; have HGN := Lib.hid (blk_on HB9.out (heap_old (o' := .cells #[.int .i64 y, .int .i64 m, .int .i64 d] 80) (l8_g HZ.out))); have HQN := Lib.hid (blk_on HB9.out (heap_new0 _ _ (.cells #[.int .i64 y, .int .i64 m, .int .i64 d] 80) rfl)); obtain ⟨r0, r1, r2, f0, f1, f2⟩ := q3_of HQN.out))
            go_roundg (YS (l + 1) + 1 - (day + 1)).toNat
            case measure => have := HY.out; have := HYR.out; omega
            case rel =>
              have h1 := HY.out
              have h2 := HYR.out
              have h3 := HZS.out
              unfold sx at h1
              exact ⟨day + 1, 0, _, y', m', d', by first | rfl | rw [wi (x := day + 1) (by omega) (by omega)], rfl, rfl, H9, Lib.hid ⟨by unfold sx; omega, by decide, by decide, by omega, by omega, rfl⟩, Lib.hid ⟨(put3_out (by omega)).trans HGN.out, put3_blk HQN.out, h3.1, put3_bel (bl_on (bl_alloc (l8_bel HZ.out) _) HB9.out) (by omega)⟩⟩
          · obtain ⟨z0, z1, z2⟩ := l8_c HZ.out
            have a0 : 0 ≤ at_ := HY.out.2.1
            have a1 : at_ < 86400 := HY.out.2.2.1
            go_wp2_with (first
              | (with_reducible show wpList _ _ _ (Oper.mk _ (Op.load 46 _) _ _ _ _ :: _) _ _; refine wl_load46 rfl _ rfl _ rfl A (l8_g HZ.out) ?_; simp only [Act.put, List.setIfInBounds_toArray, List.set_cons_zero, List.set_cons_succ])
              | (go_at_call 65; (with_reducible refine (time_any A at_ _ a0 a1).mono ?_; rintro e w5 ⟨⟨s, rfl, hs⟩, hb⟩; have HS := Lib.hid hs; have HZ5 := Lib.hid (l8_on hb HZ.out); clear hs hb z0 z1 z2 HZ; have HZ := HZ5; clear HZ5; obtain ⟨z0, z1, z2⟩ := l8_c HZ.out; have HZS := Lib.hid (l8_lt HZ.out); by_cases hs0 : 0 ≤ s; (have hd10 := decide_eq_true hs0; have HS1 := Lib.hid (timeOk_pos HS.out hs0); have hwz : wrap64 (86400 * day + s) = 86400 * day + s := (by have h := HY.out; have h1 := HS1.out; exact wi (by omega) (by omega)); have HS0 := Lib.hid hs0; clear hs0); rotate_left 1; (have hd10 := decide_eq_false hs0; clear hs0); rotate_left 1))
              | (go_at_call 36; with_reducible refine (tomorrow_any day y m d _ HD.out.1 HD.out.2 (by have := HYL.out; have := HL1.out; omega)).mono ?_; rintro e w9 ⟨⟨y', m', d', rfl, hd', hy'⟩, hb9⟩; have H9 := Lib.hid (And.intro hd' hy'); have HB9 := Lib.hid hb9; clear hd' hy' hb9; have HGN := Lib.hid (blk_on HB9.out (heap_old (o' := .cells #[.int .i64 y, .int .i64 m, .int .i64 d] 80) (l8_g HZ.out))); have HQN := Lib.hid (blk_on HB9.out (heap_new0 _ _ (.cells #[.int .i64 y, .int .i64 m, .int .i64 d] 80) rfl)); obtain ⟨r0, r1, r2, f0, f1, f2⟩ := q3_of HQN.out))
            all_goals first
              | (refine bodyPost_ret (v := .tuple #[.int .i64 (86400 * day + s), .bool (decide (86400 * day + s < 4611686018427387904))]) ?_ rfl ⟨⟨_, _, rfl, fun _ => ⟨day, y, m, d, s, HD.out.1, HD.out.2, HYL.out, ?_, HS0.out, HS1.out.2.1, HA.out, HDD.out, HS1.out.2.2.1, HS1.out.2.2.2.1, HS1.out.2.2.2.2⟩⟩, (l8_bel HZ.out)⟩
                 · simp [results, Try.results51, go_sem, hwz]
                 · have h1 := HY.out
                   have h2 := HS1.out
                   unfold sx at h1 ⊢
                   omega)
              | skip
            go_roundg (YS (l + 1) + 1 - (day + 1)).toNat
            case measure => have := HY.out; have := HYR.out; omega
            case rel =>
              have h1 := HY.out
              have h2 := HYR.out
              have h3 := HZS.out
              unfold sx at h1
              exact ⟨day + 1, 0, _, y', m', d', by first | rfl | rw [wi (x := day + 1) (by omega) (by omega)], rfl, rfl, H9, Lib.hid ⟨by unfold sx; omega, by decide, by decide, by omega, by omega, rfl⟩, Lib.hid ⟨(put3_out (by omega)).trans HGN.out, put3_blk HQN.out, h3.1, put3_bel (bl_on (bl_alloc (l8_bel HZ.out) _) HB9.out) (by omega)⟩⟩

      · have hd6 := decide_eq_false hyl
        clear hyl
        go_wp2_with fail
        refine bodyPost_ret (v := .tuple #[.int .i64 0, .bool false]) (by simp [results, Try.results51, go_sem]) rfl ⟨⟨0, false, rfl, fun h => absurd h (by decide)⟩, HW.out.2.2.2⟩
end Go.Proofs.Ytdgglkihiibmhaa
