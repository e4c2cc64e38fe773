/-
  The specification's part of a day.
-/
import Derived.Test.YtdgglkihiibmhaaSiz
set_option linter.unusedVariables false
set_option linter.unusedSimpArgs false
namespace Go.Proofs.Ytdgglkihiibmhaa
open Go Go.RowKit Cal Go.Proofs.YtdgglkihiibmhaaW.PrintLast

def PA (w : World) (A : Nat → Bool) (w' : World) : Prop := w'.heap[w.heap.size]? = some (.cells (bs 384 A) 46) ∧ Hid (Below w.heap.size w w')
theorem pa_on {w : World} {A : Nat → Bool} {W W' : World} (hb : Below W.heap.size W W') (h : PA w A W) : PA w A W' := ⟨blk_on hb h.1, Lib.hid (bl_on h.2.out hb)⟩
theorem pa_g {w : World} {A : Nat → Bool} {W : World} (h : PA w A W) : W.heap[w.heap.size]? = some (.cells (bs 384 A) 46) := h.1
theorem pa_b {w : World} {A : Nat → Bool} {W : World} (h : PA w A W) : Below w.heap.size w W := h.2.out
theorem exec44 {a : Act} {o : Oper} {W : World} {g : Nat} {A : Nat → Bool} (x : Operand) (k : Nat) (ho : o.op = .load 44 x) (hx : a.eval x = .pointer (some ⟨g, k, none⟩)) (hg : W.heap[g]? = some (.cells (bs 384 A) 46)) (hk : k + 64 ≤ 384) : (execOp a.eval o).run Try.prog W = .ok (.value (.agg (bs 64 fun j => A (k + j)))) W := by
  have hl := run_loadVar_mid (P := Try.prog) W g k 44 (bs 64 fun j => A (k + j)).toList _ (fun j v hv => by
    rw [Array.getElem?_toList] at hv
    have hj : j < 64 := by
      have := (Array.getElem?_eq_some_iff.1 hv).1
      rw [bs_size] at this
      exact this
    rw [bs_get _ _ _ hj] at hv
    rw [blk_cell hg, bs_get _ _ _ (by omega)]
    exact hv) Try.underlying44 rfl (by rw [Array.length_toList, bs_size]; kernel_rfl)
  rw [Array.toArray_toList] at hl
  unfold execOp
  simp only [ho, hx, Instr.loadAt, Instr.sureAddr, Sem.run_bind, Sem.run_pure, Result.andThen_ok, hl]
theorem mul_b {a b c : Nat} (ha : a ≤ 24) (hb : b ≤ 60) (hc : c ≤ 60) : a * b ≤ 1440 ∧ a * b * c ≤ 86400 := by
  have h1 : a * b ≤ 24 * 60 := Nat.mul_le_mul ha hb
  have h2 : a * b * c ≤ 24 * 60 * 60 := Nat.mul_le_mul h1 hc
  omega
theorem wrap_mul3 {a b c : Nat} (ha : a ≤ 24) (hb : b ≤ 60) (hc : c ≤ 60) : wrap64 (wrap64 ((a : Int) * (b : Int)) * (c : Int)) = ((a * b * c : Nat) : Int) := by
  have h := mul_b ha hb hc
  have e1 : wrap64 ((a : Int) * (b : Int)) = ((a * b : Nat) : Int) := by
    rw [← Int.natCast_mul]
    exact wi (by omega) (by omega)
  rw [e1, ← Int.natCast_mul]
  exact wi (by omega) (by omega)
theorem wrap_mul2 {b c : Nat} (hb : b ≤ 60) (hc : c ≤ 60) : wrap64 ((b : Int) * (c : Int)) = ((b * c : Nat) : Int) := by
  have h1 : b * c ≤ 60 * 60 := Nat.mul_le_mul hb hc
  rw [← Int.natCast_mul]
  exact wi (by omega) (by omega)
theorem part_eq (A : Nat → Bool) (s : Nat) : part A s = cn (fun j => A (128 + j)) (min (s / 3600) 24) * cn (fun j => A (64 + j)) 60 * cn (fun j => A (0 + j)) 60 + (if s / 3600 < 24 then (if A (129 + s / 3600) then cn (fun j => A (64 + j)) (s / 60 % 60) * cn (fun j => A (0 + j)) 60 + (if A (65 + s / 60 % 60) then cn (fun j => A (0 + j)) (s % 60) else 0) else 0) else 0) := rfl
set_option maxRecDepth 100000 in
set_option maxHeartbeats 4000000 in
theorem part_any (A : Nat → Bool) (s : Int) (w : World) (s0 : 0 ≤ s) (s1 : s ≤ 86400) : Calls Try.prog 39 #[.agg (bs 384 A), .int .i64 s] w fun e w' => e = .returned (.int .i64 ((part A s.toNat : Nat) : Int)) ∧ Below w.heap.size w w' := by
  have HG := Lib.hid (heap_new0 w _ (.cells (bs 384 A) 46) rfl)
  obtain ⟨R, hR⟩ : ∃ R : Int, R = ((part A s.toNat : Nat) : Int) := ⟨_, rfl⟩
  have HR := Lib.hid hR
  rw [← hR]
  clear hR
  have HS := Lib.hid (And.intro s0 s1)
  have p2 : 0 ≤ s / 60 := by omega
  go_enter Try.func39, Try.ntmps39
  go_upto_region 1 with fail
  generalize hW : w.alloc (.cells (bs 384 A) 46) = W at *
  have HT : Hid (PA w A W) := Lib.hid ⟨HG.out, Lib.hid (by rw [← hW]; exact bl_alloc (Below.refl _ _) _)⟩
  clear hW HG
  go_upto_region 2 with fail
  obtain ⟨hr, hhr⟩ : ∃ hr, hr = s / 3600 := ⟨_, rfl⟩
  obtain ⟨mi, hmi⟩ : ∃ mi, mi = s / 60 % 60 := ⟨_, rfl⟩
  obtain ⟨se, hse⟩ : ∃ se, se = s % 60 := ⟨_, rfl⟩
  rw [← hhr, ← hmi, ← hse]
  have HD := Lib.hid (And.intro hhr (And.intro hmi hse))
  have r0 : 0 ≤ hr := by omega
  have r1 : hr ≤ 24 := by omega
  have q0 : 0 ≤ mi := by omega
  have q1 : mi < 60 := by omega
  have t0 : 0 ≤ se := by omega
  have t1 : se < 60 := by omega
  clear hhr hmi hse p2
  have HS6 := Lib.hid (fun w => size_any (fun j => A j) 59 w (by decide) (by decide))
  have HH : Hid (∀ w, Calls Try.prog 57 #[.agg (bs 64 fun j => A (128 + j)), .int .i64 0, .int .i64 (wrap64 ((if 24 < hr then 24 else hr) - 1))] w fun e w' => e = .returned (.int .i64 ((cn (fun j => A (128 + j)) hr.toNat : Nat) : Int)) ∧ Below w.heap.size w w') := Lib.hid (fun w => by
    have h := size_any (fun j => A (128 + j)) (hr - 1) w (by omega) (by omega)
    rw [show hr - 1 + 1 = hr by omega] at h
    rw [if_neg (show ¬ 24 < hr by omega), wi (x := hr - 1) (by omega) (by omega)]
    exact h)
  have HM : Hid (∀ w, Calls Try.prog 57 #[.agg (bs 64 fun j => A (64 + j)), .int .i64 0, .int .i64 (wrap64 (mi - 1))] w fun e w' => e = .returned (.int .i64 ((cn (fun j => A (64 + j)) mi.toNat : Nat) : Int)) ∧ Below w.heap.size w w') := Lib.hid (fun w => by
    have h := size_any (fun j => A (64 + j)) (mi - 1) w (by omega) (by omega)
    rw [show mi - 1 + 1 = mi by omega] at h
    rw [wi (x := mi - 1) (by omega) (by omega)]
    exact h)
  have HE : Hid (∀ w, Calls Try.prog 57 #[.agg (bs 64 fun j => A j), .int .i64 0, .int .i64 (wrap64 (se - 1))] w fun e w' => e = .returned (.int .i64 ((cn (fun j => A j) se.toNat : Nat) : Int)) ∧ Below w.heap.size w w') := Lib.hid (fun w => by
    have h := size_any (fun j => A j) (se - 1) w (by omega) (by omega)
    rw [show se - 1 + 1 = se by omega] at h
    rw [wi (x := se - 1) (by omega) (by omega)]
    exact h)
  go_wp2_with (first
    | (with_reducible show wpList _ _ _ (Oper.mk _ (Op.load 44 _) _ _ _ _ :: _) _ _; refine wl_load (n := 64) rfl _ rfl _ _ rfl A 384 46 (pa_g HT.out) (by decide) Try.underlying44 rfl (by kernel_rfl) ?_; simp only [Act.put, List.setIfInBounds_toArray, List.set_cons_zero, List.set_cons_succ])
    | (go_at_call 57; with_reducible refine (HS6.out _).mono ?_; rintro e w1 ⟨rfl, hb⟩; have HT1 := Lib.hid (pa_on hb HT.out); clear HT hb; have HT := HT1; clear HT1))
  refine start_ (n := 13) (S := fun w' => PA w A w') (ds := []) #[false, false, false, false, false, false, false, false, false, false, false, false, false] (by kernel_rfl) rfl rfl (pa_on (bl_drew (Below.refl _ _)) HT.out) (fun hHeld => ?_)
  refine pure_ (i := 0) (N := some 20) (v := ?_) (a' := ?_) #[true, false, false, false, false, false, false, false, false, false, false, false, false] rfl rfl (by kernel_rfl) (fun _ _ _ h => h) (Or.inl ⟨by rfl, ?_⟩) ?_ ?_
  rotate_left
  · intro w'
    go_simp
    with_reducible rfl
  rotate_left
  · simp only [Act.put, List.setIfInBounds_toArray, List.set_cons_zero, List.set_cons_succ, i64_w, i32_w]
    rfl
  refine pure_ (i := 2) (N := some 22) (v := ?_) (a' := ?_) #[true, false, true, false, false, false, false, false, false, false, false, false, false] rfl rfl (by kernel_rfl) (fun _ _ _ h => h) (Or.inl ⟨by rfl, ?_⟩) ?_ ?_
  rotate_left
  · intro w'
    go_simp
    with_reducible rfl
  rotate_left
  · simp only [Act.put, List.setIfInBounds_toArray, List.set_cons_zero, List.set_cons_succ, i64_w, i32_w]
    rfl
  refine pure_ (i := 3) (N := some 23) (v := ?_) (a' := ?_) #[true, false, true, true, false, false, false, false, false, false, false, false, false] rfl rfl (by kernel_rfl) (fun _ _ _ h => h) (Or.inl ⟨by rfl, ?_⟩) ?_ ?_
  rotate_left
  · intro w'
    go_simp
    with_reducible rfl
  rotate_left
  · simp only [Act.put, List.setIfInBounds_toArray, List.set_cons_zero, List.set_cons_succ, i64_w, i32_w]
    rfl
  refine pure_ (i := 4) (N := some 24) (v := ?_) (a' := ?_) #[true, false, true, true, true, false, false, false, false, false, false, false, false] rfl rfl (by kernel_rfl) (fun _ _ _ h => h) (Or.inl ⟨by rfl, ?_⟩) ?_ ?_
  rotate_left
  · intro w'
    go_simp
    with_reducible rfl
  rotate_left
  · simp only [Act.put, List.setIfInBounds_toArray, List.set_cons_zero, List.set_cons_succ, i64_w, i32_w]
    rfl
  refine pure_ (i := 6) (N := some 26) (v := ?_) (a' := ?_) #[true, false, true, true, true, false, true, false, false, false, false, false, false] rfl rfl (by kernel_rfl) (fun _ _ _ h => h) (Or.inl ⟨by rfl, ?_⟩) ?_ ?_
  rotate_left
  · intro w'
    go_simp
    with_reducible rfl
  rotate_left
  · simp only [Act.put, List.setIfInBounds_toArray, List.set_cons_zero, List.set_cons_succ, i64_w, i32_w]
    rfl
  refine pure_ (i := 10) (N := some 30) (v := ?_) (a' := ?_) #[true, false, true, true, true, false, true, false, false, false, true, false, false] rfl rfl (by kernel_rfl) (fun _ _ _ h => h) (Or.inl ⟨by rfl, ?_⟩) ?_ ?_
  rotate_left
  · intro w'
    go_simp
    with_reducible rfl
  rotate_left
  · simp only [Act.put, List.setIfInBounds_toArray, List.set_cons_zero, List.set_cons_succ, i64_w, i32_w]
    rfl
  refine take_ (i := 1) (N := some 21) (v := ?_) (a' := ?_) #[true, true, true, true, true, false, true, false, false, false, true, false, false] rfl rfl (by kernel_rfl) (fun _ _ _ h => h) (Or.inl ⟨by rfl, ?_⟩) hHeld ?_ ?_
  rotate_left
  · rintro w' ⟨s0, s1⟩
    refine exec44 (.tmp 20) 128 ?_ ?_ s0 (by decide) <;> rfl
  rotate_left
  · simp only [Act.put, List.setIfInBounds_toArray, List.set_cons_zero, List.set_cons_succ, i64_w, i32_w]
    rfl
  refine take_ (i := 7) (N := some 27) (v := ?_) (a' := ?_) #[true, true, true, true, true, false, true, true, false, false, true, false, false] rfl rfl (by kernel_rfl) (fun _ _ _ h => h) (Or.inl ⟨by rfl, ?_⟩) hHeld ?_ ?_
  rotate_left
  · rintro w' ⟨s0, s1⟩
    refine exec44 (.tmp 26) 64 ?_ ?_ s0 (by decide) <;> rfl
  rotate_left
  · simp only [Act.put, List.setIfInBounds_toArray, List.set_cons_zero, List.set_cons_succ, i64_w, i32_w]
    rfl
  refine one_ (i := 5) (N := some 25) #[true, true, true, true, true, true, true, true, false, false, true, false, false] rfl rfl (by kernel_rfl) (by decide) (fun K hK => ?_)
  refine goes_ Try.func57 (by kernel_rfl) rfl #[.agg (bs 64 fun j => A (128 + j)), .int .i64 0, .int .i64 (wrap64 ((if 24 < hr then 24 else hr) - 1))] (by rfl) rfl rfl (by simp only [List.map_toArray, List.map_cons, List.map_nil]; rfl) ?_
  with_reducible refine (HH.out _).mono ?_
  rintro e w4 ⟨rfl, hb⟩
  refine ⟨_, rfl, ?_⟩
  refine hK.out _ _ (pa_on hb hHeld) (fun hHeld => ?_)
  clear hK K
  refine norm_ (a' := ?_) ?_ ?_
  rotate_left
  · show Act.put _ (some 25) _ = _
    simp only [Act.put, List.setIfInBounds_toArray, List.set_cons_zero, List.set_cons_succ, i64_w, i32_w]
    rfl
  refine one_ (i := 8) (N := some 28) #[true, true, true, true, true, true, true, true, true, false, true, false, false] rfl rfl (by kernel_rfl) (by decide) (fun K hK => ?_)
  refine goes_ Try.func57 (by kernel_rfl) rfl #[.agg (bs 64 fun j => A (64 + j)), .int .i64 0, .int .i64 59] (by rfl) rfl rfl (by simp only [List.map_toArray, List.map_cons, List.map_nil]; rfl) ?_
  with_reducible refine (size_any (fun j => A (64 + j)) 59 _ (by decide) (by decide)).mono ?_
  rintro e w4 ⟨rfl, hb⟩
  refine ⟨_, rfl, ?_⟩
  refine hK.out _ _ (pa_on hb hHeld) (fun hHeld => ?_)
  clear hK K
  refine norm_ (a' := ?_) ?_ ?_
  rotate_left
  · show Act.put _ (some 28) _ = _
    simp only [Act.put, List.setIfInBounds_toArray, List.set_cons_zero, List.set_cons_succ, i64_w, i32_w]
    rfl
  refine pure_ (i := 9) (N := some 29) (v := ?_) (a' := ?_) #[true, true, true, true, true, true, true, true, true, true, true, false, false] rfl rfl (by kernel_rfl) (fun _ _ _ h => h) (Or.inl ⟨by rfl, ?_⟩) ?_ ?_
  rotate_left
  · intro w'
    go_simp
    with_reducible rfl
  rotate_left
  · simp only [Act.put, List.setIfInBounds_toArray, List.set_cons_zero, List.set_cons_succ, i64_w, i32_w]
    rfl
  refine pure_ (i := 11) (N := some 31) (v := ?_) (a' := ?_) #[true, true, true, true, true, true, true, true, true, true, true, true, false] rfl rfl (by kernel_rfl) (fun _ _ _ h => h) (Or.inl ⟨by rfl, ?_⟩) ?_ ?_
  rotate_left
  · intro w'
    go_simp
    with_reducible rfl
  rotate_left
  · simp only [Act.put, List.setIfInBounds_toArray, List.set_cons_zero, List.set_cons_succ, i64_w, i32_w]
    rfl
  refine pure_ (i := 12) (N := some 9) (v := ?_) (a' := ?_) #[true, true, true, true, true, true, true, true, true, true, true, true, true] rfl rfl (by kernel_rfl) (fun _ _ _ h => h) (Or.inl ⟨by rfl, ?_⟩) ?_ ?_
  rotate_left
  · intro w'
    go_simp
    with_reducible rfl
  rotate_left
  · simp only [Act.put, List.setIfInBounds_toArray, List.set_cons_zero, List.set_cons_succ, i64_w, i32_w]
    rfl
  refine done_ (by kernel_rfl) ?_
  have HT3 := Lib.hid hHeld
  clear hHeld hb HT HH HS6
  have eS : (fun j => A (0 + j)) = fun j => A j := by funext j; rw [Nat.zero_add]
  have bH := cn_le (fun j => A (128 + j)) hr.toNat
  have bM := cn_le (fun j => A (64 + j)) 60
  have bS := cn_le (fun j => A j) 60
  have bm := cn_le (fun j => A (64 + j)) mi.toNat
  have bs_ := cn_le (fun j => A j) se.toNat
  have HRE : Hid (R = (((cn (fun j => A (128 + j)) hr.toNat * cn (fun j => A (64 + j)) 60 * cn (fun j => A j) 60 : Nat) : Int)) + (if hr < 24 then (if A (129 + hr.toNat) then ((cn (fun j => A (64 + j)) mi.toNat * cn (fun j => A j) 60 : Nat) : Int) + (if A (65 + mi.toNat) then ((cn (fun j => A j) se.toNat : Nat) : Int) else 0) else 0) else 0)) := Lib.hid (by
    have hd := HD.out
    rw [HR.out, part_eq, eS, show s.toNat / 3600 = hr.toNat by omega, show s.toNat / 60 % 60 = mi.toNat by omega, show s.toNat % 60 = se.toNat by omega, Nat.min_eq_left (show hr.toNat ≤ 24 by omega)]
    by_cases c : hr < 24
    · rw [if_pos c, if_pos (show hr.toNat < 24 by omega)]
      cases A (129 + hr.toNat) <;> cases A (65 + mi.toNat) <;> simp
    · rw [if_neg c, if_neg (show ¬ hr.toNat < 24 by omega)]
      simp)
  generalize cn (fun j => A (128 + j)) hr.toNat = H at *
  generalize cn (fun j => A (64 + j)) 60 = M at *
  generalize cn (fun j => A j) 60 = S at *
  generalize hMm : cn (fun j => A (64 + j)) mi.toNat = m at *
  generalize hSs : cn (fun j => A j) se.toNat = c at *
  clear hMm hSs
  have hX := wrap_mul3 (show H ≤ 24 by omega) (show M ≤ 60 by omega) (show S ≤ 60 by omega)
  have hB := mul_b (show H ≤ 24 by omega) (show M ≤ 60 by omega) (show S ≤ 60 by omega)
  have hY := wrap_mul2 (show m ≤ 60 by omega) (show S ≤ 60 by omega)
  have hYb : m * S ≤ 3600 := Nat.mul_le_mul (show m ≤ 60 by omega) (show S ≤ 60 by omega)
  rw [hX]
  clear hX
  obtain ⟨X, eX⟩ : ∃ X : Int, X = ((H * M * S : Nat) : Int) := ⟨_, rfl⟩
  obtain ⟨Y, eY⟩ : ∃ Y : Int, Y = ((m * S : Nat) : Int) := ⟨_, rfl⟩
  obtain ⟨Z, eZ⟩ : ∃ Z : Int, Z = (c : Int) := ⟨_, rfl⟩
  have HXB := Lib.hid (show 0 ≤ X ∧ X ≤ 86400 ∧ 0 ≤ Y ∧ Y ≤ 3600 ∧ 0 ≤ Z ∧ Z ≤ 60 by omega)
  rw [← eX]
  rw [← eY] at hY
  rw [← eX, ← eY, ← eZ] at HRE
  rw [← eZ] at HE
  clear eX eY eZ hB hYb bH bM bS bm bs_ eS
  have hw1 : wrap64 (X + Y) = X + Y := by have := HXB.out; exact wi (by omega) (by omega)
  have hw2 : wrap64 (X + Y + Z) = X + Y + Z := by have := HXB.out; exact wi (by omega) (by omega)
  have hw3 : wrap64 (mi - 1) = mi - 1 := wi (by omega) (by omega)
  have hw4 : wrap64 (se - 1) = se - 1 := wi (by omega) (by omega)
  rw [hw3] at HM
  rw [hw4] at HE
  by_cases h24 : hr < 24
  · have hd := decide_eq_true h24
    have r63 : hr < 63 := by omega
    have q63 : mi < 63 := by omega
    have H24 := Lib.hid h24
    clear h24
    have k0 : w4.cell? ⟨w.heap.size, 129 + hr.toNat, none⟩ = some (.bool (A (129 + hr.toNat))) := by rw [blk_cell (pa_g HT3.out), bs_get _ _ _ (by omega)]
    have HK1 : Hid (∀ W, PA w A W → W.cell? ⟨w.heap.size, 65 + mi.toNat, none⟩ = some (.bool (A (65 + mi.toNat)))) := Lib.hid (fun W h => by rw [blk_cell (pa_g h), bs_get _ _ _ (by omega)])
    generalize A (129 + hr.toNat) = a at *
    generalize A (65 + mi.toNat) = b at *
    cases a
    · go_wp2_with fail
      go_ret
      exact ⟨by rw [HRE.out, if_pos H24.out]; simp, pa_b HT3.out⟩
    · cases b
      · go_wp2_with (first
          | (with_reducible show wpList _ _ _ (Oper.mk _ (Op.load 44 _) _ _ _ _ :: _) _ _; refine wl_load (n := 64) rfl _ rfl _ _ rfl A 384 46 (pa_g HT3.out) (by decide) Try.underlying44 rfl (by kernel_rfl) ?_; simp only [Act.put, List.setIfInBounds_toArray, List.set_cons_zero, List.set_cons_succ])
          | (go_at_call 57; with_reducible refine (HM.out _).mono ?_; rintro e w5 ⟨rfl, hb⟩; have HT5 := Lib.hid (pa_on hb HT3.out); clear hb k0; have k1 := HK1.out _ HT5.out))
        go_ret
        exact ⟨by rw [HRE.out, if_pos H24.out]; simp, pa_b HT5.out⟩
      · go_wp2_with (first
          | (with_reducible show wpList _ _ _ (Oper.mk _ (Op.load 44 _) _ _ _ _ :: _) _ _; first | (refine wl_load (n := 64) rfl _ rfl _ _ rfl A 384 46 (pa_g HT5.out) (by decide) Try.underlying44 rfl (by kernel_rfl) ?_; simp only [Act.put, List.setIfInBounds_toArray, List.set_cons_zero, List.set_cons_succ]) | (refine wl_load (n := 64) rfl _ rfl _ _ rfl A 384 46 (pa_g HT3.out) (by decide) Try.underlying44 rfl (by kernel_rfl) ?_; simp only [Act.put, List.setIfInBounds_toArray, List.set_cons_zero, List.set_cons_succ]))
          | (go_at_call 57; with_reducible refine (HM.out _).mono ?_; rintro e w5 ⟨rfl, hb⟩; have HT5 := Lib.hid (pa_on hb HT3.out); clear hb k0; have k1 := HK1.out _ HT5.out)
          | (go_at_call 57; with_reducible refine (HE.out _).mono ?_; rintro e w6 ⟨rfl, hb⟩; have HT6 := Lib.hid (pa_on hb HT5.out); clear hb k1))
        go_ret
        exact ⟨by rw [HRE.out, if_pos H24.out]; simp; omega, pa_b HT6.out⟩
  · have hd := decide_eq_false h24
    have H24 := Lib.hid h24
    clear h24
    go_wp2_with fail
    go_ret
    exact ⟨by rw [HRE.out, if_neg (show ¬ hr < 24 by have := H24.out; omega)]; simp, pa_b HT3.out⟩
end Go.Proofs.Ytdgglkihiibmhaa
