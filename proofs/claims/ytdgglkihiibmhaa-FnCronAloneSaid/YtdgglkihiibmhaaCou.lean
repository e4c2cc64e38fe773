/-
  The specification's count of the seconds that fit.
-/
import Derived.Test.YtdgglkihiibmhaaPar
import Derived.Test.YtdgglkihiibmhaaLoc
set_option linter.unusedVariables false
set_option linter.unusedSimpArgs false
namespace Go.Proofs.Ytdgglkihiibmhaa
open Go Go.RowKit Cal Go.Proofs.YtdgglkihiibmhaaW.PrintLast

/-- a day's second fits if the day and the time of day are in the fields -/
theorem fits_day {f : Six} {day y m d : Int} (hd : IsDate day y m d) (h0 : -719162 ≤ day) (s : Nat) (hs : s < 86400) : fits f (sx day 0 + s) = (sixM f (257 + m.toNat) && dayF (sixM f) d ((day + 4) % 7) && tim (sixM f) s) := by
  obtain ⟨z, hz⟩ : ∃ z, z = sx day 0 + (s : Int) := ⟨_, rfl⟩
  have hz1 := hz
  unfold sx at hz1
  have z0 : 0 ≤ z := by omega
  have e1 : z / 86400 - 719162 = day := by omega
  obtain ⟨a, b, c⟩ := x_one (x := z) z0 (by rw [e1]; exact hd)
  rw [← hz, ← fitsF_fits f z z0, b, c]
  unfold fitsF tim
  rw [show (z % 86400 / 3600).toNat = s / 3600 by omega, show (z % 3600 / 60).toNat = s / 60 % 60 by omega, show (z % 60).toNat = s % 60 by omega, show Wx z = (day + 4) % 7 by unfold Wx; omega]
  cases sixM f (257 + m.toNat) <;> cases dayF (sixM f) d ((day + 4) % 7) <;> simp
/-- the count ahead of a day's first second, and ahead of the next day's -/
theorem nf_day (P : Int → Bool) (x x2 D : Int) (hx : x ≤ x2) (hD : D < x2) : nf P x (min (D + 86400) x2 - x).toNat = nf P x (min D x2 - x).toNat + nf P (max D x) (min (D + 86400) x2 - max D x).toNat := by
  by_cases c : D ≤ x
  · rw [show (min D x2 - x).toNat = 0 by omega, show max D x = x by omega]
    show _ = 0 + _
    omega
  · by_cases c2 : D + 86400 ≤ x
    · omega
    · have e := nf_add P x (min D x2 - x).toNat (min (D + 86400) x2 - max D x).toNat
      rw [show (min D x2 - x).toNat + (min (D + 86400) x2 - max D x).toNat = (min (D + 86400) x2 - x).toNat by omega, show x + (((min D x2 - x).toNat : Nat) : Int) = max D x by omega] at e
      exact e
theorem nf_same (P : Int → Bool) (x x2 D : Int) (hx : x ≤ x2) (h : D + 86400 ≤ x) : nf P x (min (D + 86400) x2 - x).toNat = 0 ∧ nf P x (min D x2 - x).toNat = 0 := by
  rw [show (min (D + 86400) x2 - x).toNat = 0 by omega, show (min D x2 - x).toNat = 0 by omega]
  exact ⟨rfl, rfl⟩
theorem nf_le (P : Int → Bool) (x : Int) : ∀ k, nf P x k ≤ k
  | 0 => Nat.le_refl _
  | k + 1 => by
    have := nf_le P x k
    rw [nf]
    split <;> omega
/-- the part of a day that is counted -/
theorem nf_part {f : Six} {day y m d x x2 : Int} (hd : IsDate day y m d) (h0 : -719162 ≤ day) (hm : sixM f (257 + m.toNat) = true) (hdf : dayF (sixM f) d ((day + 4) % 7) = true) (hx : x ≤ x2) (hD : sx day 0 < x2) (hD2 : x < sx day 0 + 86400) :
    ((part (sixM f) (min (x2 - sx day 0) 86400).toNat : Nat) : Int) - ((part (sixM f) (max (x - sx day 0) 0).toNat : Nat) : Int) = ((nf (fits f) (max (sx day 0) x) (min (sx day 0 + 86400) x2 - max (sx day 0) x).toNat : Nat) : Int) := by
  have h := part_nf (sixM f) (fits f) (sx day 0) (max (x - sx day 0) 0).toNat (fun s hs => by rw [fits_day hd h0 s hs, hm, hdf]; rfl) (min (sx day 0 + 86400) x2 - max (sx day 0) x).toNat (by omega)
  rw [show (max (x - sx day 0) 0).toNat + (min (sx day 0 + 86400) x2 - max (sx day 0) x).toNat = (min (x2 - sx day 0) 86400).toNat by omega, show sx day 0 + (((max (x - sx day 0) 0).toNat : Nat) : Int) = max (sx day 0) x by omega] at h
  omega
theorem nf_off {f : Six} {day y m d x x2 : Int} (hd : IsDate day y m d) (h0 : -719162 ≤ day) (ho : (sixM f (257 + m.toNat) && dayF (sixM f) d ((day + 4) % 7)) = false) : nf (fits f) (max (sx day 0) x) (min (sx day 0 + 86400) x2 - max (sx day 0) x).toNat = 0 := by
  by_cases c : 0 ≤ min (sx day 0 + 86400) x2 - max (sx day 0) x
  · refine nf_zero _ _ _ (fun z z0 z1 => ?_)
    have h := fits_day (f := f) hd h0 (z - sx day 0).toNat (by omega)
    rw [show sx day 0 + (((z - sx day 0).toNat : Nat) : Int) = z by omega, ho] at h
    exact h
  · rw [show (min (sx day 0 + 86400) x2 - max (sx day 0) x).toNat = 0 by omega]
    rfl
set_option maxRecDepth 100000 in
set_option maxHeartbeats 16000000 in
theorem count_any (f : Six) (fr to x x2 : Int) (w : World) (hfr : x = fr + 62135596800) (hto : x2 = to + 62135596800) (x0 : 0 ≤ x) (x1 : x ≤ x2) (x3 : x2 ≤ 1000000000000) : Calls Try.prog 18 #[.agg (bs 384 (sixM f)), .int .i64 fr, .int .i64 to] w fun e w' => e = .returned (.int .i64 ((nf (fits f) x (x2 - x).toNat : Nat) : Int)) ∧ Below w.heap.size w w' := by
  obtain ⟨A, eA⟩ : ∃ A, A = sixM f := ⟨_, rfl⟩
  have HAA := Lib.hid eA
  rw [← eA]
  clear eA
  obtain ⟨R, eR⟩ : ∃ R : Int, R = ((nf (fits f) x (x2 - x).toNat : Nat) : Int) := ⟨_, rfl⟩
  have HR := Lib.hid eR
  rw [← eR]
  clear eR
  have HG := Lib.hid (heap_new0 w _ (.cells (bs 384 A) 46) rfl)
  have HQ := Lib.hid (show fr / 86400 = x / 86400 - 719162 by omega)
  have HX := Lib.hid (And.intro (And.intro hfr hto) (And.intro x0 (And.intro x1 x3)))
  have f0 : -62135596800 ≤ fr := by omega
  have f1 : fr ≤ 1000000000000 := by omega
  clear hfr hto
  go_enter Try.func18, Try.ntmps18
  go_upto_region 1 with fail
  generalize hW : w.alloc (.cells (bs 384 A) 46) = W at *
  have HB : Hid (Below w.heap.size w W) := Lib.hid (by rw [← hW]; exact bl_alloc (Below.refl _ _) _)
  clear hW
  go_wp2_with (first
    | (go_at_call 34; with_reducible refine (fdiv_any fr 86400 _ (by decide) (by decide) (by omega) (by omega)).mono ?_; rw [HQ.out]; rintro e w2 ⟨rfl, rfl⟩)
    | (go_at_call 35; with_reducible refine (dateOf_any (x / 86400 - 719162) _ (by omega) (by omega)).mono ?_; rintro e w3 ⟨⟨y, m, d, rfl, hd, hy⟩, hb⟩; have HD0 := Lib.hid (And.intro hd hy); have HG0 := Lib.hid (blk_on hb HG.out); have HB0 := Lib.hid (bl_on HB.out hb); clear HG HB hb hd hy; have HG := HG0; have HB := HB0; clear HG0 HB0))
  have HGL := Lib.hid (show w.heap.size < w3.heap.size from (Array.getElem?_eq_some_iff.1 HG.out).1)
  go_loopg [7, 8, 9] (x2 - sx (x / 86400 - 719162) 0 + 86400).toNat (fun g v7 v8 v9 w' => ∃ (N day : Int) (q : Nat) (y m d : Int), v7 = .int .i64 N ∧ v8 = .int .i64 day ∧ v9 = .pointer (some ⟨q, 0, none⟩) ∧ Hid (IsDate day y m d ∧ 0 < y) ∧ Hid (N = ((nf (fits f) x (min (sx day 0) x2 - x).toNat : Nat) : Int) ∧ x / 86400 - 719162 ≤ day ∧ day ≤ 20000000 ∧ g = (x2 - sx day 0 + 86400).toNat) ∧ Hid (w'.heap[w.heap.size]? = some (.cells (bs 384 A) 46) ∧ w'.heap[q]? = some (.cells #[.int .i64 y, .int .i64 m, .int .i64 d] 80) ∧ w.heap.size < q ∧ Below w.heap.size w w'))
  case atStart =>
    have h := HX.out
    exact ⟨0, _, _, y, m, d, rfl, rfl, rfl, HD0, Lib.hid ⟨by rw [show (min (sx (x / 86400 - 719162) 0) x2 - x).toNat = 0 by unfold sx; omega]; rfl, by omega, by omega, rfl⟩, Lib.hid ⟨heap_old HG.out, heap_new0 _ _ _ rfl, HGL.out, bl_alloc HB.out _⟩⟩
  case round =>
    clear HG HB HD0 HGL
    obtain ⟨N, day, q, y, m, d, rfl, rfl, rfl, HD, HY, HW⟩ := hrel
    have HYB := Lib.hid (day_b HD.out.1)
    have d0 : -719162 ≤ day := by have h := HY.out; omega
    have d1 : day ≤ 20000000 := HY.out.2.2.1
    have HYL : Hid (y ≤ 1000000000) := Lib.hid (by
      have h := (date_in_year HD.out.1).1
      have h2 := HY.out
      unfold YS at h
      omega)
    have hwd : wrap64 (86400 * day) = 86400 * day := wi (by omega) (by omega)
    by_cases hlt : 86400 * day < to
    · have HLT := Lib.hid hlt
      have hd4 := decide_eq_true hlt
      clear hlt
      have HDD := Lib.hid (show sx day 0 < x2 ∧ x < sx day 0 + 86400 ∧ x ≤ x2 ∧ x2 ≤ 1000000000000 ∧ 0 ≤ x ∧ day ≤ 11000000 by have h := HX.out; have h2 := HLT.out; have h3 := HY.out; unfold sx; omega)
      have HNB := Lib.hid (show 0 ≤ N ∧ N ≤ 1000000000000 by have h := nf_le (fits f) x (min (sx day 0) x2 - x).toNat; have h2 := HY.out; have h3 := HDD.out; omega)
      go_upto_region 6 with fail
      have m0 : 0 ≤ m := by have := HYB.out; omega
      have m1 : m < 63 := by have := HYB.out; omega
      have HT0 := Lib.hid (l8_mk HW.out.1 HW.out.2.1 HW.out.2.2.2 m0 m1)
      have hd1 : wrap64 (day + 1) = day + 1 := wi (by omega) (by omega)
      have HWD := Lib.hid (fun w => wday_b day w (by omega) (by omega))
      have HDF := Lib.hid (fun w => dayFits_any A y m d ((day + 4) % 7) w (by have := HYB.out; omega) (by have := HYB.out; omega) (by omega) (by omega))
      generalize ha : A (257 + m.toNat) = a at HT0
      have HA := Lib.hid ha
      clear ha
      have HT := HT0
      clear HT0
      cases a
      · skip
        refine start_ (n := 13) (S := fun w' => L8 w w.heap.size q A false y m d w') (ds := []) #[false, false, false, false, false, false, false, false, false, false, false, false, false] (by kernel_rfl) rfl rfl (l8_on (bl_drew (Below.refl _ _)) HT.out) (fun hHeld => ?_)
        refine pure_ (i := 0) (N := some 20) (v := ?_) (a' := ?_) #[true, false, false, false, false, false, false, false, false, false, false, false, false] rfl rfl (by kernel_rfl) (fun _ _ _ h => h) (Or.inl ⟨by rfl, ?_⟩) ?_ ?_
        rotate_left
        · intro w'
          go_simp
          with_reducible rfl
        rotate_left
        · simp only [Act.put, List.setIfInBounds_toArray, List.set_cons_zero, List.set_cons_succ, i64_w, i32_w]
          rfl
        refine pure_ (i := 2) (N := some 22) (v := ?_) (a' := ?_) #[true, false, true, false, false, false, false, false, false, false, false, false, false] rfl rfl (by kernel_rfl) (fun _ _ _ h => h) (Or.inl ⟨by rfl, ?_⟩) ?_ ?_
        rotate_left
        · intro w'
          go_simp
          with_reducible rfl
        rotate_left
        · simp only [Act.put, List.setIfInBounds_toArray, List.set_cons_zero, List.set_cons_succ, i64_w, i32_w]
          rfl
        refine pure_ (i := 3) (N := some 23) (v := ?_) (a' := ?_) #[true, false, true, true, false, false, false, false, false, false, false, false, false] rfl rfl (by kernel_rfl) (fun _ _ _ h => h) (Or.inl ⟨by rfl, ?_⟩) ?_ ?_
        rotate_left
        · intro w'
          go_simp
          with_reducible rfl
        rotate_left
        · simp only [Act.put, List.setIfInBounds_toArray, List.set_cons_zero, List.set_cons_succ, i64_w, i32_w]
          rfl
        refine take_ (i := 1) (N := some 21) (v := ?_) (a' := ?_) #[true, true, true, true, false, false, false, false, false, false, false, false, false] rfl rfl (by kernel_rfl) (fun _ _ _ h => h) (Or.inl ⟨by rfl, ?_⟩) hHeld ?_ ?_
        rotate_left
        · rintro w' ⟨s0, s1, s2, s3, s4, s5, s6⟩
          go_simp
          with_reducible rfl
        rotate_left
        · simp only [Act.put, List.setIfInBounds_toArray, List.set_cons_zero, List.set_cons_succ, i64_w, i32_w]
          rfl
        refine pure_ (i := 4) (N := some 24) (v := ?_) (a' := ?_) #[true, true, true, true, true, false, false, false, false, false, false, false, false] rfl rfl (by kernel_rfl) (fun _ _ _ h => h) (Or.inl ⟨by rfl, ?_⟩) ?_ ?_
        rotate_left
        · intro w'
          go_simp
          with_reducible rfl
        rotate_left
        · simp only [Act.put, List.setIfInBounds_toArray, List.set_cons_zero, List.set_cons_succ, i64_w, i32_w]
          rfl
        refine take_ (i := 5) (N := some 25) (v := ?_) (a' := ?_) #[true, true, true, true, true, true, false, false, false, false, false, false, false] rfl rfl (by kernel_rfl) (fun _ _ _ h => h) (Or.inl ⟨by rfl, ?_⟩) hHeld ?_ ?_
        rotate_left
        · rintro w' ⟨s0, s1, s2, s3, s4, s5, s6⟩
          go_simp
          with_reducible rfl
        rotate_left
        · simp only [Act.put, List.setIfInBounds_toArray, List.set_cons_zero, List.set_cons_succ, i64_w, i32_w]
          rfl
        refine pure_ (i := 6) (N := some 26) (v := ?_) (a' := ?_) #[true, true, true, true, true, true, true, false, false, false, false, false, false] rfl rfl (by kernel_rfl) (fun _ _ _ h => h) (Or.inl ⟨by rfl, ?_⟩) ?_ ?_
        rotate_left
        · intro w'
          go_simp
          with_reducible rfl
        rotate_left
        · simp only [Act.put, List.setIfInBounds_toArray, List.set_cons_zero, List.set_cons_succ, i64_w, i32_w]
          rfl
        refine pure_ (i := 7) (N := some 27) (v := undef) (a' := ?_) #[true, true, true, true, true, true, true, true, false, false, false, false, false] rfl rfl (by kernel_rfl) (fun _ _ _ h => h) (Or.inr ⟨by rfl, rfl⟩) ?_ ?_
        rotate_left
        · simp only [Act.put, List.setIfInBounds_toArray, List.set_cons_zero, List.set_cons_succ, i64_w, i32_w]
          rfl
        refine pure_ (i := 8) (N := some 28) (v := undef) (a' := ?_) #[true, true, true, true, true, true, true, true, true, false, false, false, false] rfl rfl (by kernel_rfl) (fun _ _ _ h => h) (Or.inr ⟨by rfl, rfl⟩) ?_ ?_
        rotate_left
        · simp only [Act.put, List.setIfInBounds_toArray, List.set_cons_zero, List.set_cons_succ, i64_w, i32_w]
          rfl
        refine pure_ (i := 9) (N := some 29) (v := undef) (a' := ?_) #[true, true, true, true, true, true, true, true, true, true, false, false, false] rfl rfl (by kernel_rfl) (fun _ _ _ h => h) (Or.inr ⟨by rfl, rfl⟩) ?_ ?_
        rotate_left
        · simp only [Act.put, List.setIfInBounds_toArray, List.set_cons_zero, List.set_cons_succ, i64_w, i32_w]
          rfl
        refine pure_ (i := 10) (N := some 30) (v := undef) (a' := ?_) #[true, true, true, true, true, true, true, true, true, true, true, false, false] rfl rfl (by kernel_rfl) (fun _ _ _ h => h) (Or.inr ⟨by rfl, rfl⟩) ?_ ?_
        rotate_left
        · simp only [Act.put, List.setIfInBounds_toArray, List.set_cons_zero, List.set_cons_succ, i64_w, i32_w]
          rfl
        refine pure_ (i := 11) (N := some 31) (v := undef) (a' := ?_) #[true, true, true, true, true, true, true, true, true, true, true, true, false] rfl rfl (by kernel_rfl) (fun _ _ _ h => h) (Or.inr ⟨by rfl, rfl⟩) ?_ ?_
        rotate_left
        · simp only [Act.put, List.setIfInBounds_toArray, List.set_cons_zero, List.set_cons_succ, i64_w, i32_w]
          rfl
        refine pure_ (i := 12) (N := some 32) (v := ?_) (a' := ?_) #[true, true, true, true, true, true, true, true, true, true, true, true, true] rfl rfl (by kernel_rfl) (fun _ _ _ h => h) (Or.inl ⟨by rfl, ?_⟩) ?_ ?_
        rotate_left
        · intro w'
          go_simp
          with_reducible rfl
        rotate_left
        · simp only [Act.put, List.setIfInBounds_toArray, List.set_cons_zero, List.set_cons_succ, i64_w, i32_w]
          rfl
        refine done_ (by kernel_rfl) ?_
        have HZ := Lib.hid hHeld
        clear hHeld
        generalize wr.drew = W5 at HZ ⊢
        obtain ⟨z0, z1, z2⟩ := l8_c HZ.out
        have HZS := Lib.hid (l8_lt HZ.out)
        go_wp2_with (first
          | (go_at_call 36; with_reducible refine (tomorrow_any day y m d _ HD.out.1 HD.out.2 (by have := HYL.out; omega)).mono ?_; rintro e w9 ⟨⟨y', m', d', rfl, hd', hy'⟩, hb9⟩; have H9 := Lib.hid (And.intro hd' hy'); have HB9 := Lib.hid hb9; clear hd' hy' hb9; have HGN := Lib.hid (blk_on HB9.out (heap_old (o' := .cells #[.int .i64 y, .int .i64 m, .int .i64 d] 80) (l8_g HZ.out))); have HQN := Lib.hid (blk_on HB9.out (heap_new0 _ _ (.cells #[.int .i64 y, .int .i64 m, .int .i64 d] 80) rfl)); obtain ⟨r0, r1, r2, f0, f1, f2⟩ := q3_of HQN.out))
        all_goals
          go_roundg (x2 - sx (day + 1) 0 + 86400).toNat
          case measure => have h1 := HY.out; have h2 := HDD.out; unfold sx at *; omega
          case rel =>
            have h1 := HY.out
            have h2 := HDD.out
            have h3 := HZS.out
            have hpf := (show N = ((nf (fits f) x (min (sx day 0 + 86400) x2 - x).toNat : Nat) : Int) from by rw [h1.1, nf_day (fits f) x x2 (sx day 0) (by omega) h2.1, (nf_off (f := f) (x := x) (x2 := x2) HD.out.1 d0 (by rw [← HAA.out, HA.out, Bool.false_and])), Nat.add_zero])
            refine ⟨N, day + 1, _, y', m', d', rfl, by first | rfl | rw [wi (x := day + 1) (by omega) (by omega)], rfl, H9, Lib.hid ⟨?_, by omega, by omega, rfl⟩, Lib.hid ⟨(put3_out (by omega)).trans HGN.out, put3_blk HQN.out, h3.1, put3_bel (bl_on (bl_alloc (l8_bel HZ.out) _) HB9.out) (by omega)⟩⟩
            rw [hpf, show sx (day + 1) 0 = sx day 0 + 86400 by unfold sx; omega]
      · generalize hdf : dayF A d ((day + 4) % 7) = df at HDF
        have HDG := Lib.hid hdf
        clear hdf
        refine start_ (n := 13) (S := fun w' => L8 w w.heap.size q A true y m d w') (ds := []) #[false, false, false, false, false, false, false, false, false, false, false, false, false] (by kernel_rfl) rfl rfl (l8_on (bl_drew (Below.refl _ _)) HT.out) (fun hHeld => ?_)
        refine pure_ (i := 0) (N := some 20) (v := ?_) (a' := ?_) #[true, false, false, false, false, false, false, false, false, false, false, false, false] rfl rfl (by kernel_rfl) (fun _ _ _ h => h) (Or.inl ⟨by rfl, ?_⟩) ?_ ?_
        rotate_left
        · intro w'
          go_simp
          with_reducible rfl
        rotate_left
        · simp only [Act.put, List.setIfInBounds_toArray, List.set_cons_zero, List.set_cons_succ, i64_w, i32_w]
          rfl
        refine pure_ (i := 2) (N := some 22) (v := ?_) (a' := ?_) #[true, false, true, false, false, false, false, false, false, false, false, false, false] rfl rfl (by kernel_rfl) (fun _ _ _ h => h) (Or.inl ⟨by rfl, ?_⟩) ?_ ?_
        rotate_left
        · intro w'
          go_simp
          with_reducible rfl
        rotate_left
        · simp only [Act.put, List.setIfInBounds_toArray, List.set_cons_zero, List.set_cons_succ, i64_w, i32_w]
          rfl
        refine pure_ (i := 3) (N := some 23) (v := ?_) (a' := ?_) #[true, false, true, true, false, false, false, false, false, false, false, false, false] rfl rfl (by kernel_rfl) (fun _ _ _ h => h) (Or.inl ⟨by rfl, ?_⟩) ?_ ?_
        rotate_left
        · intro w'
          go_simp
          with_reducible rfl
        rotate_left
        · simp only [Act.put, List.setIfInBounds_toArray, List.set_cons_zero, List.set_cons_succ, i64_w, i32_w]
          rfl
        refine take_ (i := 1) (N := some 21) (v := ?_) (a' := ?_) #[true, true, true, true, false, false, false, false, false, false, false, false, false] rfl rfl (by kernel_rfl) (fun _ _ _ h => h) (Or.inl ⟨by rfl, ?_⟩) hHeld ?_ ?_
        rotate_left
        · rintro w' ⟨s0, s1, s2, s3, s4, s5, s6⟩
          go_simp
          with_reducible rfl
        rotate_left
        · simp only [Act.put, List.setIfInBounds_toArray, List.set_cons_zero, List.set_cons_succ, i64_w, i32_w]
          rfl
        refine pure_ (i := 4) (N := some 24) (v := ?_) (a' := ?_) #[true, true, true, true, true, false, false, false, false, false, false, false, false] rfl rfl (by kernel_rfl) (fun _ _ _ h => h) (Or.inl ⟨by rfl, ?_⟩) ?_ ?_
        rotate_left
        · intro w'
          go_simp
          with_reducible rfl
        rotate_left
        · simp only [Act.put, List.setIfInBounds_toArray, List.set_cons_zero, List.set_cons_succ, i64_w, i32_w]
          rfl
        refine take_ (i := 5) (N := some 25) (v := ?_) (a' := ?_) #[true, true, true, true, true, true, false, false, false, false, false, false, false] rfl rfl (by kernel_rfl) (fun _ _ _ h => h) (Or.inl ⟨by rfl, ?_⟩) hHeld ?_ ?_
        rotate_left
        · rintro w' ⟨s0, s1, s2, s3, s4, s5, s6⟩
          go_simp
          with_reducible rfl
        rotate_left
        · simp only [Act.put, List.setIfInBounds_toArray, List.set_cons_zero, List.set_cons_succ, i64_w, i32_w]
          rfl
        refine pure_ (i := 6) (N := some 26) (v := ?_) (a' := ?_) #[true, true, true, true, true, true, true, false, false, false, false, false, false] rfl rfl (by kernel_rfl) (fun _ _ _ h => h) (Or.inl ⟨by rfl, ?_⟩) ?_ ?_
        rotate_left
        · intro w'
          go_simp
          with_reducible rfl
        rotate_left
        · simp only [Act.put, List.setIfInBounds_toArray, List.set_cons_zero, List.set_cons_succ, i64_w, i32_w]
          rfl
        refine pure_ (i := 9) (N := some 29) (v := ?_) (a' := ?_) #[true, true, true, true, true, true, true, false, false, true, false, false, false] rfl rfl (by kernel_rfl) (fun _ _ _ h => h) (Or.inl ⟨by rfl, ?_⟩) ?_ ?_
        rotate_left
        · intro w'
          go_simp
          with_reducible rfl
        rotate_left
        · simp only [Act.put, List.setIfInBounds_toArray, List.set_cons_zero, List.set_cons_succ, i64_w, i32_w]
          rfl
        refine take_ (i := 7) (N := some 27) (v := ?_) (a' := ?_) #[true, true, true, true, true, true, true, true, false, true, false, false, false] rfl rfl (by kernel_rfl) (fun _ _ _ h => h) (Or.inl ⟨by rfl, ?_⟩) hHeld ?_ ?_
        rotate_left
        · rintro w' ⟨s0, s1, s2, s3, s4, s5, s6⟩
          refine exec46 (.tmp 3) ?_ ?_ s4 <;> rfl
        rotate_left
        · simp only [Act.put, List.setIfInBounds_toArray, List.set_cons_zero, List.set_cons_succ, i64_w, i32_w]
          rfl
        refine take_ (i := 8) (N := some 28) (v := ?_) (a' := ?_) #[true, true, true, true, true, true, true, true, true, true, false, false, false] rfl rfl (by kernel_rfl) (fun _ _ _ h => h) (Or.inl ⟨by rfl, ?_⟩) hHeld ?_ ?_
        rotate_left
        · rintro w' ⟨s0, s1, s2, s3, s4, s5, s6⟩
          go_simp
          with_reducible rfl
        rotate_left
        · simp only [Act.put, List.setIfInBounds_toArray, List.set_cons_zero, List.set_cons_succ, i64_w, i32_w]
          rfl
        refine one_ (i := 10) (N := some 30) #[true, true, true, true, true, true, true, true, true, true, true, false, false] rfl rfl (by kernel_rfl) (by decide) (fun K hK => ?_)
        refine goes_ Try.func38 (by kernel_rfl) rfl #[.int .i64 day] (by rfl) rfl rfl (by simp only [List.map_toArray, List.map_cons, List.map_nil]; rfl) ?_
        with_reducible refine (HWD.out _).mono ?_
        rintro e w4 ⟨rfl, hb⟩
        refine ⟨_, rfl, ?_⟩
        refine hK.out _ _ (l8_on hb hHeld) (fun hHeld => ?_)
        clear hK K
        refine norm_ (a' := ?_) ?_ ?_
        rotate_left
        · show Act.put _ (some 30) _ = _
          simp only [Act.put, List.setIfInBounds_toArray, List.set_cons_zero, List.set_cons_succ, i64_w, i32_w]
          rfl
        refine one_ (i := 11) (N := some 31) #[true, true, true, true, true, true, true, true, true, true, true, true, false] rfl rfl (by kernel_rfl) (by decide) (fun K hK => ?_)
        refine goes_ Try.func37 (by kernel_rfl) rfl #[.agg (bs 384 A), dV y m d, .int .i64 ((day + 4) % 7)] (by rfl) rfl rfl (by simp only [List.map_toArray, List.map_cons, List.map_nil]; rfl) ?_
        with_reducible refine (HDF.out _).mono ?_
        rintro e w4 ⟨rfl, hb⟩
        refine ⟨_, rfl, ?_⟩
        refine hK.out _ _ (l8_on hb hHeld) (fun hHeld => ?_)
        clear hK K
        refine norm_ (a' := ?_) ?_ ?_
        rotate_left
        · show Act.put _ (some 31) _ = _
          simp only [Act.put, List.setIfInBounds_toArray, List.set_cons_zero, List.set_cons_succ, i64_w, i32_w]
          rfl
        refine pure_ (i := 12) (N := some 32) (v := ?_) (a' := ?_) #[true, true, true, true, true, true, true, true, true, true, true, true, true] rfl rfl (by kernel_rfl) (fun _ _ _ h => h) (Or.inl ⟨by rfl, ?_⟩) ?_ ?_
        rotate_left
        · intro w'
          go_simp
          with_reducible rfl
        rotate_left
        · simp only [Act.put, List.setIfInBounds_toArray, List.set_cons_zero, List.set_cons_succ, i64_w, i32_w]
          rfl
        refine done_ (by kernel_rfl) ?_
        have HZ := Lib.hid hHeld
        clear hHeld
        clear hb
        clear HT
        generalize w4 = W5 at HZ ⊢
        cases df
        · skip
          obtain ⟨z0, z1, z2⟩ := l8_c HZ.out
          have HZS := Lib.hid (l8_lt HZ.out)
          go_wp2_with (first
            | (go_at_call 36; with_reducible refine (tomorrow_any day y m d _ HD.out.1 HD.out.2 (by have := HYL.out; omega)).mono ?_; rintro e w9 ⟨⟨y', m', d', rfl, hd', hy'⟩, hb9⟩; have H9 := Lib.hid (And.intro hd' hy'); have HB9 := Lib.hid hb9; clear hd' hy' hb9; have HGN := Lib.hid (blk_on HB9.out (heap_old (o' := .cells #[.int .i64 y, .int .i64 m, .int .i64 d] 80) (l8_g HZ.out))); have HQN := Lib.hid (blk_on HB9.out (heap_new0 _ _ (.cells #[.int .i64 y, .int .i64 m, .int .i64 d] 80) rfl)); obtain ⟨r0, r1, r2, f0, f1, f2⟩ := q3_of HQN.out))
          all_goals
            go_roundg (x2 - sx (day + 1) 0 + 86400).toNat
            case measure => have h1 := HY.out; have h2 := HDD.out; unfold sx at *; omega
            case rel =>
              have h1 := HY.out
              have h2 := HDD.out
              have h3 := HZS.out
              have hpf := (show N = ((nf (fits f) x (min (sx day 0 + 86400) x2 - x).toNat : Nat) : Int) from by rw [h1.1, nf_day (fits f) x x2 (sx day 0) (by omega) h2.1, (nf_off (f := f) (x := x) (x2 := x2) HD.out.1 d0 (by rw [← HAA.out, HDG.out, Bool.and_false])), Nat.add_zero])
              refine ⟨N, day + 1, _, y', m', d', rfl, by first | rfl | rw [wi (x := day + 1) (by omega) (by omega)], rfl, H9, Lib.hid ⟨?_, by omega, by omega, rfl⟩, Lib.hid ⟨(put3_out (by omega)).trans HGN.out, put3_blk HQN.out, h3.1, put3_bel (bl_on (bl_alloc (l8_bel HZ.out) _) HB9.out) (by omega)⟩⟩
              rw [hpf, show sx (day + 1) 0 = sx day 0 + 86400 by unfold sx; omega]
        · have HT := HZ
          have hwt : wrap64 (to - 86400 * day) = x2 - sx day 0 := by have h := HX.out; have h2 := HDD.out; unfold sx; rw [wi (by omega) (by omega)]; omega
          have hwf : wrap64 (fr - 86400 * day) = x - sx day 0 := by have h := HX.out; have h2 := HDD.out; unfold sx; rw [wi (by omega) (by omega)]; omega
          have HPB : Hid (∀ w, Calls Try.prog 39 #[.agg (bs 384 A), .int .i64 (if 86400 < wrap64 (to - 86400 * day) then 86400 else wrap64 (to - 86400 * day))] w fun e w' => e = .returned (.int .i64 ((part A (min (x2 - sx day 0) 86400).toNat : Nat) : Int)) ∧ Below w.heap.size w w') := Lib.hid (fun w => by
            have h := HDD.out
            have hp := part_any A (min (x2 - sx day 0) 86400) w (by omega) (by omega)
            rw [hwt, show (if 86400 < x2 - sx day 0 then 86400 else x2 - sx day 0) = min (x2 - sx day 0) 86400 by split <;> omega]
            exact hp)
          have HPA : Hid (∀ w, Calls Try.prog 39 #[.agg (bs 384 A), .int .i64 (if wrap64 (fr - 86400 * day) < 0 then 0 else wrap64 (fr - 86400 * day))] w fun e w' => e = .returned (.int .i64 ((part A (max (x - sx day 0) 0).toNat : Nat) : Int)) ∧ Below w.heap.size w w') := Lib.hid (fun w => by
            have h := HDD.out
            have hp := part_any A (max (x - sx day 0) 0) w (by omega) (by omega)
            rw [hwf, show (if x - sx day 0 < 0 then 0 else x - sx day 0) = max (x - sx day 0) 0 by split <;> omega]
            exact hp)
          clear hwt hwf
          go_upto_region 7 with fail
          refine start_ (n := 18) (S := fun w' => L8 w w.heap.size q A true y m d w') (ds := []) #[false, false, false, false, false, false, false, false, false, false, false, false, false, false, false, false, false, false] (by kernel_rfl) rfl rfl (l8_on (bl_drew (Below.refl _ _)) HT.out) (fun hHeld => ?_)
          refine pure_ (i := 0) (N := some 33) (v := ?_) (a' := ?_) #[true, false, false, false, false, false, false, false, false, false, false, false, false, false, false, false, false, false] rfl rfl (by kernel_rfl) (fun _ _ _ h => h) (Or.inl ⟨by rfl, ?_⟩) ?_ ?_
          rotate_left
          · intro w'
            go_simp
            with_reducible rfl
          rotate_left
          · simp only [Act.put, List.setIfInBounds_toArray, List.set_cons_zero, List.set_cons_succ, i64_w, i32_w]
            rfl
          refine pure_ (i := 2) (N := some 35) (v := ?_) (a' := ?_) #[true, false, true, false, false, false, false, false, false, false, false, false, false, false, false, false, false, false] rfl rfl (by kernel_rfl) (fun _ _ _ h => h) (Or.inl ⟨by rfl, ?_⟩) ?_ ?_
          rotate_left
          · intro w'
            go_simp
            with_reducible rfl
          rotate_left
          · simp only [Act.put, List.setIfInBounds_toArray, List.set_cons_zero, List.set_cons_succ, i64_w, i32_w]
            rfl
          refine pure_ (i := 3) (N := some 36) (v := ?_) (a' := ?_) #[true, false, true, true, false, false, false, false, false, false, false, false, false, false, false, false, false, false] rfl rfl (by kernel_rfl) (fun _ _ _ h => h) (Or.inl ⟨by rfl, ?_⟩) ?_ ?_
          rotate_left
          · intro w'
            go_simp
            with_reducible rfl
          rotate_left
          · simp only [Act.put, List.setIfInBounds_toArray, List.set_cons_zero, List.set_cons_succ, i64_w, i32_w]
            rfl
          refine pure_ (i := 4) (N := some 37) (v := ?_) (a' := ?_) #[true, false, true, true, true, false, false, false, false, false, false, false, false, false, false, false, false, false] rfl rfl (by kernel_rfl) (fun _ _ _ h => h) (Or.inl ⟨by rfl, ?_⟩) ?_ ?_
          rotate_left
          · intro w'
            go_simp
            with_reducible rfl
          rotate_left
          · simp only [Act.put, List.setIfInBounds_toArray, List.set_cons_zero, List.set_cons_succ, i64_w, i32_w]
            rfl
          refine pure_ (i := 5) (N := some 38) (v := ?_) (a' := ?_) #[true, false, true, true, true, true, false, false, false, false, false, false, false, false, false, false, false, false] rfl rfl (by kernel_rfl) (fun _ _ _ h => h) (Or.inl ⟨by rfl, ?_⟩) ?_ ?_
          rotate_left
          · intro w'
            go_simp
            with_reducible rfl
          rotate_left
          · simp only [Act.put, List.setIfInBounds_toArray, List.set_cons_zero, List.set_cons_succ, i64_w, i32_w]
            rfl
          refine pure_ (i := 6) (N := some 39) (v := ?_) (a' := ?_) #[true, false, true, true, true, true, true, false, false, false, false, false, false, false, false, false, false, false] rfl rfl (by kernel_rfl) (fun _ _ _ h => h) (Or.inl ⟨by rfl, ?_⟩) ?_ ?_
          rotate_left
          · intro w'
            go_simp
            with_reducible rfl
          rotate_left
          · simp only [Act.put, List.setIfInBounds_toArray, List.set_cons_zero, List.set_cons_succ, i64_w, i32_w]
            rfl
          refine pure_ (i := 9) (N := some 42) (v := ?_) (a' := ?_) #[true, false, true, true, true, true, true, false, false, true, false, false, false, false, false, false, false, false] rfl rfl (by kernel_rfl) (fun _ _ _ h => h) (Or.inl ⟨by rfl, ?_⟩) ?_ ?_
          rotate_left
          · intro w'
            go_simp
            with_reducible rfl
          rotate_left
          · simp only [Act.put, List.setIfInBounds_toArray, List.set_cons_zero, List.set_cons_succ, i64_w, i32_w]
            rfl
          refine pure_ (i := 10) (N := some 43) (v := ?_) (a' := ?_) #[true, false, true, true, true, true, true, false, false, true, true, false, false, false, false, false, false, false] rfl rfl (by kernel_rfl) (fun _ _ _ h => h) (Or.inl ⟨by rfl, ?_⟩) ?_ ?_
          rotate_left
          · intro w'
            go_simp
            with_reducible rfl
          rotate_left
          · simp only [Act.put, List.setIfInBounds_toArray, List.set_cons_zero, List.set_cons_succ, i64_w, i32_w]
            rfl
          refine pure_ (i := 11) (N := some 44) (v := ?_) (a' := ?_) #[true, false, true, true, true, true, true, false, false, true, true, true, false, false, false, false, false, false] rfl rfl (by kernel_rfl) (fun _ _ _ h => h) (Or.inl ⟨by rfl, ?_⟩) ?_ ?_
          rotate_left
          · intro w'
            go_simp
            with_reducible rfl
          rotate_left
          · simp only [Act.put, List.setIfInBounds_toArray, List.set_cons_zero, List.set_cons_succ, i64_w, i32_w]
            rfl
          refine pure_ (i := 12) (N := some 45) (v := ?_) (a' := ?_) #[true, false, true, true, true, true, true, false, false, true, true, true, true, false, false, false, false, false] rfl rfl (by kernel_rfl) (fun _ _ _ h => h) (Or.inl ⟨by rfl, ?_⟩) ?_ ?_
          rotate_left
          · intro w'
            go_simp
            with_reducible rfl
          rotate_left
          · simp only [Act.put, List.setIfInBounds_toArray, List.set_cons_zero, List.set_cons_succ, i64_w, i32_w]
            rfl
          refine pure_ (i := 13) (N := some 46) (v := ?_) (a' := ?_) #[true, false, true, true, true, true, true, false, false, true, true, true, true, true, false, false, false, false] rfl rfl (by kernel_rfl) (fun _ _ _ h => h) (Or.inl ⟨by rfl, ?_⟩) ?_ ?_
          rotate_left
          · intro w'
            go_simp
            with_reducible rfl
          rotate_left
          · simp only [Act.put, List.setIfInBounds_toArray, List.set_cons_zero, List.set_cons_succ, i64_w, i32_w]
            rfl
          refine take_ (i := 1) (N := some 34) (v := ?_) (a' := ?_) #[true, true, true, true, true, true, true, false, false, true, true, true, true, true, false, false, false, false] rfl rfl (by kernel_rfl) (fun _ _ _ h => h) (Or.inl ⟨by rfl, ?_⟩) hHeld ?_ ?_
          rotate_left
          · rintro w' ⟨s0, s1, s2, s3, s4, s5, s6⟩
            refine exec46 (.tmp 3) ?_ ?_ s4 <;> rfl
          rotate_left
          · simp only [Act.put, List.setIfInBounds_toArray, List.set_cons_zero, List.set_cons_succ, i64_w, i32_w]
            rfl
          refine take_ (i := 8) (N := some 41) (v := ?_) (a' := ?_) #[true, true, true, true, true, true, true, false, true, true, true, true, true, true, false, false, false, false] rfl rfl (by kernel_rfl) (fun _ _ _ h => h) (Or.inl ⟨by rfl, ?_⟩) hHeld ?_ ?_
          rotate_left
          · rintro w' ⟨s0, s1, s2, s3, s4, s5, s6⟩
            refine exec46 (.tmp 3) ?_ ?_ s4 <;> rfl
          rotate_left
          · simp only [Act.put, List.setIfInBounds_toArray, List.set_cons_zero, List.set_cons_succ, i64_w, i32_w]
            rfl
          refine one_ (i := 7) (N := some 40) #[true, true, true, true, true, true, true, true, true, true, true, true, true, true, false, false, false, false] rfl rfl (by kernel_rfl) (by decide) (fun K hK => ?_)
          refine goes_ Try.func39 (by kernel_rfl) rfl #[.agg (bs 384 A), .int .i64 (if 86400 < wrap64 (to - 86400 * day) then 86400 else wrap64 (to - 86400 * day))] (by rfl) rfl rfl (by simp only [List.map_toArray, List.map_cons, List.map_nil]; rfl) ?_
          with_reducible refine (HPB.out _).mono ?_
          rintro e w4 ⟨rfl, hb⟩
          refine ⟨_, rfl, ?_⟩
          refine hK.out _ _ (l8_on hb hHeld) (fun hHeld => ?_)
          clear hK K
          refine norm_ (a' := ?_) ?_ ?_
          rotate_left
          · show Act.put _ (some 40) _ = _
            simp only [Act.put, List.setIfInBounds_toArray, List.set_cons_zero, List.set_cons_succ, i64_w, i32_w]
            rfl
          refine one_ (i := 14) (N := some 47) #[true, true, true, true, true, true, true, true, true, true, true, true, true, true, true, false, false, false] rfl rfl (by kernel_rfl) (by decide) (fun K hK => ?_)
          refine goes_ Try.func39 (by kernel_rfl) rfl #[.agg (bs 384 A), .int .i64 (if wrap64 (fr - 86400 * day) < 0 then 0 else wrap64 (fr - 86400 * day))] (by rfl) rfl rfl (by simp only [List.map_toArray, List.map_cons, List.map_nil]; rfl) ?_
          with_reducible refine (HPA.out _).mono ?_
          rintro e w4 ⟨rfl, hb⟩
          refine ⟨_, rfl, ?_⟩
          refine hK.out _ _ (l8_on hb hHeld) (fun hHeld => ?_)
          clear hK K
          refine norm_ (a' := ?_) ?_ ?_
          rotate_left
          · show Act.put _ (some 47) _ = _
            simp only [Act.put, List.setIfInBounds_toArray, List.set_cons_zero, List.set_cons_succ, i64_w, i32_w]
            rfl
          refine pure_ (i := 15) (N := some 48) (v := ?_) (a' := ?_) #[true, true, true, true, true, true, true, true, true, true, true, true, true, true, true, true, false, false] rfl rfl (by kernel_rfl) (fun _ _ _ h => h) (Or.inl ⟨by rfl, ?_⟩) ?_ ?_
          rotate_left
          · intro w'
            go_simp
            with_reducible rfl
          rotate_left
          · simp only [Act.put, List.setIfInBounds_toArray, List.set_cons_zero, List.set_cons_succ, i64_w, i32_w]
            rfl
          refine pure_ (i := 16) (N := some 49) (v := ?_) (a' := ?_) #[true, true, true, true, true, true, true, true, true, true, true, true, true, true, true, true, true, false] rfl rfl (by kernel_rfl) (fun _ _ _ h => h) (Or.inl ⟨by rfl, ?_⟩) ?_ ?_
          rotate_left
          · intro w'
            go_simp
            with_reducible rfl
          rotate_left
          · simp only [Act.put, List.setIfInBounds_toArray, List.set_cons_zero, List.set_cons_succ, i64_w, i32_w]
            rfl
          refine pure_ (i := 17) (N := some 7) (v := ?_) (a' := ?_) #[true, true, true, true, true, true, true, true, true, true, true, true, true, true, true, true, true, true] rfl rfl (by kernel_rfl) (fun _ _ _ h => h) (Or.inl ⟨by rfl, ?_⟩) ?_ ?_
          rotate_left
          · intro w'
            go_simp
            with_reducible rfl
          rotate_left
          · simp only [Act.put, List.setIfInBounds_toArray, List.set_cons_zero, List.set_cons_succ, i64_w, i32_w]
            rfl
          refine done_ (by kernel_rfl) ?_
          have HZ7 := Lib.hid hHeld
          clear hHeld hb HT HZ
          have HZ := HZ7
          clear HZ7 HPB HPA
          have hpart := nf_part (f := f) (x := x) (x2 := x2) HD.out.1 d0 (by rw [← HAA.out]; exact HA.out) (by rw [← HAA.out]; exact HDG.out) HDD.out.2.2.1 HDD.out.1 HDD.out.2.1
          rw [← HAA.out] at hpart
          obtain ⟨N2, eN⟩ : ∃ N2 : Int, N2 = ((nf (fits f) x (min (sx day 0 + 86400) x2 - x).toNat : Nat) : Int) := ⟨_, rfl⟩
          have hN2 : N2 = N + (((part A (min (x2 - sx day 0) 86400).toNat : Nat) : Int) - ((part A (max (x - sx day 0) 0).toNat : Nat) : Int)) := by
            rw [eN, hpart, HY.out.1, nf_day (fits f) x x2 (sx day 0) HDD.out.2.2.1 HDD.out.1]
            push_cast
            rfl
          have hb1 := part_le A (min (x2 - sx day 0) 86400).toNat (by omega)
          have hb2 := part_le A (max (x - sx day 0) 0).toNat (by have := HDD.out; omega)
          have HEN := Lib.hid eN
          clear eN
          have hw7 : wrap64 (N + wrap64 (((part A (min (x2 - sx day 0) 86400).toNat : Nat) : Int) - ((part A (max (x - sx day 0) 0).toNat : Nat) : Int))) = N2 := by
            have h := HNB.out
            rw [wi (x := ((part A (min (x2 - sx day 0) 86400).toNat : Nat) : Int) - _) (by omega) (by omega), wi (by omega) (by omega), hN2]
          have hw8 : wrap64 (N + wrap64 (((part A (min (x2 - (day + 719162) * 86400) 86400).toNat : Nat) : Int) - ((part A (max (x - (day + 719162) * 86400) 0).toNat : Nat) : Int))) = N2 := by
            rw [show (day + 719162) * 86400 = sx day 0 by unfold sx; omega]
            exact hw7
          rw [hw8]
          clear hw8
          clear hw7 hb1 hb2 hN2 hpart
          generalize w4 = W7 at HZ ⊢
          obtain ⟨z0, z1, z2⟩ := l8_c HZ.out
          have HZS := Lib.hid (l8_lt HZ.out)
          go_wp2_with (first
            | (go_at_call 36; with_reducible refine (tomorrow_any day y m d _ HD.out.1 HD.out.2 (by have := HYL.out; omega)).mono ?_; rintro e w9 ⟨⟨y', m', d', rfl, hd', hy'⟩, hb9⟩; have H9 := Lib.hid (And.intro hd' hy'); have HB9 := Lib.hid hb9; clear hd' hy' hb9; have HGN := Lib.hid (blk_on HB9.out (heap_old (o' := .cells #[.int .i64 y, .int .i64 m, .int .i64 d] 80) (l8_g HZ.out))); have HQN := Lib.hid (blk_on HB9.out (heap_new0 _ _ (.cells #[.int .i64 y, .int .i64 m, .int .i64 d] 80) rfl)); obtain ⟨r0, r1, r2, f0, f1, f2⟩ := q3_of HQN.out))
          all_goals
            go_roundg (x2 - sx (day + 1) 0 + 86400).toNat
            case measure => have h1 := HY.out; have h2 := HDD.out; unfold sx at *; omega
            case rel =>
              have h1 := HY.out
              have h2 := HDD.out
              have h3 := HZS.out
              have hpf := HEN.out
              refine ⟨N2, day + 1, _, y', m', d', rfl, by first | rfl | rw [wi (x := day + 1) (by omega) (by omega)], rfl, H9, Lib.hid ⟨?_, by omega, by omega, rfl⟩, Lib.hid ⟨(put3_out (by omega)).trans HGN.out, put3_blk HQN.out, h3.1, put3_bel (bl_on (bl_alloc (l8_bel HZ.out) _) HB9.out) (by omega)⟩⟩
              rw [hpf, show sx (day + 1) 0 = sx day 0 + 86400 by unfold sx; omega]
    · have HLT := Lib.hid hlt
      have hd4 := decide_eq_false hlt
      clear hlt
      go_wp2_with fail
      go_ret
      refine ⟨?_, HW.out.2.2.2⟩
      have e : N = R := by
        have h := HX.out
        have h2 := HLT.out
        have h3 := HY.out
        rw [HR.out, h3.1, show (min (sx day 0) x2 - x).toNat = (x2 - x).toNat by unfold sx; omega]
      rw [e]
      rfl
end Go.Proofs.Ytdgglkihiibmhaa
