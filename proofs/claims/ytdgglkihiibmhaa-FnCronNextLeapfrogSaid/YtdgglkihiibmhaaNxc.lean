/-
  SpecSchedule.Next: the days.
-/
import Derived.Test.YtdgglkihiibmhaaNxb
set_option linter.unusedVariables false
set_option linter.unusedSimpArgs false
namespace Go.Proofs.Ytdgglkihiibmhaa
open Go Go.RowKit Cal Go.Proofs.YtdgglkihiibmhaaW.PrintLast

noncomputable def daB : Code := loC (blC nxD)
theorem ds_day (x : Int) (x0 : 0 ≤ x) : DS (Yx x) (Mx x) (Dx x) 0 0 0 = x - x % 86400 := by
  have e := (x_date x (by omega)).eq
  unfold DS
  omega
theorem nw_sc {w : World} {p a5 q : Nat} {f : Six} {x : Int} {W : World} (h : NW w p a5 q f x W) : SC W p f := ⟨h.1, h.2.1, h.2.2.1, h.2.2.2.1, h.2.2.2.2.1, h.2.2.2.2.2.1, h.2.2.2.2.2.2.1⟩
set_option maxRecDepth 1000000 in
set_option maxHeartbeats 4000000 in
theorem da_exit (w : World) (p a5 q : Nat) (f : Six) (tv : Value) (yl x : Int) (ad : Bool) (u : Nat → Value) (W : World) (x0 : 0 ≤ x) (x1 : x ≤ 900000000000) (hW : NW w p a5 q f x W) (hm : dm f x = true) (R : Exit → Act → World → Prop)
    (hex : ∀ u W', NW w p a5 q f x W' → R (.exit 2) (FR p w.heap.size a5 q tv yl ad u) W') : Code.wp Try.prog daB R (FR p w.heap.size a5 q tv yl ad u) W := by
  have HS := Lib.hid hW
  have hd := date_b x x0 (by omega)

  have HM := Lib.hid hm
  have HR := Lib.hid hex
  clear hW hm hex hd
  refine Code.wp_mono (NoPanic.imp (Q := R)) ?_
  conv => arg 2; whnf
  unfold FR
  obtain ⟨-, -, -, -, -, -, -, k0, k1, k2, z0, z1, z2, -⟩ := HS.out
  go_wp2_with (go_at_call 92; refine (dayM_any p f x _ (nw_sc HS.out) x0 (by omega)).mono ?_; rintro e w3 ⟨rfl, hb⟩; rw [HM.out]; have H3 := Lib.hid (nw_on hb HS.out); obtain ⟨-, -, -, -, -, -, -, k0, k1, k2, z0, z1, z2, -⟩ := nw_on hb HS.out; clear hb)
  refine fr_q (R := NoPanic R (.exit 2)) (p := p) (T := w.heap.size) (a5 := a5) (q := q) (tv := tv) (yl := yl) (ad := ad) (by kernel_rfl) (fun u => ?_)
  exact HR.out u _ H3.out
set_option maxRecDepth 1000000 in
set_option maxHeartbeats 8000000 in
theorem da_stepT (w : World) (p a5 q : Nat) (f : Six) (tv : Value) (yl x : Int) (ad : Bool) (u : Nat → Value) (W : World) (x0 : 0 ≤ x) (x1 : x ≤ 900000000000) (hW : NW w p a5 q f x W) (had : ad = true) (hal : x % 86400 = 0) (hm : dm f x = false) (R : Exit → Act → World → Prop)
    (hst : ∀ u W', NW w p a5 q f (x - x % 86400 + 86400) W' → Dx (x - x % 86400 + 86400) ≠ 1 → R .normal (FR p w.heap.size a5 q tv yl true u) W') (hgo : ∀ u W', NW w p a5 q f (x - x % 86400 + 86400) W' → Dx (x - x % 86400 + 86400) = 1 → R (.goto 0) (FR p w.heap.size a5 q tv yl true u) W') : Code.wp Try.prog daB R (FR p w.heap.size a5 q tv yl ad u) W := by
  subst had
  have HS := Lib.hid hW
  have hd := date_b x x0 (by omega)

  have HM := Lib.hid hm
  have HG := Lib.hid hgo
  have HT := Lib.hid hst
  have HN : Hid (0 ≤ x - x % 86400 + 86400 ∧ x - x % 86400 + 86400 ≤ 1000000000000) := Lib.hid (by omega)
  have HZ : Hid ((x - x % 86400 + 86400) % 86400 / 3600 = 0) := Lib.hid (by omega)
  have HC : Hid (∀ w, Calls Try.prog 91 #[tmV 0 x, .int .i64 0, .int .i64 0, .int .i64 1] w fun e w' => e = .returned (tmV 0 (x - x % 86400 + 86400)) ∧ Below w.heap.size w w') := Lib.hid (fun w => by have h := AddDay_any x w x0 (by omega); rw [show x + 86400 = x - x % 86400 + 86400 by omega] at h; exact h)
  clear hal
  clear hW hm hgo hst hd
  refine Code.wp_mono (NoPanic.imp (Q := R)) ?_
  conv => arg 2; whnf
  unfold FR
  cases hj : (Dx (x - x % 86400 + 86400) == 1)
  all_goals
    have HJ := Lib.hid hj
    obtain ⟨-, -, -, -, -, -, -, k0, k1, k2, z0, z1, z2, -⟩ := HS.out
    go_wp2_with (first
      | (go_at_call 92; refine (dayM_any p f x _ (nw_sc HS.out) x0 (by omega)).mono ?_; rintro e w3 ⟨rfl, hb⟩; rw [HM.out]; have H3 := Lib.hid (nw_on hb HS.out); obtain ⟨-, -, -, -, -, -, -, k0, k1, k2, z0, z1, z2, -⟩ := nw_on hb HS.out; clear hb)
      | (go_at_call 91; refine (HC.out _).mono ?_; rintro e w4 ⟨rfl, hb⟩; have H4 := Lib.hid (nw_set (y := x - x % 86400 + 86400) (nw_on hb H3.out)); obtain ⟨-, -, -, -, -, -, -, k0, k1, k2, z0, z1, z2, -⟩ := nw_on hb H3.out; clear hb)
      | (go_at_call 93; refine (Hour_any 0 (x - x % 86400 + 86400) _ (by omega) (by omega) (by have := HN.out.1; omega) HN.out.2).mono ?_; rintro e w6 ⟨rfl, hb⟩; rw [HZ.out]; have H4b := Lib.hid (nw_on hb H4.out); obtain ⟨-, -, -, -, -, -, -, k0, k1, k2, z0, z1, z2, -⟩ := nw_on hb H4.out; clear hb)
      | (go_at_call 85; refine (Day_any 0 (x - x % 86400 + 86400) _ (by omega) (by omega) HN.out.1 HN.out.2).mono ?_; rintro e w5 ⟨rfl, hb⟩; have H5 := Lib.hid (nw_on hb H4b.out); clear hb))
  · refine fr_q (R := NoPanic R .normal) (p := p) (T := w.heap.size) (a5 := a5) (q := q) (tv := tv) (yl := yl) (ad := true) (by kernel_rfl) (fun u => ?_)
    exact HT.out u _ H5.out (fun c => by have := HJ.out; rw [c] at this; exact absurd this (by decide))
  · go_step3
    refine fr_q (R := NoPanic R (.goto 0)) (p := p) (T := w.heap.size) (a5 := a5) (q := q) (tv := tv) (yl := yl) (ad := true) (by kernel_rfl) (fun u => ?_)
    exact HG.out u _ H5.out (by have := HJ.out; exact of_decide_eq_true this)
set_option maxRecDepth 1000000 in
set_option maxHeartbeats 8000000 in
theorem da_stepF (w : World) (p a5 q : Nat) (f : Six) (tv : Value) (yl x : Int) (ad : Bool) (u : Nat → Value) (W : World) (x0 : 0 ≤ x) (x1 : x ≤ 900000000000) (hW : NW w p a5 q f x W) (had : ad = false) (hm : dm f x = false) (R : Exit → Act → World → Prop)
    (hst : ∀ u W', NW w p a5 q f (x - x % 86400 + 86400) W' → Dx (x - x % 86400 + 86400) ≠ 1 → R .normal (FR p w.heap.size a5 q tv yl true u) W') (hgo : ∀ u W', NW w p a5 q f (x - x % 86400 + 86400) W' → Dx (x - x % 86400 + 86400) = 1 → R (.goto 0) (FR p w.heap.size a5 q tv yl true u) W') : Code.wp Try.prog daB R (FR p w.heap.size a5 q tv yl ad u) W := by
  subst had
  have HS := Lib.hid hW
  have hd := date_b x x0 (by omega)

  have HM := Lib.hid hm
  have HG := Lib.hid hgo
  have HT := Lib.hid hst
  have HN : Hid (0 ≤ x - x % 86400 + 86400 ∧ x - x % 86400 + 86400 ≤ 1000000000000) := Lib.hid (by omega)
  have HZ : Hid ((x - x % 86400 + 86400) % 86400 / 3600 = 0) := Lib.hid (by omega)
  have HE : Hid (∀ w, Calls Try.prog 91 #[tmV 0 (x - x % 86400), .int .i64 0, .int .i64 0, .int .i64 1] w fun e w' => e = .returned (tmV 0 (x - x % 86400 + 86400)) ∧ Below w.heap.size w w') := Lib.hid (fun w => AddDay_any (x - x % 86400) w (by omega) (by omega))
  have HC : Hid (∀ (q : Nat) w, w.heap[q]? = some utcO → Calls Try.prog 90 #[.int .i64 (Yx x), .int .i64 (Mx x), .int .i64 (Dx x), .int .i64 0, .int .i64 0, .int .i64 0, .int .i64 0, .pointer (some ⟨q, 0, none⟩)] w fun e w' => e = .returned (tmV 0 (x - x % 86400)) ∧ Below w.heap.size w w') := Lib.hid (fun q w hq => by have h := DateA_any q (Yx x) (Mx x) (Dx x) 0 0 0 w hq hd.1 (by omega) hd.2.2.1 hd.2.2.2.1 hd.2.2.2.2.1 (by omega) (by omega) (by omega) (by omega) (by omega) (by omega) (by omega); rw [ds_day x x0] at h; exact h)
  clear hW hm hgo hst hd
  refine Code.wp_mono (NoPanic.imp (Q := R)) ?_
  conv => arg 2; whnf
  unfold FR
  cases hj : (Dx (x - x % 86400 + 86400) == 1)
  all_goals
    have HJ := Lib.hid hj
    obtain ⟨-, -, -, -, -, -, -, k0, k1, k2, z0, z1, z2, -⟩ := HS.out
    go_wp2_with (go_at_call 92; refine (dayM_any p f x _ (nw_sc HS.out) x0 (by omega)).mono ?_; rintro e w3 ⟨rfl, hb⟩; rw [HM.out]; have H3 := Lib.hid (nw_on hb HS.out); obtain ⟨-, -, -, -, -, -, -, k0, k1, k2, z0, z1, z2, -⟩ := nw_on hb HS.out; clear hb)
    refine start_ (n := 9) (S := fun w' => NW w p a5 q f x w') (ds := [8]) #[false, false, false, false, false, false, false, false, false] (by kernel_rfl) rfl rfl (nw_on (bl_drew (Below.refl _ _)) H3.out) (fun hHeld => ?_)
    refine pure_ (i := 6) (N := some 79) (v := ?_) (a' := ?_) #[false, false, false, false, false, false, true, false, false] rfl rfl (by kernel_rfl) (fun _ _ _ h => h) (Or.inl ⟨by rfl, ?_⟩) ?_ ?_
    rotate_left
    · intro w'
      go_simp
      with_reducible rfl
    rotate_left
    · simp only [Act.put, List.setIfInBounds_toArray, List.set_cons_zero, List.set_cons_succ, i64_w, i32_w]
      rfl
    refine take_ (i := 0) (N := some 73) (v := ?_) (a' := ?_) #[true, false, false, false, false, false, true, false, false] rfl rfl (by kernel_rfl) (fun _ _ _ h => h) (Or.inl ⟨by rfl, ?_⟩) hHeld ?_ ?_
    rotate_left
    · rintro w' ⟨s0, s1, s2, s3, s4, s5, s6, s7, s8, s9, s10, s11, s12, s13, s14, s15, s16, s17⟩
      go_simp
      with_reducible rfl
    rotate_left
    · simp only [Act.put, List.setIfInBounds_toArray, List.set_cons_zero, List.set_cons_succ, i64_w, i32_w]
      rfl
    refine take_ (i := 2) (N := some 75) (v := ?_) (a' := ?_) #[true, false, true, false, false, false, true, false, false] rfl rfl (by kernel_rfl) (fun _ _ _ h => h) (Or.inl ⟨by rfl, ?_⟩) hHeld ?_ ?_
    rotate_left
    · rintro w' ⟨s0, s1, s2, s3, s4, s5, s6, s7, s8, s9, s10, s11, s12, s13, s14, s15, s16, s17⟩
      go_simp
      with_reducible rfl
    rotate_left
    · simp only [Act.put, List.setIfInBounds_toArray, List.set_cons_zero, List.set_cons_succ, i64_w, i32_w]
      rfl
    refine take_ (i := 4) (N := some 77) (v := ?_) (a' := ?_) #[true, false, true, false, true, false, true, false, false] rfl rfl (by kernel_rfl) (fun _ _ _ h => h) (Or.inl ⟨by rfl, ?_⟩) hHeld ?_ ?_
    rotate_left
    · rintro w' ⟨s0, s1, s2, s3, s4, s5, s6, s7, s8, s9, s10, s11, s12, s13, s14, s15, s16, s17⟩
      go_simp
      with_reducible rfl
    rotate_left
    · simp only [Act.put, List.setIfInBounds_toArray, List.set_cons_zero, List.set_cons_succ, i64_w, i32_w]
      rfl
    refine one_ (i := 1) (N := some 74) #[true, true, true, false, true, false, true, false, false] rfl rfl (by kernel_rfl) (by decide) (fun K hK => ?_)
    refine goes_ Try.func88 (by kernel_rfl) rfl #[tmV 0 x] (by rfl) rfl rfl (by simp only [List.map_toArray, List.map_cons, List.map_nil]; rfl) ?_
    with_reducible refine (Year_any 0 x _ (by omega) (by omega) x0 (by omega)).mono ?_
    rintro e w4 ⟨rfl, hb⟩
    refine ⟨_, rfl, ?_⟩
    refine hK.out _ _ (nw_on hb hHeld) (fun hHeld => ?_)
    clear hK K
    refine norm_ (a' := ?_) ?_ ?_
    rotate_left
    · show Act.put _ (some 74) _ = _
      simp only [Act.put, List.setIfInBounds_toArray, List.set_cons_zero, List.set_cons_succ, i64_w, i32_w]
      rfl
    refine one_ (i := 3) (N := some 76) #[true, true, true, true, true, false, true, false, false] rfl rfl (by kernel_rfl) (by decide) (fun K hK => ?_)
    refine goes_ Try.func89 (by kernel_rfl) rfl #[tmV 0 x] (by rfl) rfl rfl (by simp only [List.map_toArray, List.map_cons, List.map_nil]; rfl) ?_
    with_reducible refine (Month_any 0 x _ (by omega) (by omega) x0 (by omega)).mono ?_
    rintro e w4 ⟨rfl, hb⟩
    refine ⟨_, rfl, ?_⟩
    refine hK.out _ _ (nw_on hb hHeld) (fun hHeld => ?_)
    clear hK K
    refine norm_ (a' := ?_) ?_ ?_
    rotate_left
    · show Act.put _ (some 76) _ = _
      simp only [Act.put, List.setIfInBounds_toArray, List.set_cons_zero, List.set_cons_succ, i64_w, i32_w]
      rfl
    refine one_ (i := 5) (N := some 78) #[true, true, true, true, true, true, true, false, false] rfl rfl (by kernel_rfl) (by decide) (fun K hK => ?_)
    refine goes_ Try.func85 (by kernel_rfl) rfl #[tmV 0 x] (by rfl) rfl rfl (by simp only [List.map_toArray, List.map_cons, List.map_nil]; rfl) ?_
    with_reducible refine (Day_any 0 x _ (by omega) (by omega) x0 (by omega)).mono ?_
    rintro e w4 ⟨rfl, hb⟩
    refine ⟨_, rfl, ?_⟩
    refine hK.out _ _ (nw_on hb hHeld) (fun hHeld => ?_)
    clear hK K
    refine norm_ (a' := ?_) ?_ ?_
    rotate_left
    · show Act.put _ (some 78) _ = _
      simp only [Act.put, List.setIfInBounds_toArray, List.set_cons_zero, List.set_cons_succ, i64_w, i32_w]
      rfl
    refine one_ (i := 7) (N := some 80) #[true, true, true, true, true, true, true, true, false] rfl rfl (by kernel_rfl) (by decide) (fun K hK => ?_)
    refine goes_ Try.func90 (by kernel_rfl) rfl #[.int .i64 (Yx x), .int .i64 (Mx x), .int .i64 (Dx x), .int .i64 0, .int .i64 0, .int .i64 0, .int .i64 0, .pointer (some ⟨q, 0, none⟩)] (by rfl) rfl rfl (by simp only [List.map_toArray, List.map_cons, List.map_nil]; rfl) ?_
    with_reducible refine (HC.out q _ (nw_q hHeld)).mono ?_
    rintro e w4 ⟨rfl, hb⟩
    refine ⟨_, rfl, ?_⟩
    refine hK.out _ _ (nw_on hb hHeld) (fun hHeld => ?_)
    clear hK K
    refine norm_ (a' := ?_) ?_ ?_
    rotate_left
    · show Act.put _ (some 80) _ = _
      simp only [Act.put, List.setIfInBounds_toArray, List.set_cons_zero, List.set_cons_succ, i64_w, i32_w]
      rfl
    refine last_ (i := 8) (N := none) #[true, true, true, true, true, true, true, true, true] rfl rfl (by kernel_rfl) (by decide) (fun K hK => ?_)
    have HL := hHeld
    obtain ⟨-, -, -, -, -, -, -, k0, k1, k2, z0, z1, z2, -⟩ := HL
    refine skip_ (w1 := ?_) (by rfl) rfl ?_ ?_
    rotate_left
    · go_simp
      rfl
    refine hK.out _ _ ?_
    clear hK K
    refine done_ (by kernel_rfl) ?_
    have H6 := Lib.hid (nw_set (y := x - x % 86400) hHeld)
    obtain ⟨k0, k1, k2⟩ := put3_get (n := .int .u64 0) (x := .int .i64 (x - x % 86400)) (e := .pointer none) hHeld.2.2.2.2.2.2.2.1 hHeld.2.2.2.2.2.2.2.2.1 hHeld.2.2.2.2.2.2.2.2.2.1
    obtain ⟨-, -, -, -, -, -, -, -, -, -, z0, z1, z2, -⟩ := H6.out
    clear hHeld
    go_wp2_with (first
      | (go_at_call 91; refine (HE.out _).mono ?_; rintro e w4 ⟨rfl, hb⟩; have H4 := Lib.hid (nw_set (y := x - x % 86400 + 86400) (nw_on hb H6.out)); obtain ⟨-, -, -, -, -, -, -, k0, k1, k2, z0, z1, z2, -⟩ := nw_on hb H6.out; clear hb)
      | (go_at_call 93; refine (Hour_any 0 (x - x % 86400 + 86400) _ (by omega) (by omega) (by have := HN.out.1; omega) HN.out.2).mono ?_; rintro e w6 ⟨rfl, hb⟩; rw [HZ.out]; have H4b := Lib.hid (nw_on hb H4.out); obtain ⟨-, -, -, -, -, -, -, k0, k1, k2, z0, z1, z2, -⟩ := nw_on hb H4.out; clear hb)
      | (go_at_call 85; refine (Day_any 0 (x - x % 86400 + 86400) _ (by omega) (by omega) HN.out.1 HN.out.2).mono ?_; rintro e w5 ⟨rfl, hb⟩; have H5 := Lib.hid (nw_on hb H4b.out); clear hb))
  · refine fr_q (R := NoPanic R .normal) (p := p) (T := w.heap.size) (a5 := a5) (q := q) (tv := tv) (yl := yl) (ad := true) (by kernel_rfl) (fun u => ?_)
    exact HT.out u _ H5.out (fun c => by have := HJ.out; rw [c] at this; exact absurd this (by decide))
  · go_step3
    refine fr_q (R := NoPanic R (.goto 0)) (p := p) (T := w.heap.size) (a5 := a5) (q := q) (tv := tv) (yl := yl) (ad := true) (by kernel_rfl) (fun u => ?_)
    exact HG.out u _ H5.out (by have := HJ.out; exact of_decide_eq_true this)
theorem da_loop (w : World) (p a5 q : Nat) (f : Six) (tv : Value) (s l xs : Int) (l1 : l ≤ 20000) (R : Exit → Act → World → Prop)
    (hN : ∀ u ad x W', NW w p a5 q f x W' → In f s l ad x → xs ≤ x → hb f.mo (Mx x) = true → dm f x = true → R .normal (FR p w.heap.size a5 q tv l ad u) W')
    (hG : ∀ u x W', NW w p a5 q f x W' → At f s l true x → xs < x → R (.goto 0) (FR p w.heap.size a5 q tv l true u) W')
    (i : Nx) (W : World) (hW : NW w p a5 q f i.x W) (hI : In f s l i.ad i.x) (hx : xs ≤ i.x) (hp : hb f.mo (Mx i.x) = true) : Code.wp Try.prog nxD R (FN p w.heap.size a5 q tv l i) W := by
  show Code.wp Try.prog (.block 2 (.loop daB)) R _ _
  refine wp_block ?_
  refine wp_loop_fam (FN p w.heap.size a5 q tv l) (fun i W => NW w p a5 q f i.x W ∧ In f s l i.ad i.x ∧ xs ≤ i.x ∧ hb f.mo (Mx i.x) = true) (fun W => (BY l - i0 W ⟨w.heap.size, 1, none⟩).toNat) ⟨hW, hI, hx, hp⟩ ?_
  rintro ⟨u, ad, x⟩ W ⟨hW, hI, hx, hp⟩
  dsimp only at hW hI hx hp
  have x0 : 0 ≤ x := by have := hI.lo; have := hI.s0; omega
  have x1 : x ≤ 900000000000 := by have := hI.lt; have := by_hi l l1; omega
  cases hm : dm f x
  · obtain ⟨hA, hn⟩ := step_da hI hp hm
    have hst : ∀ u W', NW w p a5 q f (x - x % 86400 + 86400) W' → Dx (x - x % 86400 + 86400) ≠ 1 → (∃ j, FR p w.heap.size a5 q tv l true u = FN p w.heap.size a5 q tv l j ∧ (NW w p a5 q f j.x W' ∧ In f s l j.ad j.x ∧ xs ≤ j.x ∧ hb f.mo (Mx j.x) = true)) ∧ (BY l - i0 W' ⟨w.heap.size, 1, none⟩).toNat < (BY l - i0 W ⟨w.heap.size, 1, none⟩).toNat := by
      intro u W' h1 h2
      obtain ⟨b1, b2⟩ := hn h2
      refine ⟨⟨⟨u, true, x - x % 86400 + 86400⟩, rfl, h1, b1, by show xs ≤ x - x % 86400 + 86400; omega, b2⟩, ?_⟩
      rw [nw_x h1, nw_x hW]
      have := b1.lt
      have h3 : x < BY l := hI.lt
      omega
    have hgo : ∀ u W', NW w p a5 q f (x - x % 86400 + 86400) W' → Dx (x - x % 86400 + 86400) = 1 → R (.goto 0) (FR p w.heap.size a5 q tv l true u) W' := fun u W' h1 _ => hG u _ W' h1 hA (by omega)
    cases ad
    · exact da_stepF w p a5 q f tv l x false u W x0 x1 hW rfl hm _ hst hgo
    · exact da_stepT w p a5 q f tv l x true u W x0 x1 hW rfl ((hI.al rfl).da hm) hm _ hst hgo
  · exact da_exit w p a5 q f tv l x ad u W x0 x1 hW hm _ (fun u W' h => hN u ad x W' h hI hx hp hm)
end Go.Proofs.Ytdgglkihiibmhaa
