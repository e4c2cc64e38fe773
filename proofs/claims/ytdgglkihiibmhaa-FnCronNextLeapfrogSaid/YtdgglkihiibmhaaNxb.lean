/-
  SpecSchedule.Next: the months.
-/
import Derived.Test.YtdgglkihiibmhaaNxa
set_option linter.unusedVariables false
set_option linter.unusedSimpArgs false
namespace Go.Proofs.Ytdgglkihiibmhaa
open Go Go.RowKit Cal Go.Proofs.YtdgglkihiibmhaaW.PrintLast

noncomputable def moB : Code := loC (blC nxM)
set_option maxRecDepth 1000000 in
set_option maxHeartbeats 4000000 in
theorem mo_exit (w : World) (p a5 q : Nat) (f : Six) (tv : Value) (yl x : Int) (ad : Bool) (u : Nat → Value) (W : World) (x0 : 0 ≤ x) (x1 : x ≤ 900000000000) (hW : NW w p a5 q f x W) (hm : hb f.mo (Mx x) = true) (R : Exit → Act → World → Prop)
    (hex : ∀ u W', NW w p a5 q f x W' → R (.exit 0) (FR p w.heap.size a5 q tv yl ad u) W') : Code.wp Try.prog moB R (FR p w.heap.size a5 q tv yl ad u) W := by
  have HS := Lib.hid hW
  have hd := date_b x x0 (by omega)
  have HB := Lib.hid (bit_eqq f.mo (Mx x) f.h4 (by omega) (by omega))
  have HM := Lib.hid hm
  have HR := Lib.hid hex
  clear hW hm hex hd
  refine Code.wp_mono (NoPanic.imp (Q := R)) ?_
  conv => arg 2; whnf
  unfold FR
  go_wp2_with fail
  go_region_held3 (fun W => NW w p a5 q f x W) (first | assumption | exact nw_on (bl_drew (Below.refl _ _)) HS.out | (refine nw_on (by assumption) ?_; first | assumption | exact nw_on (bl_drew (Below.refl _ _)) HS.out)) (first
      | (go_at_call 89; refine (Month_any 0 x _ (by omega) (by omega) x0 (by omega)).mono ?_; rintro e w3 ⟨rfl, hb⟩))
  have H3 := Lib.hid (nw_on hb (nw_on (bl_drew (Below.refl _ _)) HS.out))
  rename_i hq
  clear hb hq
  rw [HB.out, HM.out]
  go_wp2_with fail
  refine fr_q (R := NoPanic R (.exit 0)) (p := p) (T := w.heap.size) (a5 := a5) (q := q) (tv := tv) (yl := yl) (ad := ad) (by kernel_rfl) (fun u => ?_)
  exact HR.out u _ H3.out
theorem ms_mod (x : Int) : MS x % 86400 = 0 := by unfold MS DS; omega
theorem ms_date (x : Int) (x0 : 0 ≤ x) : Mx (MS x) = Mx x ∧ Yx (MS x) = Yx x ∧ Dx (MS x) = 1 := by
  obtain ⟨a, b, c⟩ := ms_le x x0
  obtain ⟨d, e, g⟩ := in_month (z := MS x) x0 (by omega) (by omega) c
  exact ⟨d, e, by rw [g]; omega⟩
theorem addM (x : Int) (w : World) (x0 : 0 ≤ x) (x1 : x ≤ 900000000000) : Calls Try.prog 91 #[tmV 0 (MS x), .int .i64 0, .int .i64 1, .int .i64 0] w fun e w' => e = .returned (tmV 0 (NM x)) ∧ Below w.heap.size w w' := by
  obtain ⟨a, b, c⟩ := ms_le x x0
  obtain ⟨d, e, g⟩ := ms_date x x0
  have hm := ms_mod x
  have h := AddMonth_any (MS x) w c (by omega) g
  rw [d, e, show MS x % 86400 / 3600 = 0 by omega, show MS x % 3600 / 60 = 0 by omega, show MS x % 60 = 0 by omega] at h
  exact h
theorem nm_hi (x : Int) (x0 : 0 ≤ x) (x1 : x ≤ 900000000000) : 0 ≤ NM x ∧ NM x ≤ 900002764800 := by
  obtain ⟨a, b, c⟩ := ms_le x x0
  have e := nm_eq x x0
  have h : MD (Yx x) (Mx x) ≤ 31 := by
    have := lp_01 (Yx x)
    unfold MD
    (repeat' split) <;> omega
  omega
set_option maxRecDepth 1000000 in
set_option maxHeartbeats 4000000 in
theorem mo_stepT (w : World) (p a5 q : Nat) (f : Six) (tv : Value) (yl x : Int) (ad : Bool) (u : Nat → Value) (W : World) (x0 : 0 ≤ x) (x1 : x ≤ 900000000000) (hW : NW w p a5 q f x W) (had : ad = true) (hx : MS x = x) (hm : hb f.mo (Mx x) = false) (R : Exit → Act → World → Prop)
    (hst : ∀ u W', NW w p a5 q f (NM x) W' → Mx (NM x) ≠ 1 → R .normal (FR p w.heap.size a5 q tv yl true u) W') (hgo : ∀ u W', NW w p a5 q f (NM x) W' → Mx (NM x) = 1 → R (.goto 0) (FR p w.heap.size a5 q tv yl true u) W') : Code.wp Try.prog moB R (FR p w.heap.size a5 q tv yl ad u) W := by
  subst had
  have HS := Lib.hid hW
  have hd := date_b x x0 (by omega)
  have HB := Lib.hid (bit_eqq f.mo (Mx x) f.h4 (by omega) (by omega))
  have HM := Lib.hid hm
  have HX := Lib.hid hx
  have HG := Lib.hid hgo
  have HT := Lib.hid hst
  have HN := Lib.hid (nm_hi x x0 x1)
  clear hW hm hgo hst hd hx
  refine Code.wp_mono (NoPanic.imp (Q := R)) ?_
  conv => arg 2; whnf
  unfold FR
  cases hj : (Mx (NM x) == 1)
  all_goals
    have HJ := Lib.hid hj
    go_wp2_with fail
    go_region_held3 (fun W => NW w p a5 q f x W) (first | assumption | exact nw_on (bl_drew (Below.refl _ _)) HS.out | (refine nw_on (by assumption) ?_; first | assumption | exact nw_on (bl_drew (Below.refl _ _)) HS.out)) (first
      | (go_at_call 89; refine (Month_any 0 x _ (by omega) (by omega) x0 (by omega)).mono ?_; rintro e w3 ⟨rfl, hb⟩))
    have H3 := Lib.hid (nw_on hb (nw_on (bl_drew (Below.refl _ _)) HS.out))
    rename_i hq
    clear hb hq
    obtain ⟨-, -, -, -, -, -, -, k0, k1, k2, z0, z1, z2, -⟩ := H3.out
    rw [HB.out, HM.out]
    go_wp2_with (first
      | (go_at_call 91; rw [← HX.out]; refine (addM x _ x0 x1).mono ?_; rintro e w4 ⟨rfl, hb⟩; have H4 := Lib.hid (nw_set (y := NM x) (nw_on hb H3.out)); obtain ⟨-, -, -, -, -, -, -, k0, k1, k2, z0, z1, z2, -⟩ := nw_on hb H3.out; clear hb)
      | (go_at_call 89; refine (Month_any 0 (NM x) _ (by omega) (by omega) HN.out.1 (by have := HN.out.2; omega)).mono ?_; rintro e w5 ⟨rfl, hb⟩; have H5 := Lib.hid (nw_on hb H4.out); clear hb))
  · refine fr_q (R := NoPanic R .normal) (p := p) (T := w.heap.size) (a5 := a5) (q := q) (tv := tv) (yl := yl) (ad := true) (by kernel_rfl) (fun u => ?_)
    exact HT.out u _ H5.out (fun c => by have := HJ.out; rw [c] at this; exact absurd this (by decide))
  · go_step3
    refine fr_q (R := NoPanic R (.goto 0)) (p := p) (T := w.heap.size) (a5 := a5) (q := q) (tv := tv) (yl := yl) (ad := true) (by kernel_rfl) (fun u => ?_)
    exact HG.out u _ H5.out (by have := HJ.out; exact of_decide_eq_true this)
set_option maxRecDepth 1000000 in
set_option maxHeartbeats 8000000 in
theorem mo_stepF (w : World) (p a5 q : Nat) (f : Six) (tv : Value) (yl x : Int) (ad : Bool) (u : Nat → Value) (W : World) (x0 : 0 ≤ x) (x1 : x ≤ 900000000000) (hW : NW w p a5 q f x W) (had : ad = false) (hm : hb f.mo (Mx x) = false) (R : Exit → Act → World → Prop)
    (hst : ∀ u W', NW w p a5 q f (NM x) W' → Mx (NM x) ≠ 1 → R .normal (FR p w.heap.size a5 q tv yl true u) W') (hgo : ∀ u W', NW w p a5 q f (NM x) W' → Mx (NM x) = 1 → R (.goto 0) (FR p w.heap.size a5 q tv yl true u) W') : Code.wp Try.prog moB R (FR p w.heap.size a5 q tv yl ad u) W := by
  subst had
  have HS := Lib.hid hW
  have hd := date_b x x0 (by omega)
  have HD := Lib.hid hd
  have HB := Lib.hid (bit_eqq f.mo (Mx x) f.h4 (by omega) (by omega))
  have HM := Lib.hid hm
  have HG := Lib.hid hgo
  have HT := Lib.hid hst
  have HN := Lib.hid (nm_hi x x0 x1)
  clear hW hm hgo hst hd
  refine Code.wp_mono (NoPanic.imp (Q := R)) ?_
  conv => arg 2; whnf
  unfold FR
  cases hj : (Mx (NM x) == 1)
  all_goals
    have HJ := Lib.hid hj
    go_wp2_with fail
    go_region_held3 (fun W => NW w p a5 q f x W) (first | assumption | exact nw_on (bl_drew (Below.refl _ _)) HS.out | (refine nw_on (by assumption) ?_; first | assumption | exact nw_on (bl_drew (Below.refl _ _)) HS.out)) (first
      | (go_at_call 89; refine (Month_any 0 x _ (by omega) (by omega) x0 (by omega)).mono ?_; rintro e w3 ⟨rfl, hb⟩))
    have H3 := Lib.hid (nw_on hb (nw_on (bl_drew (Below.refl _ _)) HS.out))
    rename_i hq
    clear hb hq
    rw [HB.out, HM.out]
    go_wp2_with fail
    refine start_ (n := 7) (S := fun w' => NW w p a5 q f x w') (ds := [6]) #[false, false, false, false, false, false, false] (by kernel_rfl) rfl rfl (nw_on (bl_drew (Below.refl _ _)) H3.out) (fun hHeld => ?_)
    refine pure_ (i := 4) (N := some 60) (v := ?_) (a' := ?_) #[false, false, false, false, true, false, false] rfl rfl (by kernel_rfl) (fun _ _ _ h => h) (Or.inl ⟨by rfl, ?_⟩) ?_ ?_
    rotate_left
    · intro w'
      go_simp
      with_reducible rfl
    rotate_left
    · simp only [Act.put, List.setIfInBounds_toArray, List.set_cons_zero, List.set_cons_succ, i64_w, i32_w]
      rfl
    refine take_ (i := 0) (N := some 56) (v := ?_) (a' := ?_) #[true, false, false, false, true, false, false] rfl rfl (by kernel_rfl) (fun _ _ _ h => h) (Or.inl ⟨by rfl, ?_⟩) hHeld ?_ ?_
    rotate_left
    · rintro w' ⟨s0, s1, s2, s3, s4, s5, s6, s7, s8, s9, s10, s11, s12, s13, s14, s15, s16, s17⟩
      go_simp
      with_reducible rfl
    rotate_left
    · simp only [Act.put, List.setIfInBounds_toArray, List.set_cons_zero, List.set_cons_succ, i64_w, i32_w]
      rfl
    refine take_ (i := 2) (N := some 58) (v := ?_) (a' := ?_) #[true, false, true, false, true, false, false] rfl rfl (by kernel_rfl) (fun _ _ _ h => h) (Or.inl ⟨by rfl, ?_⟩) hHeld ?_ ?_
    rotate_left
    · rintro w' ⟨s0, s1, s2, s3, s4, s5, s6, s7, s8, s9, s10, s11, s12, s13, s14, s15, s16, s17⟩
      go_simp
      with_reducible rfl
    rotate_left
    · simp only [Act.put, List.setIfInBounds_toArray, List.set_cons_zero, List.set_cons_succ, i64_w, i32_w]
      rfl
    refine one_ (i := 1) (N := some 57) #[true, true, true, false, true, false, false] rfl rfl (by kernel_rfl) (by decide) (fun K hK => ?_)
    refine goes_ Try.func88 (by kernel_rfl) rfl #[tmV 0 x] (by rfl) rfl rfl (by simp only [List.map_toArray, List.map_cons, List.map_nil]; rfl) ?_
    with_reducible refine (Year_any 0 x _ (by omega) (by omega) x0 (by omega)).mono ?_
    rintro e w4 ⟨rfl, hb⟩
    refine ⟨_, rfl, ?_⟩
    refine hK.out _ _ (nw_on hb hHeld) (fun hHeld => ?_)
    clear hK K
    refine norm_ (a' := ?_) ?_ ?_
    rotate_left
    · show Act.put _ (some 57) _ = _
      simp only [Act.put, List.setIfInBounds_toArray, List.set_cons_zero, List.set_cons_succ, i64_w, i32_w]
      rfl
    refine one_ (i := 3) (N := some 59) #[true, true, true, true, true, false, false] rfl rfl (by kernel_rfl) (by decide) (fun K hK => ?_)
    refine goes_ Try.func89 (by kernel_rfl) rfl #[tmV 0 x] (by rfl) rfl rfl (by simp only [List.map_toArray, List.map_cons, List.map_nil]; rfl) ?_
    with_reducible refine (Month_any 0 x _ (by omega) (by omega) x0 (by omega)).mono ?_
    rintro e w4 ⟨rfl, hb⟩
    refine ⟨_, rfl, ?_⟩
    refine hK.out _ _ (nw_on hb hHeld) (fun hHeld => ?_)
    clear hK K
    refine norm_ (a' := ?_) ?_ ?_
    rotate_left
    · show Act.put _ (some 59) _ = _
      simp only [Act.put, List.setIfInBounds_toArray, List.set_cons_zero, List.set_cons_succ, i64_w, i32_w]
      rfl
    refine one_ (i := 5) (N := some 61) #[true, true, true, true, true, true, false] rfl rfl (by kernel_rfl) (by decide) (fun K hK => ?_)
    refine goes_ Try.func90 (by kernel_rfl) rfl #[.int .i64 (Yx x), .int .i64 (Mx x), .int .i64 1, .int .i64 0, .int .i64 0, .int .i64 0, .int .i64 0, .pointer (some ⟨q, 0, none⟩)] (by rfl) rfl rfl (by simp only [List.map_toArray, List.map_cons, List.map_nil]; rfl) ?_
    with_reducible refine (DateA_any q (Yx x) (Mx x) 1 0 0 0 _ (nw_q hHeld) HD.out.1 (by have := HD.out; omega) HD.out.2.2.1 HD.out.2.2.2.1 (by omega) (by omega) (by omega) (by omega) (by omega) (by omega) (by omega) (by omega)).mono ?_
    rintro e w4 ⟨rfl, hb⟩
    refine ⟨_, rfl, ?_⟩
    refine hK.out _ _ (nw_on hb hHeld) (fun hHeld => ?_)
    clear hK K
    refine norm_ (a' := ?_) ?_ ?_
    rotate_left
    · show Act.put _ (some 61) _ = _
      simp only [Act.put, List.setIfInBounds_toArray, List.set_cons_zero, List.set_cons_succ, i64_w, i32_w]
      rfl
    refine last_ (i := 6) (N := none) #[true, true, true, true, true, true, true] rfl rfl (by kernel_rfl) (by decide) (fun K hK => ?_)
    have HL := hHeld
    obtain ⟨-, -, -, -, -, -, -, k0, k1, k2, z0, z1, z2, -⟩ := HL
    refine skip_ (w1 := ?_) (by rfl) rfl ?_ ?_
    rotate_left
    · go_simp
      rfl
    refine hK.out _ _ ?_
    clear hK K
    refine done_ (by kernel_rfl) ?_
    have H6 := Lib.hid (nw_set (y := MS x) hHeld)
    obtain ⟨k0, k1, k2⟩ := put3_get (n := .int .u64 0) (x := .int .i64 (MS x)) (e := .pointer none) hHeld.2.2.2.2.2.2.2.1 hHeld.2.2.2.2.2.2.2.2.1 hHeld.2.2.2.2.2.2.2.2.2.1
    obtain ⟨-, -, -, -, -, -, -, -, -, -, z0, z1, z2, -⟩ := H6.out
    clear hHeld
    go_wp2_with (first
      | (go_at_call 91; refine (addM x _ x0 x1).mono ?_; rintro e w4 ⟨rfl, hb⟩; have H4 := Lib.hid (nw_set (y := NM x) (nw_on hb H6.out)); obtain ⟨-, -, -, -, -, -, -, k0, k1, k2, z0, z1, z2, -⟩ := nw_on hb H6.out; clear hb)
      | (go_at_call 89; refine (Month_any 0 (NM x) _ (by omega) (by omega) HN.out.1 (by have := HN.out.2; omega)).mono ?_; rintro e w5 ⟨rfl, hb⟩; have H5 := Lib.hid (nw_on hb H4.out); clear hb))
  · refine fr_q (R := NoPanic R .normal) (p := p) (T := w.heap.size) (a5 := a5) (q := q) (tv := tv) (yl := yl) (ad := true) (by kernel_rfl) (fun u => ?_)
    exact HT.out u _ H5.out (fun c => by have := HJ.out; rw [c] at this; exact absurd this (by decide))
  · go_step3
    refine fr_q (R := NoPanic R (.goto 0)) (p := p) (T := w.heap.size) (a5 := a5) (q := q) (tv := tv) (yl := yl) (ad := true) (by kernel_rfl) (fun u => ?_)
    exact HG.out u _ H5.out (by have := HJ.out; exact of_decide_eq_true this)
/-- the months: the first that matches, or the next year -/
theorem mo_loop (w : World) (p a5 q : Nat) (f : Six) (tv : Value) (s l xs : Int) (l1 : l ≤ 20000) (R : Exit → Act → World → Prop)
    (hN : ∀ u ad x W', NW w p a5 q f x W' → In f s l ad x → xs ≤ x → hb f.mo (Mx x) = true → R .normal (FR p w.heap.size a5 q tv l ad u) W')
    (hG : ∀ u x W', NW w p a5 q f x W' → At f s l true x → xs < x → R (.goto 0) (FR p w.heap.size a5 q tv l true u) W')
    (i : Nx) (W : World) (hW : NW w p a5 q f i.x W) (hI : In f s l i.ad i.x) (hx : xs ≤ i.x) : Code.wp Try.prog nxM R (FN p w.heap.size a5 q tv l i) W := by
  show Code.wp Try.prog (.block 0 (.loop moB)) R _ _
  refine wp_block ?_
  refine wp_loop_fam (FN p w.heap.size a5 q tv l) (fun i W => NW w p a5 q f i.x W ∧ In f s l i.ad i.x ∧ xs ≤ i.x) (fun W => (BY l - i0 W ⟨w.heap.size, 1, none⟩).toNat) ⟨hW, hI, hx⟩ ?_
  rintro ⟨u, ad, x⟩ W ⟨hW, hI, hx⟩
  dsimp only at hW hI hx
  have x0 : 0 ≤ x := by have := hI.lo; have := hI.s0; omega
  have x1 : x ≤ 900000000000 := by have := hI.lt; have := by_hi l l1; omega
  have hs := step_mo hI
  cases hm : hb f.mo (Mx x)
  · obtain ⟨hlt, hA, hn⟩ := hs hm
    have hst : ∀ u W', NW w p a5 q f (NM x) W' → Mx (NM x) ≠ 1 → (∃ j, FR p w.heap.size a5 q tv l true u = FN p w.heap.size a5 q tv l j ∧ (NW w p a5 q f j.x W' ∧ In f s l j.ad j.x ∧ xs ≤ j.x)) ∧ (BY l - i0 W' ⟨w.heap.size, 1, none⟩).toNat < (BY l - i0 W ⟨w.heap.size, 1, none⟩).toNat := by
      intro u W' h1 h2
      refine ⟨⟨⟨u, true, NM x⟩, rfl, h1, hn h2, by show xs ≤ NM x; have hx' : xs ≤ x := hx; omega⟩, ?_⟩
      rw [nw_x h1, nw_x hW]
      have := (hn h2).lt
      have := hI.lt
      show (BY l - NM x).toNat < (BY l - x).toNat
      have h3 : x < BY l := hI.lt
      omega
    have hgo : ∀ u W', NW w p a5 q f (NM x) W' → Mx (NM x) = 1 → R (.goto 0) (FR p w.heap.size a5 q tv l true u) W' := fun u W' h1 _ => hG u _ W' h1 hA (by have hx' : xs ≤ x := hx; omega)
    cases ad
    · exact mo_stepF w p a5 q f tv l x false u W x0 x1 hW rfl hm _ hst hgo
    · have ha := (hI.al rfl).mo hm
      have he : MS x = x := by rw [ms_eq x x0, ha.1, ha.2]; omega
      exact mo_stepT w p a5 q f tv l x true u W x0 x1 hW rfl he hm _ hst hgo
  · exact mo_exit w p a5 q f tv l x ad u W x0 x1 hW hm _ (fun u W' h => hN u ad x W' h hI hx hm)
end Go.Proofs.Ytdgglkihiibmhaa
