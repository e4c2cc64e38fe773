/-
  SpecSchedule.Next: the seconds.
-/
import Derived.Test.YtdgglkihiibmhaaNxe
set_option linter.unusedVariables false
set_option linter.unusedSimpArgs false
namespace Go.Proofs.Ytdgglkihiibmhaa
open Go Go.RowKit Cal Go.Proofs.YtdgglkihiibmhaaW.PrintLast

noncomputable def seB : Code := loC (blC nxS)
set_option maxRecDepth 1000000 in
set_option maxHeartbeats 4000000 in
theorem se_exit (w : World) (p a5 q : Nat) (f : Six) (tv : Value) (yl x : Int) (ad : Bool) (u : Nat → Value) (W : World) (x0 : 0 ≤ x) (x1 : x ≤ 900000000000) (hW : NW w p a5 q f x W) (hm : hb f.se (x % 60) = true) (R : Exit → Act → World → Prop)
    (hex : ∀ u W', NW w p a5 q f x W' → R (.exit 8) (FR p w.heap.size a5 q tv yl ad u) W') : Code.wp Try.prog seB R (FR p w.heap.size a5 q tv yl ad u) W := by
  have HS := Lib.hid hW
  have hd := date_b x x0 (by omega)
  have HB := Lib.hid (bit_eqq f.se (x % 60) f.h0 (by omega) (by omega))
  have HM := Lib.hid hm
  have HR := Lib.hid hex
  clear hW hm hex hd
  refine Code.wp_mono (NoPanic.imp (Q := R)) ?_
  conv => arg 2; whnf
  unfold FR
  go_wp2_with fail
  go_region_held3 (fun W => NW w p a5 q f x W) (first | assumption | exact nw_on (bl_drew (Below.refl _ _)) HS.out | (refine nw_on (by assumption) ?_; first | assumption | exact nw_on (bl_drew (Below.refl _ _)) HS.out)) (first
      | (go_at_call 96; refine (Second_any 0 x _ (by omega) (by omega) (by omega) (by omega)).mono ?_; rintro e w3 ⟨rfl, hb⟩))
  have H3 := Lib.hid (nw_on hb (nw_on (bl_drew (Below.refl _ _)) HS.out))
  rename_i hq
  clear hb hq
  rw [HB.out, HM.out]
  go_wp2_with fail
  refine fr_q (R := NoPanic R (.exit 8)) (p := p) (T := w.heap.size) (a5 := a5) (q := q) (tv := tv) (yl := yl) (ad := ad) (by kernel_rfl) (fun u => ?_)
  exact HR.out u _ H3.out
set_option maxRecDepth 1000000 in
set_option maxHeartbeats 8000000 in
theorem se_stepT (w : World) (p a5 q : Nat) (f : Six) (tv : Value) (yl x : Int) (ad : Bool) (u : Nat → Value) (W : World) (x0 : 0 ≤ x) (x1 : x ≤ 900000000000) (hW : NW w p a5 q f x W) (had : ad = true) (hm : hb f.se (x % 60) = false) (R : Exit → Act → World → Prop)
    (hst : ∀ u W', NW w p a5 q f (x + 1) W' → (x + 1) % 60 ≠ 0 → R .normal (FR p w.heap.size a5 q tv yl true u) W') (hgo : ∀ u W', NW w p a5 q f (x + 1) W' → (x + 1) % 60 = 0 → R (.goto 0) (FR p w.heap.size a5 q tv yl true u) W') : Code.wp Try.prog seB R (FR p w.heap.size a5 q tv yl ad u) W := by
  subst had
  have HS := Lib.hid hW
  have hd := date_b x x0 (by omega)
  have HB := Lib.hid (bit_eqq f.se (x % 60) f.h0 (by omega) (by omega))
  have HM := Lib.hid hm
  have HG := Lib.hid hgo
  have HT := Lib.hid hst
  have HN : Hid (0 ≤ x + 1 ∧ x + 1 ≤ 1000000000000) := Lib.hid (by omega)
  have HC : Hid (∀ w, Calls Try.prog 49 #[tmV 0 (x), .int .i64 1000000000] w fun e w' => e = .returned (tmV 0 (x + 1)) ∧ Below w.heap.size w w') := Lib.hid (fun w => by have h := Add_whole 1000000000 1 (x) w (by omega) (by omega) (by omega) (by omega) (by omega); rw [show (x) + 1 = x + 1 by omega] at h; exact h)
  clear hW hm hgo hst hd
  refine Code.wp_mono (NoPanic.imp (Q := R)) ?_
  conv => arg 2; whnf
  unfold FR
  cases hj : ((x + 1) % 60 == 0)
  all_goals
    have HJ := Lib.hid hj
    go_wp2_with fail
    go_region_held3 (fun W => NW w p a5 q f x W) (first | assumption | exact nw_on (bl_drew (Below.refl _ _)) HS.out | (refine nw_on (by assumption) ?_; first | assumption | exact nw_on (bl_drew (Below.refl _ _)) HS.out)) (first
      | (go_at_call 96; refine (Second_any 0 x _ (by omega) (by omega) (by omega) (by omega)).mono ?_; rintro e w3 ⟨rfl, hb⟩))
    have H3 := Lib.hid (nw_on hb (nw_on (bl_drew (Below.refl _ _)) HS.out))
    rename_i hq
    clear hb hq
    rw [HB.out, HM.out]
    obtain ⟨-, -, -, -, -, -, -, k0, k1, k2, z0, z1, z2, -⟩ := H3.out
    go_wp2_with (first
      | (go_at_call 49; refine (HC.out _).mono ?_; rintro e w4 ⟨rfl, hb⟩; have H4 := Lib.hid (nw_set (y := x + 1) (nw_on hb H3.out)); obtain ⟨-, -, -, -, -, -, -, k0, k1, k2, z0, z1, z2, -⟩ := nw_on hb H3.out; clear hb)
      | (go_at_call 96; refine (Second_any 0 (x + 1) _ (by omega) (by omega) (by have := HN.out.1; omega) HN.out.2).mono ?_; rintro e w5 ⟨rfl, hb⟩; have H5 := Lib.hid (nw_on hb H4.out); clear hb))
  · refine fr_q (R := NoPanic R .normal) (p := p) (T := w.heap.size) (a5 := a5) (q := q) (tv := tv) (yl := yl) (ad := true) (by kernel_rfl) (fun u => ?_)
    exact HT.out u _ H5.out (fun c => by have := HJ.out; rw [c] at this; exact absurd this (by decide))
  · go_step3
    refine fr_q (R := NoPanic R (.goto 0)) (p := p) (T := w.heap.size) (a5 := a5) (q := q) (tv := tv) (yl := yl) (ad := true) (by kernel_rfl) (fun u => ?_)
    exact HG.out u _ H5.out (by have := HJ.out; exact of_decide_eq_true this)
set_option maxRecDepth 1000000 in
set_option maxHeartbeats 8000000 in
theorem se_stepF (w : World) (p a5 q : Nat) (f : Six) (tv : Value) (yl x : Int) (ad : Bool) (u : Nat → Value) (W : World) (x0 : 0 ≤ x) (x1 : x ≤ 900000000000) (hW : NW w p a5 q f x W) (had : ad = false) (hm : hb f.se (x % 60) = false) (R : Exit → Act → World → Prop)
    (hst : ∀ u W', NW w p a5 q f (x + 1) W' → (x + 1) % 60 ≠ 0 → R .normal (FR p w.heap.size a5 q tv yl true u) W') (hgo : ∀ u W', NW w p a5 q f (x + 1) W' → (x + 1) % 60 = 0 → R (.goto 0) (FR p w.heap.size a5 q tv yl true u) W') : Code.wp Try.prog seB R (FR p w.heap.size a5 q tv yl ad u) W := by
  subst had
  have HS := Lib.hid hW
  have hd := date_b x x0 (by omega)
  have HB := Lib.hid (bit_eqq f.se (x % 60) f.h0 (by omega) (by omega))
  have HM := Lib.hid hm
  have HG := Lib.hid hgo
  have HT := Lib.hid hst
  have HN : Hid (0 ≤ x + 1 ∧ x + 1 ≤ 1000000000000) := Lib.hid (by omega)
  have HE : Hid (∀ w, Calls Try.prog 49 #[tmV 0 (x), .int .i64 1000000000] w fun e w' => e = .returned (tmV 0 (x + 1)) ∧ Below w.heap.size w w') := Lib.hid (fun w => by have h := Add_whole 1000000000 1 (x) w (by omega) (by omega) (by omega) (by omega) (by omega); rw [show (x) + 1 = x + 1 by omega] at h; exact h)
  clear hW hm hgo hst hd
  refine Code.wp_mono (NoPanic.imp (Q := R)) ?_
  conv => arg 2; whnf
  unfold FR
  cases hj : ((x + 1) % 60 == 0)
  all_goals
    have HJ := Lib.hid hj
    go_wp2_with fail
    go_region_held3 (fun W => NW w p a5 q f x W) (first | assumption | exact nw_on (bl_drew (Below.refl _ _)) HS.out | (refine nw_on (by assumption) ?_; first | assumption | exact nw_on (bl_drew (Below.refl _ _)) HS.out)) (first
      | (go_at_call 96; refine (Second_any 0 x _ (by omega) (by omega) (by omega) (by omega)).mono ?_; rintro e w3 ⟨rfl, hb⟩))
    have H3 := Lib.hid (nw_on hb (nw_on (bl_drew (Below.refl _ _)) HS.out))
    rename_i hq
    clear hb hq
    rw [HB.out, HM.out]
    obtain ⟨-, -, -, -, -, -, -, k0, k1, k2, z0, z1, z2, -⟩ := H3.out
    go_wp2_with (first
      | (go_at_call 95; refine (TruncSec_any x _ x0 (by omega)).mono ?_; rintro e w7 ⟨rfl, hb⟩; have H6 := Lib.hid (nw_set (y := x) (nw_on hb H3.out)); obtain ⟨-, -, -, -, -, -, -, k0, k1, k2, z0, z1, z2, -⟩ := nw_on hb H3.out; clear hb)
      | (go_at_call 49; refine (HE.out _).mono ?_; rintro e w4 ⟨rfl, hb⟩; have H4 := Lib.hid (nw_set (y := x + 1) (nw_on hb H6.out)); obtain ⟨-, -, -, -, -, -, -, k0, k1, k2, z0, z1, z2, -⟩ := nw_on hb H6.out; clear hb)
      | (go_at_call 96; refine (Second_any 0 (x + 1) _ (by omega) (by omega) (by have := HN.out.1; omega) HN.out.2).mono ?_; rintro e w5 ⟨rfl, hb⟩; have H5 := Lib.hid (nw_on hb H4.out); clear hb))
  · refine fr_q (R := NoPanic R .normal) (p := p) (T := w.heap.size) (a5 := a5) (q := q) (tv := tv) (yl := yl) (ad := true) (by kernel_rfl) (fun u => ?_)
    exact HT.out u _ H5.out (fun c => by have := HJ.out; rw [c] at this; exact absurd this (by decide))
  · go_step3
    refine fr_q (R := NoPanic R (.goto 0)) (p := p) (T := w.heap.size) (a5 := a5) (q := q) (tv := tv) (yl := yl) (ad := true) (by kernel_rfl) (fun u => ?_)
    exact HG.out u _ H5.out (by have := HJ.out; exact of_decide_eq_true this)
theorem se_loop (w : World) (p a5 q : Nat) (f : Six) (tv : Value) (s l xs : Int) (l1 : l ≤ 20000) (R : Exit → Act → World → Prop)
    (hN : ∀ u ad x W', NW w p a5 q f x W' → In f s l ad x → xs ≤ x → (hb f.mo (Mx x) = true ∧ dm f x = true ∧ hb f.ho (x % 86400 / 3600) = true ∧ hb f.mi (x % 3600 / 60) = true) → hb f.se (x % 60) = true → R .normal (FR p w.heap.size a5 q tv l ad u) W')
    (hG : ∀ u x W', NW w p a5 q f x W' → At f s l true x → xs < x → R (.goto 0) (FR p w.heap.size a5 q tv l true u) W')
    (i : Nx) (W : World) (hW : NW w p a5 q f i.x W) (hI : In f s l i.ad i.x) (hx : xs ≤ i.x) (hp : (hb f.mo (Mx i.x) = true ∧ dm f i.x = true ∧ hb f.ho (i.x % 86400 / 3600) = true ∧ hb f.mi (i.x % 3600 / 60) = true)) : Code.wp Try.prog nxS R (FN p w.heap.size a5 q tv l i) W := by
  show Code.wp Try.prog (.block 8 (.loop seB)) R _ _
  refine wp_block ?_
  refine wp_loop_fam (FN p w.heap.size a5 q tv l) (fun i W => NW w p a5 q f i.x W ∧ In f s l i.ad i.x ∧ xs ≤ i.x ∧ (hb f.mo (Mx i.x) = true ∧ dm f i.x = true ∧ hb f.ho (i.x % 86400 / 3600) = true ∧ hb f.mi (i.x % 3600 / 60) = true)) (fun W => (BY l - i0 W ⟨w.heap.size, 1, none⟩).toNat) ⟨hW, hI, hx, hp⟩ ?_
  rintro ⟨u, ad, x⟩ W ⟨hW, hI, hx, hp⟩
  dsimp only at hW hI hx hp
  have x0 : 0 ≤ x := by have := hI.lo; have := hI.s0; omega
  have x1 : x ≤ 900000000000 := by have := hI.lt; have := by_hi l l1; omega
  cases hm : hb f.se (x % 60)
  · obtain ⟨hA, hn⟩ := step_se hI hp.1 hp.2.1 hp.2.2.1 hp.2.2.2 hm
    have hst : ∀ u W', NW w p a5 q f (x + 1) W' → (x + 1) % 60 ≠ 0 → (∃ j, FR p w.heap.size a5 q tv l true u = FN p w.heap.size a5 q tv l j ∧ (NW w p a5 q f j.x W' ∧ In f s l j.ad j.x ∧ xs ≤ j.x ∧ (hb f.mo (Mx j.x) = true ∧ dm f j.x = true ∧ hb f.ho (j.x % 86400 / 3600) = true ∧ hb f.mi (j.x % 3600 / 60) = true))) ∧ (BY l - i0 W' ⟨w.heap.size, 1, none⟩).toNat < (BY l - i0 W ⟨w.heap.size, 1, none⟩).toNat := by
      intro u W' h1 h2
      obtain ⟨b1, b2⟩ := hn h2
      refine ⟨⟨⟨u, true, x + 1⟩, rfl, h1, b1, by show xs ≤ x + 1; omega, b2⟩, ?_⟩
      rw [nw_x h1, nw_x hW]
      have := b1.lt
      have h3 : x < BY l := hI.lt
      omega
    have hgo : ∀ u W', NW w p a5 q f (x + 1) W' → (x + 1) % 60 = 0 → R (.goto 0) (FR p w.heap.size a5 q tv l true u) W' := fun u W' h1 _ => hG u _ W' h1 hA (by omega)
    cases ad
    · exact se_stepF w p a5 q f tv l x false u W x0 x1 hW rfl hm _ hst hgo
    · exact se_stepT w p a5 q f tv l x true u W x0 x1 hW rfl hm _ hst hgo
  · exact se_exit w p a5 q f tv l x ad u W x0 x1 hW hm _ (fun u W' h => hN u ad x W' h hI hx hp hm)
end Go.Proofs.Ytdgglkihiibmhaa
