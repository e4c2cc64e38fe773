-- written by a program of mine (wip/tools/myprint.py) for this claim. Not trusted: Lean checks it.
import Derived.Test.YteonaghjhjnijaaQWx0
import Derived.Test.YteonaghjhjnijaaQWx1
import Derived.Test.YteonaghjhjnijaaQWx2
import Derived.Test.YteonaghjhjnijaaCod
namespace Go.Proofs.Yteonaghjhjnijaa.QW
open Go.RowKit Go.Proofs.YteonaghjhjnijaaW.PrintWords Go.Proofs.YteonaghjhjnijaaW.PrintLast Go.Proofs.YteonaghjhjnijaaW.PrintMore
attribute [local go_sem] max2_int min2_int max_two min_two max_three min_three max_four min_four   -- for this text's walks alone
set_option linter.unusedVariables false
set_option linter.unusedSimpArgs false

/-! ### laws_FnSetCodesOf: function 3 -/
mutual
def laws_FnSetCodesOf.j0 : Nat → ByteArray → List ByteArray → Int → Bool → Option (Bool)
  | 0, _, _, _, _ => none
  | k + 1, x0, x1, x2, x18 => if x18 = true then (some true) else (if (x0.size : Int) > 50 then (laws_FnSetCodesOf.j1 k x0 x1 x2 true) else ((laws_setAscends.f k x1).bind fun t112 => (if t112 = true then ((laws_setEven.f k x1).bind fun t113 => (if t113 = true then (if x2 < 0 then (laws_FnSetCodesOf.j1 k x0 x1 x2 true) else (laws_FnSetCodesOf.j1 k x0 x1 x2 (decide (x2 > 200)))) else (laws_FnSetCodesOf.j1 k x0 x1 x2 true))) else (laws_FnSetCodesOf.j1 k x0 x1 x2 true))))
def laws_FnSetCodesOf.j1 : Nat → ByteArray → List ByteArray → Int → Bool → Option (Bool)
  | 0, _, _, _, _ => none
  | k + 1, x0, x1, x2, x39 => if x39 = true then (some true) else ((impl_SetCodes.f x0 x1 x2).bind fun t114 => (if (t114.length : Int) = (x1.length : Int) then (laws_FnSetCodesOf.l0 k x0 x1 x2 t114 (t114.length : Int) 0) else (some false)))
def laws_FnSetCodesOf.l0 : Nat → ByteArray → List ByteArray → Int → List ByteArray → Int → Int → Option (Bool)
  | 0, _, _, _, _, _, _ => none
  | k + 1, x0, x1, x2, x49, x50, x51 => if x51 < x50 then (if 0 ≤ x51 then (if x51 < (x49.length : Int) then (if x0.size + 1 ≤ 9223372036854775807 then (if x51 < (x1.length : Int) then (if (x0 ++ (⟨#[58]⟩ : ByteArray)).size + (rdOf ByteArray.empty x1 x51).size ≤ 9223372036854775807 then (if (rdOf ByteArray.empty x49 x51).toList = ((x0 ++ (⟨#[58]⟩ : ByteArray)) ++ (rdOf ByteArray.empty x1 x51)).toList then (laws_FnSetCodesOf.l0 k x0 x1 x2 x49 x50 (wrap64 (x51 + 1))) else ((spec_SetMeantIn.f k x1 (rdOf ByteArray.empty x49 x51)).bind fun t119 => (if ((rdOf ByteArray.empty x49 x51).size : Int) < x2 then (some false) else (if (t119.length : Int) = 1 then (if 0 < (t119.length : Int) then (if (rdOf ByteArray.empty t119 0).toList = (rdOf ByteArray.empty x1 x51).toList then (laws_FnSetCodesOf.l0 k x0 x1 x2 x49 x50 (wrap64 (x51 + 1))) else (some false)) else (none)) else (some false))))) else (none)) else (none)) else (none)) else (none)) else (none)) else (some true)
end
def laws_FnSetCodesOf.f (k : Nat) (a0 : ByteArray) (l1 : List ByteArray) (a2 : Int) : Option (Bool) := if (a0.size : Int) > 2147483647 then (laws_FnSetCodesOf.j0 k a0 l1 a2 true) else ((laws_zzFits2.f k l1).bind fun t111 => (laws_FnSetCodesOf.j0 k a0 l1 a2 (!t111)))
theorem laws_FnSetCodesOf.mono_l : ∀ k, (∀ y0 y1 y2 y3, LeO (laws_FnSetCodesOf.j0 k y0 y1 y2 y3) (laws_FnSetCodesOf.j0 (k + 1) y0 y1 y2 y3)) ∧ (∀ y0 y1 y2 y3, LeO (laws_FnSetCodesOf.j1 k y0 y1 y2 y3) (laws_FnSetCodesOf.j1 (k + 1) y0 y1 y2 y3)) ∧ (∀ y0 y1 y2 y3 y4 y5, LeO (laws_FnSetCodesOf.l0 k y0 y1 y2 y3 y4 y5) (laws_FnSetCodesOf.l0 (k + 1) y0 y1 y2 y3 y4 y5))
  | 0 => ⟨fun _ _ _ _ r h => by simp [laws_FnSetCodesOf.j0] at h, fun _ _ _ _ r h => by simp [laws_FnSetCodesOf.j1] at h, fun _ _ _ _ _ _ r h => by simp [laws_FnSetCodesOf.l0] at h⟩
  | k + 1 => by
    obtain ⟨ih0, ih1, ih2⟩ := laws_FnSetCodesOf.mono_l k
    refine ⟨?_, ?_, ?_⟩
    · intro y0 y1 y2 y3
      unfold laws_FnSetCodesOf.j0
      repeat' first
      | (with_reducible exact ih0 _ _ _ _)
      | (with_reducible exact ih1 _ _ _ _)
      | (with_reducible exact ih2 _ _ _ _ _ _)
      | (with_reducible exact laws_setAscends.mono _ _)
      | (with_reducible exact laws_setEven.mono _ _)
      | (with_reducible exact laws_zzFits2.mono _ _)
      | (with_reducible exact spec_SetMeantIn.mono _ _ _)
      | (with_reducible exact LeO.refl _)
      | (with_reducible exact LeO.none _)
      | (with_reducible refine LeO.ite ?_ ?_)
      | (with_reducible refine LeO.bind ?_ (fun _ => ?_))
      | exact ih0 _ _ _ _
      | exact ih1 _ _ _ _
      | exact ih2 _ _ _ _ _ _
      | exact laws_setAscends.mono _ _
      | exact laws_setEven.mono _ _
      | exact laws_zzFits2.mono _ _
      | exact spec_SetMeantIn.mono _ _ _
      | exact LeO.none _
      | refine LeO.ite ?_ ?_
      | refine LeO.bind ?_ (fun _ => ?_)
    · intro y0 y1 y2 y3
      unfold laws_FnSetCodesOf.j1
      repeat' first
      | (with_reducible exact ih0 _ _ _ _)
      | (with_reducible exact ih1 _ _ _ _)
      | (with_reducible exact ih2 _ _ _ _ _ _)
      | (with_reducible exact laws_setAscends.mono _ _)
      | (with_reducible exact laws_setEven.mono _ _)
      | (with_reducible exact laws_zzFits2.mono _ _)
      | (with_reducible exact spec_SetMeantIn.mono _ _ _)
      | (with_reducible exact LeO.refl _)
      | (with_reducible exact LeO.none _)
      | (with_reducible refine LeO.ite ?_ ?_)
      | (with_reducible refine LeO.bind ?_ (fun _ => ?_))
      | exact ih0 _ _ _ _
      | exact ih1 _ _ _ _
      | exact ih2 _ _ _ _ _ _
      | exact laws_setAscends.mono _ _
      | exact laws_setEven.mono _ _
      | exact laws_zzFits2.mono _ _
      | exact spec_SetMeantIn.mono _ _ _
      | exact LeO.none _
      | refine LeO.ite ?_ ?_
      | refine LeO.bind ?_ (fun _ => ?_)
    · intro y0 y1 y2 y3 y4 y5
      unfold laws_FnSetCodesOf.l0
      repeat' first
      | (with_reducible exact ih0 _ _ _ _)
      | (with_reducible exact ih1 _ _ _ _)
      | (with_reducible exact ih2 _ _ _ _ _ _)
      | (with_reducible exact laws_setAscends.mono _ _)
      | (with_reducible exact laws_setEven.mono _ _)
      | (with_reducible exact laws_zzFits2.mono _ _)
      | (with_reducible exact spec_SetMeantIn.mono _ _ _)
      | (with_reducible exact LeO.refl _)
      | (with_reducible exact LeO.none _)
      | (with_reducible refine LeO.ite ?_ ?_)
      | (with_reducible refine LeO.bind ?_ (fun _ => ?_))
      | exact ih0 _ _ _ _
      | exact ih1 _ _ _ _
      | exact ih2 _ _ _ _ _ _
      | exact laws_setAscends.mono _ _
      | exact laws_setEven.mono _ _
      | exact laws_zzFits2.mono _ _
      | exact spec_SetMeantIn.mono _ _ _
      | exact LeO.none _
      | refine LeO.ite ?_ ?_
      | refine LeO.bind ?_ (fun _ => ?_)
theorem laws_FnSetCodesOf.mono : ∀ a0 a1 a2 k, LeO (laws_FnSetCodesOf.f k a0 a1 a2) (laws_FnSetCodesOf.f (k + 1) a0 a1 a2) := by
  intro a0 a1 a2 k
  obtain ⟨ih0, ih1, ih2⟩ := laws_FnSetCodesOf.mono_l k
  unfold laws_FnSetCodesOf.f
  repeat' first
      | (with_reducible exact ih0 _ _ _ _)
      | (with_reducible exact ih1 _ _ _ _)
      | (with_reducible exact ih2 _ _ _ _ _ _)
      | (with_reducible exact laws_setAscends.mono _ _)
      | (with_reducible exact laws_setEven.mono _ _)
      | (with_reducible exact laws_zzFits2.mono _ _)
      | (with_reducible exact spec_SetMeantIn.mono _ _ _)
      | (with_reducible exact LeO.refl _)
      | (with_reducible exact LeO.none _)
      | (with_reducible refine LeO.ite ?_ ?_)
      | (with_reducible refine LeO.bind ?_ (fun _ => ?_))
      | exact ih0 _ _ _ _
      | exact ih1 _ _ _ _
      | exact ih2 _ _ _ _ _ _
      | exact laws_setAscends.mono _ _
      | exact laws_setEven.mono _ _
      | exact laws_zzFits2.mono _ _
      | exact spec_SetMeantIn.mono _ _ _
      | exact LeO.none _
      | refine LeO.ite ?_ ?_
      | refine LeO.bind ?_ (fun _ => ?_)
set_option maxHeartbeats 8000000 in
set_option maxRecDepth 100000 in
theorem laws_FnSetCodesOf.calls (k : Nat) (a0 : ByteArray) (A1 : Option Addr) (c1 : Nat) (l1 : List ByteArray) (a2 : Int) (r : Bool) (w : World) (hr1 : Kd.C Kd.string w A1 l1.length l1) (hc1 : l1.length ≤ c1) (h : laws_FnSetCodesOf.f k a0 l1 a2 = some r) :
    Calls Try.prog 3 #[.string a0, .slice A1 l1.length c1, .int .i64 a2] w fun e w' => e = .returned (.bool r) ∧ Below w.heap.size w w' := by
  have HR1 := Aside0.mk hr1
  have HC1 := Aside0.mk hc1
  clear hr1 hc1
  have HB := Aside0.mk (Below.refl w.heap.size w)
  have H : (if (a0.size : Int) > 2147483647 then (laws_FnSetCodesOf.j0 k a0 l1 a2 true) else ((laws_zzFits2.f k l1).bind fun t111 => (laws_FnSetCodesOf.j0 k a0 l1 a2 (!t111)))) = some r := h
  clear h
  have HC4 := Aside0.mk H
  clear H
  go_enter Try.func3, Try.ntmps3
  go_upto_region 1 with (fail)
  repeat (go_quiet (fail); go_upto_region 1 with (fail))
  go_cut [18] (fun v18 wc => ∃ (kq : Nat) (x18_3 : Bool), v18 = .bool x18_3 ∧ Aside0 (laws_FnSetCodesOf.j0 kq a0 l1 a2 x18_3 = some r) ∧ Aside0 (kq ≤ k) ∧ Aside0 (Below w.heap.size w wc))
  case first =>
    have H := HC4.out
    clear HC4
    by_cases c5 : (a0.size : Int) > 2147483647
    · rw [if_pos c5] at H
      have c5b0 : decide (2147483647 < (a0.size : Int)) = true := decide_eq_true c5
      have c5b1 : decide (2147483647 < a0.size) = true := decide_eq_true (by omega)
      clear c5
      (first | rw [c5b0] | (simp only [i64_w, i32_w]; rw [c5b0]) | rw [c5b1] | skip)
      have H' := Aside0.mk H
      clear H
      go_wp2
      repeat (go_quiet (fail); try go_wp2)
      go_meet
      case rel => exact ⟨_, (true), (by first | rfl | (simp; done) | (simp [*]; done) | (simp [nil_bne]; done)), H', ⟨by first | omega | exact Nat.le_refl _⟩, ⟨by repeat (first | (with_reducible first | exact HB.out | apply below_alloc | apply pw_below_drewN | apply below_drew1) | exact HB.out)⟩⟩
    · rw [if_neg c5] at H
      have c5b0 : decide (2147483647 < (a0.size : Int)) = false := decide_eq_false c5
      have c5b1 : decide (2147483647 < a0.size) = false := decide_eq_false (by omega)
      clear c5
      (first | rw [c5b0] | (simp only [i64_w, i32_w]; rw [c5b0]) | rw [c5b1] | skip)
      replace H := Option.bind_eq_some_iff.mp H
      obtain ⟨t111, A60, H⟩ := H
      replace H : (laws_FnSetCodesOf.j0 k a0 l1 a2 (!t111)) = some r := H
      have A6 := Aside0.mk A60
      clear A60
      have H' := Aside0.mk H
      clear H
      go_wp2_with (first | (go_at_call 4; (with_reducible refine (laws_zzFits2.calls k _ _ l1 t111 _ ?side1 ?side2 A6.out).mono ?_); (case side1 => repeat (first | exact (Kd.C_below HR1.out HB.out) | (with_reducible refine Kd.C_alloc ?_ _) | (with_reducible refine Kd.C_drewN ?_ _) | (with_reducible refine Kd.C_drew ?_))); (case side2 => exact HC1.out); rintro e w' ⟨rfl, ⟨nd, rfl⟩⟩; (try first | exact ⟨rfl, _, World.drewN_drewN _ _ _⟩ | exact ⟨rfl, _, Eq.trans (World.drewN_drewN _ _ _) (congrArg (World.drewN _) (Nat.add_assoc _ _ _))⟩)))
      repeat (go_quiet (first | (go_at_call 4; (with_reducible refine (laws_zzFits2.calls k _ _ l1 t111 _ ?side1 ?side2 A6.out).mono ?_); (case side1 => repeat (first | exact (Kd.C_below HR1.out HB.out) | (with_reducible refine Kd.C_alloc ?_ _) | (with_reducible refine Kd.C_drewN ?_ _) | (with_reducible refine Kd.C_drew ?_))); (case side2 => exact HC1.out); rintro e w' ⟨rfl, ⟨nd, rfl⟩⟩; (try first | exact ⟨rfl, _, World.drewN_drewN _ _ _⟩ | exact ⟨rfl, _, Eq.trans (World.drewN_drewN _ _ _) (congrArg (World.drewN _) (Nat.add_assoc _ _ _))⟩))); try go_wp2_with (first | (go_at_call 4; (with_reducible refine (laws_zzFits2.calls k _ _ l1 t111 _ ?side1 ?side2 A6.out).mono ?_); (case side1 => repeat (first | exact (Kd.C_below HR1.out HB.out) | (with_reducible refine Kd.C_alloc ?_ _) | (with_reducible refine Kd.C_drewN ?_ _) | (with_reducible refine Kd.C_drew ?_))); (case side2 => exact HC1.out); rintro e w' ⟨rfl, ⟨nd, rfl⟩⟩; (try first | exact ⟨rfl, _, World.drewN_drewN _ _ _⟩ | exact ⟨rfl, _, Eq.trans (World.drewN_drewN _ _ _) (congrArg (World.drewN _) (Nat.add_assoc _ _ _))⟩))))
      go_meet
      case rel => exact ⟨_, (!t111), (by first | rfl | (simp; done) | (simp [*]; done) | (simp [nil_bne]; done)), H', ⟨by first | omega | exact Nat.le_refl _⟩, ⟨by repeat (first | (with_reducible first | exact HB.out | apply below_alloc | apply pw_below_drewN | apply below_drew1) | exact HB.out)⟩⟩
  case rest =>
    clear HC4
    try clear c1
    try clear p2
    try clear c3
    try clear c5
    try clear c5b0
    try clear c5b1
    obtain ⟨kq, x18_3, rfl, HA, HJ3, HB⟩ := hcut
    cases kq with
    | zero => exact absurd HA.out (by simp [laws_FnSetCodesOf.j0])
    | succ kj3 =>
      have H := HA.out
      clear HA
      simp only [laws_FnSetCodesOf.j0] at H
      by_cases c7 : x18_3 = true
      · subst c7
        have H1 : (some true) = some r := by rw [if_pos rfl] at H; exact H
        clear H
        have H := H1
        clear H1
        obtain rfl := Option.some.inj H
        go_wp2
        repeat (go_quiet (fail); try go_wp2)
        go_ret
        exact ⟨by first | rfl | (simp [errW_none, errW_some] <;> rfl) | (simp [*, errW_none, errW_some] <;> rfl), by repeat (first | (with_reducible first | exact HB.out | apply below_alloc | apply pw_below_drewN | apply below_drew1) | exact HB.out)⟩
      · replace c7 := Bool.eq_false_iff.mpr c7
        subst c7
        have H1 : (if (a0.size : Int) > 50 then (laws_FnSetCodesOf.j1 kj3 a0 l1 a2 true) else ((laws_setAscends.f kj3 l1).bind fun t112 => (if t112 = true then ((laws_setEven.f kj3 l1).bind fun t113 => (if t113 = true then (if a2 < 0 then (laws_FnSetCodesOf.j1 kj3 a0 l1 a2 true) else (laws_FnSetCodesOf.j1 kj3 a0 l1 a2 (decide (a2 > 200)))) else (laws_FnSetCodesOf.j1 kj3 a0 l1 a2 true))) else (laws_FnSetCodesOf.j1 kj3 a0 l1 a2 true)))) = some r := by rw [if_neg (show ¬ (false = true) by decide)] at H; exact H
        clear H
        have H := H1
        clear H1
        have HC8 := Aside0.mk H
        clear H
        go_upto_region 3 with (fail)
        repeat (go_quiet (fail); go_upto_region 3 with (fail))
        go_cut [39] (fun v39 wc => ∃ (kq : Nat) (x39_7 : Bool), v39 = .bool x39_7 ∧ Aside0 (laws_FnSetCodesOf.j1 kq a0 l1 a2 x39_7 = some r) ∧ Aside0 (kq ≤ kj3) ∧ Aside0 (Below w.heap.size w wc))
        case first =>
          have H := HC8.out
          clear HC8
          by_cases c9 : (a0.size : Int) > 50
          · rw [if_pos c9] at H
            have c9b0 : decide (50 < (a0.size : Int)) = true := decide_eq_true c9
            have c9b1 : decide (50 < a0.size) = true := decide_eq_true (by omega)
            clear c9
            (first | rw [c9b0] | (simp only [i64_w, i32_w]; rw [c9b0]) | rw [c9b1] | skip)
            have H' := Aside0.mk H
            clear H
            go_wp2
            repeat (go_quiet (fail); try go_wp2)
            go_meet
            case rel => exact ⟨_, (true), (by first | rfl | (simp; done) | (simp [*]; done) | (simp [nil_bne]; done)), H', ⟨by have := HJ3.out; first | omega | exact Nat.le_refl _⟩, ⟨by repeat (first | (with_reducible first | exact HB.out | apply below_alloc | apply pw_below_drewN | apply below_drew1) | exact HB.out)⟩⟩
          · rw [if_neg c9] at H
            have c9b0 : decide (50 < (a0.size : Int)) = false := decide_eq_false c9
            have c9b1 : decide (50 < a0.size) = false := decide_eq_false (by omega)
            clear c9
            (first | rw [c9b0] | (simp only [i64_w, i32_w]; rw [c9b0]) | rw [c9b1] | skip)
            replace H := Option.bind_eq_some_iff.mp H
            obtain ⟨t112, A100, H⟩ := H
            replace H : (if t112 = true then ((laws_setEven.f kj3 l1).bind fun t113 => (if t113 = true then (if a2 < 0 then (laws_FnSetCodesOf.j1 kj3 a0 l1 a2 true) else (laws_FnSetCodesOf.j1 kj3 a0 l1 a2 (decide (a2 > 200)))) else (laws_FnSetCodesOf.j1 kj3 a0 l1 a2 true))) else (laws_FnSetCodesOf.j1 kj3 a0 l1 a2 true)) = some r := H
            have A10 := Aside0.mk A100
            clear A100
            by_cases c11 : t112 = true
            · subst c11
              have H1 : ((laws_setEven.f kj3 l1).bind fun t113 => (if t113 = true then (if a2 < 0 then (laws_FnSetCodesOf.j1 kj3 a0 l1 a2 true) else (laws_FnSetCodesOf.j1 kj3 a0 l1 a2 (decide (a2 > 200)))) else (laws_FnSetCodesOf.j1 kj3 a0 l1 a2 true))) = some r := by rw [if_pos rfl] at H; exact H
              clear H
              have H := H1
              clear H1
              replace H := Option.bind_eq_some_iff.mp H
              obtain ⟨t113, A120, H⟩ := H
              replace H : (if t113 = true then (if a2 < 0 then (laws_FnSetCodesOf.j1 kj3 a0 l1 a2 true) else (laws_FnSetCodesOf.j1 kj3 a0 l1 a2 (decide (a2 > 200)))) else (laws_FnSetCodesOf.j1 kj3 a0 l1 a2 true)) = some r := H
              have A12 := Aside0.mk A120
              clear A120
              by_cases c13 : t113 = true
              · subst c13
                have H1 : (if a2 < 0 then (laws_FnSetCodesOf.j1 kj3 a0 l1 a2 true) else (laws_FnSetCodesOf.j1 kj3 a0 l1 a2 (decide (a2 > 200)))) = some r := by rw [if_pos rfl] at H; exact H
                clear H
                have H := H1
                clear H1
                by_cases c14 : a2 < 0
                · rw [if_pos c14] at H
                  have c14b0 : decide (a2 < 0) = true := decide_eq_true c14
                  clear c14
                  have H' := Aside0.mk H
                  clear H
                  go_wp2_with (first | (go_at_call 5; (with_reducible refine (laws_setAscends.calls kj3 _ _ l1 true _ ?side1 ?side2 A10.out).mono ?_); (case side1 => repeat (first | exact (Kd.C_below HR1.out HB.out) | (with_reducible refine Kd.C_alloc ?_ _) | (with_reducible refine Kd.C_drewN ?_ _) | (with_reducible refine Kd.C_drew ?_))); (case side2 => exact HC1.out); rintro e w' ⟨rfl, ⟨nd, rfl⟩⟩; (try first | exact ⟨rfl, _, World.drewN_drewN _ _ _⟩ | exact ⟨rfl, _, Eq.trans (World.drewN_drewN _ _ _) (congrArg (World.drewN _) (Nat.add_assoc _ _ _))⟩)) | (go_at_call 6; (with_reducible refine (laws_setEven.calls kj3 _ _ l1 true _ ?side1 ?side2 A12.out).mono ?_); (case side1 => repeat (first | exact (Kd.C_below HR1.out (by repeat (first | (with_reducible first | exact HB.out | apply below_alloc | apply pw_below_drewN | apply below_drew1) | exact HB.out))) | (with_reducible refine Kd.C_alloc ?_ _) | (with_reducible refine Kd.C_drewN ?_ _) | (with_reducible refine Kd.C_drew ?_))); (case side2 => exact HC1.out); rintro e w' ⟨rfl, ⟨nd, rfl⟩⟩; (try first | exact ⟨rfl, _, World.drewN_drewN _ _ _⟩ | exact ⟨rfl, _, Eq.trans (World.drewN_drewN _ _ _) (congrArg (World.drewN _) (Nat.add_assoc _ _ _))⟩)))
                  repeat (go_quiet (first | (go_at_call 5; (with_reducible refine (laws_setAscends.calls kj3 _ _ l1 true _ ?side1 ?side2 A10.out).mono ?_); (case side1 => repeat (first | exact (Kd.C_below HR1.out HB.out) | (with_reducible refine Kd.C_alloc ?_ _) | (with_reducible refine Kd.C_drewN ?_ _) | (with_reducible refine Kd.C_drew ?_))); (case side2 => exact HC1.out); rintro e w' ⟨rfl, ⟨nd, rfl⟩⟩; (try first | exact ⟨rfl, _, World.drewN_drewN _ _ _⟩ | exact ⟨rfl, _, Eq.trans (World.drewN_drewN _ _ _) (congrArg (World.drewN _) (Nat.add_assoc _ _ _))⟩)) | (go_at_call 6; (with_reducible refine (laws_setEven.calls kj3 _ _ l1 true _ ?side1 ?side2 A12.out).mono ?_); (case side1 => repeat (first | exact (Kd.C_below HR1.out (by repeat (first | (with_reducible first | exact HB.out | apply below_alloc | apply pw_below_drewN | apply below_drew1) | exact HB.out))) | (with_reducible refine Kd.C_alloc ?_ _) | (with_reducible refine Kd.C_drewN ?_ _) | (with_reducible refine Kd.C_drew ?_))); (case side2 => exact HC1.out); rintro e w' ⟨rfl, ⟨nd, rfl⟩⟩; (try first | exact ⟨rfl, _, World.drewN_drewN _ _ _⟩ | exact ⟨rfl, _, Eq.trans (World.drewN_drewN _ _ _) (congrArg (World.drewN _) (Nat.add_assoc _ _ _))⟩))); try go_wp2_with (first | (go_at_call 5; (with_reducible refine (laws_setAscends.calls kj3 _ _ l1 true _ ?side1 ?side2 A10.out).mono ?_); (case side1 => repeat (first | exact (Kd.C_below HR1.out HB.out) | (with_reducible refine Kd.C_alloc ?_ _) | (with_reducible refine Kd.C_drewN ?_ _) | (with_reducible refine Kd.C_drew ?_))); (case side2 => exact HC1.out); rintro e w' ⟨rfl, ⟨nd, rfl⟩⟩; (try first | exact ⟨rfl, _, World.drewN_drewN _ _ _⟩ | exact ⟨rfl, _, Eq.trans (World.drewN_drewN _ _ _) (congrArg (World.drewN _) (Nat.add_assoc _ _ _))⟩)) | (go_at_call 6; (with_reducible refine (laws_setEven.calls kj3 _ _ l1 true _ ?side1 ?side2 A12.out).mono ?_); (case side1 => repeat (first | exact (Kd.C_below HR1.out (by repeat (first | (with_reducible first | exact HB.out | apply below_alloc | apply pw_below_drewN | apply below_drew1) | exact HB.out))) | (with_reducible refine Kd.C_alloc ?_ _) | (with_reducible refine Kd.C_drewN ?_ _) | (with_reducible refine Kd.C_drew ?_))); (case side2 => exact HC1.out); rintro e w' ⟨rfl, ⟨nd, rfl⟩⟩; (try first | exact ⟨rfl, _, World.drewN_drewN _ _ _⟩ | exact ⟨rfl, _, Eq.trans (World.drewN_drewN _ _ _) (congrArg (World.drewN _) (Nat.add_assoc _ _ _))⟩))))
                  go_meet
                  case rel => exact ⟨_, (true), (by first | rfl | (simp; done) | (simp [*]; done) | (simp [nil_bne]; done)), H', ⟨by have := HJ3.out; first | omega | exact Nat.le_refl _⟩, ⟨by repeat (first | (with_reducible first | exact HB.out | apply below_alloc | apply pw_below_drewN | apply below_drew1) | exact HB.out)⟩⟩
                · rw [if_neg c14] at H
                  have c14b0 : decide (a2 < 0) = false := decide_eq_false c14
                  clear c14
                  have H' := Aside0.mk H
                  clear H
                  go_wp2_with (first | (go_at_call 5; (with_reducible refine (laws_setAscends.calls kj3 _ _ l1 true _ ?side1 ?side2 A10.out).mono ?_); (case side1 => repeat (first | exact (Kd.C_below HR1.out HB.out) | (with_reducible refine Kd.C_alloc ?_ _) | (with_reducible refine Kd.C_drewN ?_ _) | (with_reducible refine Kd.C_drew ?_))); (case side2 => exact HC1.out); rintro e w' ⟨rfl, ⟨nd, rfl⟩⟩; (try first | exact ⟨rfl, _, World.drewN_drewN _ _ _⟩ | exact ⟨rfl, _, Eq.trans (World.drewN_drewN _ _ _) (congrArg (World.drewN _) (Nat.add_assoc _ _ _))⟩)) | (go_at_call 6; (with_reducible refine (laws_setEven.calls kj3 _ _ l1 true _ ?side1 ?side2 A12.out).mono ?_); (case side1 => repeat (first | exact (Kd.C_below HR1.out (by repeat (first | (with_reducible first | exact HB.out | apply below_alloc | apply pw_below_drewN | apply below_drew1) | exact HB.out))) | (with_reducible refine Kd.C_alloc ?_ _) | (with_reducible refine Kd.C_drewN ?_ _) | (with_reducible refine Kd.C_drew ?_))); (case side2 => exact HC1.out); rintro e w' ⟨rfl, ⟨nd, rfl⟩⟩; (try first | exact ⟨rfl, _, World.drewN_drewN _ _ _⟩ | exact ⟨rfl, _, Eq.trans (World.drewN_drewN _ _ _) (congrArg (World.drewN _) (Nat.add_assoc _ _ _))⟩)))
                  repeat (go_quiet (first | (go_at_call 5; (with_reducible refine (laws_setAscends.calls kj3 _ _ l1 true _ ?side1 ?side2 A10.out).mono ?_); (case side1 => repeat (first | exact (Kd.C_below HR1.out HB.out) | (with_reducible refine Kd.C_alloc ?_ _) | (with_reducible refine Kd.C_drewN ?_ _) | (with_reducible refine Kd.C_drew ?_))); (case side2 => exact HC1.out); rintro e w' ⟨rfl, ⟨nd, rfl⟩⟩; (try first | exact ⟨rfl, _, World.drewN_drewN _ _ _⟩ | exact ⟨rfl, _, Eq.trans (World.drewN_drewN _ _ _) (congrArg (World.drewN _) (Nat.add_assoc _ _ _))⟩)) | (go_at_call 6; (with_reducible refine (laws_setEven.calls kj3 _ _ l1 true _ ?side1 ?side2 A12.out).mono ?_); (case side1 => repeat (first | exact (Kd.C_below HR1.out (by repeat (first | (with_reducible first | exact HB.out | apply below_alloc | apply pw_below_drewN | apply below_drew1) | exact HB.out))) | (with_reducible refine Kd.C_alloc ?_ _) | (with_reducible refine Kd.C_drewN ?_ _) | (with_reducible refine Kd.C_drew ?_))); (case side2 => exact HC1.out); rintro e w' ⟨rfl, ⟨nd, rfl⟩⟩; (try first | exact ⟨rfl, _, World.drewN_drewN _ _ _⟩ | exact ⟨rfl, _, Eq.trans (World.drewN_drewN _ _ _) (congrArg (World.drewN _) (Nat.add_assoc _ _ _))⟩))); try go_wp2_with (first | (go_at_call 5; (with_reducible refine (laws_setAscends.calls kj3 _ _ l1 true _ ?side1 ?side2 A10.out).mono ?_); (case side1 => repeat (first | exact (Kd.C_below HR1.out HB.out) | (with_reducible refine Kd.C_alloc ?_ _) | (with_reducible refine Kd.C_drewN ?_ _) | (with_reducible refine Kd.C_drew ?_))); (case side2 => exact HC1.out); rintro e w' ⟨rfl, ⟨nd, rfl⟩⟩; (try first | exact ⟨rfl, _, World.drewN_drewN _ _ _⟩ | exact ⟨rfl, _, Eq.trans (World.drewN_drewN _ _ _) (congrArg (World.drewN _) (Nat.add_assoc _ _ _))⟩)) | (go_at_call 6; (with_reducible refine (laws_setEven.calls kj3 _ _ l1 true _ ?side1 ?side2 A12.out).mono ?_); (case side1 => repeat (first | exact (Kd.C_below HR1.out (by repeat (first | (with_reducible first | exact HB.out | apply below_alloc | apply pw_below_drewN | apply below_drew1) | exact HB.out))) | (with_reducible refine Kd.C_alloc ?_ _) | (with_reducible refine Kd.C_drewN ?_ _) | (with_reducible refine Kd.C_drew ?_))); (case side2 => exact HC1.out); rintro e w' ⟨rfl, ⟨nd, rfl⟩⟩; (try first | exact ⟨rfl, _, World.drewN_drewN _ _ _⟩ | exact ⟨rfl, _, Eq.trans (World.drewN_drewN _ _ _) (congrArg (World.drewN _) (Nat.add_assoc _ _ _))⟩))))
                  go_meet
                  case rel => exact ⟨_, (decide (a2 > 200)), (by first | rfl | (simp; done) | (simp [*]; done) | (simp [nil_bne]; done)), H', ⟨by have := HJ3.out; first | omega | exact Nat.le_refl _⟩, ⟨by repeat (first | (with_reducible first | exact HB.out | apply below_alloc | apply pw_below_drewN | apply below_drew1) | exact HB.out)⟩⟩
              · replace c13 := Bool.eq_false_iff.mpr c13
                subst c13
                have H1 : (laws_FnSetCodesOf.j1 kj3 a0 l1 a2 true) = some r := by rw [if_neg (show ¬ (false = true) by decide)] at H; exact H
                clear H
                have H := H1
                clear H1
                have H' := Aside0.mk H
                clear H
                go_wp2_with (first | (go_at_call 5; (with_reducible refine (laws_setAscends.calls kj3 _ _ l1 true _ ?side1 ?side2 A10.out).mono ?_); (case side1 => repeat (first | exact (Kd.C_below HR1.out HB.out) | (with_reducible refine Kd.C_alloc ?_ _) | (with_reducible refine Kd.C_drewN ?_ _) | (with_reducible refine Kd.C_drew ?_))); (case side2 => exact HC1.out); rintro e w' ⟨rfl, ⟨nd, rfl⟩⟩; (try first | exact ⟨rfl, _, World.drewN_drewN _ _ _⟩ | exact ⟨rfl, _, Eq.trans (World.drewN_drewN _ _ _) (congrArg (World.drewN _) (Nat.add_assoc _ _ _))⟩)) | (go_at_call 6; (with_reducible refine (laws_setEven.calls kj3 _ _ l1 false _ ?side1 ?side2 A12.out).mono ?_); (case side1 => repeat (first | exact (Kd.C_below HR1.out (by repeat (first | (with_reducible first | exact HB.out | apply below_alloc | apply pw_below_drewN | apply below_drew1) | exact HB.out))) | (with_reducible refine Kd.C_alloc ?_ _) | (with_reducible refine Kd.C_drewN ?_ _) | (with_reducible refine Kd.C_drew ?_))); (case side2 => exact HC1.out); rintro e w' ⟨rfl, ⟨nd, rfl⟩⟩; (try first | exact ⟨rfl, _, World.drewN_drewN _ _ _⟩ | exact ⟨rfl, _, Eq.trans (World.drewN_drewN _ _ _) (congrArg (World.drewN _) (Nat.add_assoc _ _ _))⟩)))
                repeat (go_quiet (first | (go_at_call 5; (with_reducible refine (laws_setAscends.calls kj3 _ _ l1 true _ ?side1 ?side2 A10.out).mono ?_); (case side1 => repeat (first | exact (Kd.C_below HR1.out HB.out) | (with_reducible refine Kd.C_alloc ?_ _) | (with_reducible refine Kd.C_drewN ?_ _) | (with_reducible refine Kd.C_drew ?_))); (case side2 => exact HC1.out); rintro e w' ⟨rfl, ⟨nd, rfl⟩⟩; (try first | exact ⟨rfl, _, World.drewN_drewN _ _ _⟩ | exact ⟨rfl, _, Eq.trans (World.drewN_drewN _ _ _) (congrArg (World.drewN _) (Nat.add_assoc _ _ _))⟩)) | (go_at_call 6; (with_reducible refine (laws_setEven.calls kj3 _ _ l1 false _ ?side1 ?side2 A12.out).mono ?_); (case side1 => repeat (first | exact (Kd.C_below HR1.out (by repeat (first | (with_reducible first | exact HB.out | apply below_alloc | apply pw_below_drewN | apply below_drew1) | exact HB.out))) | (with_reducible refine Kd.C_alloc ?_ _) | (with_reducible refine Kd.C_drewN ?_ _) | (with_reducible refine Kd.C_drew ?_))); (case side2 => exact HC1.out); rintro e w' ⟨rfl, ⟨nd, rfl⟩⟩; (try first | exact ⟨rfl, _, World.drewN_drewN _ _ _⟩ | exact ⟨rfl, _, Eq.trans (World.drewN_drewN _ _ _) (congrArg (World.drewN _) (Nat.add_assoc _ _ _))⟩))); try go_wp2_with (first | (go_at_call 5; (with_reducible refine (laws_setAscends.calls kj3 _ _ l1 true _ ?side1 ?side2 A10.out).mono ?_); (case side1 => repeat (first | exact (Kd.C_below HR1.out HB.out) | (with_reducible refine Kd.C_alloc ?_ _) | (with_reducible refine Kd.C_drewN ?_ _) | (with_reducible refine Kd.C_drew ?_))); (case side2 => exact HC1.out); rintro e w' ⟨rfl, ⟨nd, rfl⟩⟩; (try first | exact ⟨rfl, _, World.drewN_drewN _ _ _⟩ | exact ⟨rfl, _, Eq.trans (World.drewN_drewN _ _ _) (congrArg (World.drewN _) (Nat.add_assoc _ _ _))⟩)) | (go_at_call 6; (with_reducible refine (laws_setEven.calls kj3 _ _ l1 false _ ?side1 ?side2 A12.out).mono ?_); (case side1 => repeat (first | exact (Kd.C_below HR1.out (by repeat (first | (with_reducible first | exact HB.out | apply below_alloc | apply pw_below_drewN | apply below_drew1) | exact HB.out))) | (with_reducible refine Kd.C_alloc ?_ _) | (with_reducible refine Kd.C_drewN ?_ _) | (with_reducible refine Kd.C_drew ?_))); (case side2 => exact HC1.out); rintro e w' ⟨rfl, ⟨nd, rfl⟩⟩; (try first | exact ⟨rfl, _, World.drewN_drewN _ _ _⟩ | exact ⟨rfl, _, Eq.trans (World.drewN_drewN _ _ _) (congrArg (World.drewN _) (Nat.add_assoc _ _ _))⟩))))
                go_meet
                case rel => exact ⟨_, (true), (by first | rfl | (simp; done) | (simp [*]; done) | (simp [nil_bne]; done)), H', ⟨by have := HJ3.out; first | omega | exact Nat.le_refl _⟩, ⟨by repeat (first | (with_reducible first | exact HB.out | apply below_alloc | apply pw_below_drewN | apply below_drew1) | exact HB.out)⟩⟩
            · replace c11 := Bool.eq_false_iff.mpr c11
              subst c11
              have H1 : (laws_FnSetCodesOf.j1 kj3 a0 l1 a2 true) = some r := by rw [if_neg (show ¬ (false = true) by decide)] at H; exact H
              clear H
              have H := H1
              clear H1
              have H' := Aside0.mk H
              clear H
              go_wp2_with (first | (go_at_call 5; (with_reducible refine (laws_setAscends.calls kj3 _ _ l1 false _ ?side1 ?side2 A10.out).mono ?_); (case side1 => repeat (first | exact (Kd.C_below HR1.out HB.out) | (with_reducible refine Kd.C_alloc ?_ _) | (with_reducible refine Kd.C_drewN ?_ _) | (with_reducible refine Kd.C_drew ?_))); (case side2 => exact HC1.out); rintro e w' ⟨rfl, ⟨nd, rfl⟩⟩; (try first | exact ⟨rfl, _, World.drewN_drewN _ _ _⟩ | exact ⟨rfl, _, Eq.trans (World.drewN_drewN _ _ _) (congrArg (World.drewN _) (Nat.add_assoc _ _ _))⟩)))
              repeat (go_quiet (first | (go_at_call 5; (with_reducible refine (laws_setAscends.calls kj3 _ _ l1 false _ ?side1 ?side2 A10.out).mono ?_); (case side1 => repeat (first | exact (Kd.C_below HR1.out HB.out) | (with_reducible refine Kd.C_alloc ?_ _) | (with_reducible refine Kd.C_drewN ?_ _) | (with_reducible refine Kd.C_drew ?_))); (case side2 => exact HC1.out); rintro e w' ⟨rfl, ⟨nd, rfl⟩⟩; (try first | exact ⟨rfl, _, World.drewN_drewN _ _ _⟩ | exact ⟨rfl, _, Eq.trans (World.drewN_drewN _ _ _) (congrArg (World.drewN _) (Nat.add_assoc _ _ _))⟩))); try go_wp2_with (first | (go_at_call 5; (with_reducible refine (laws_setAscends.calls kj3 _ _ l1 false _ ?side1 ?side2 A10.out).mono ?_); (case side1 => repeat (first | exact (Kd.C_below HR1.out HB.out) | (with_reducible refine Kd.C_alloc ?_ _) | (with_reducible refine Kd.C_drewN ?_ _) | (with_reducible refine Kd.C_drew ?_))); (case side2 => exact HC1.out); rintro e w' ⟨rfl, ⟨nd, rfl⟩⟩; (try first | exact ⟨rfl, _, World.drewN_drewN _ _ _⟩ | exact ⟨rfl, _, Eq.trans (World.drewN_drewN _ _ _) (congrArg (World.drewN _) (Nat.add_assoc _ _ _))⟩))))
              go_meet
              case rel => exact ⟨_, (true), (by first | rfl | (simp; done) | (simp [*]; done) | (simp [nil_bne]; done)), H', ⟨by have := HJ3.out; first | omega | exact Nat.le_refl _⟩, ⟨by repeat (first | (with_reducible first | exact HB.out | apply below_alloc | apply pw_below_drewN | apply below_drew1) | exact HB.out)⟩⟩
        case rest =>
          clear HC8
          try clear c1
          try clear p2
          try clear c3
          try clear c5
          try clear c5b0
          try clear c5b1
          try clear c7
          try clear c9
          try clear c9b0
          try clear c9b1
          try clear c11
          try clear c13
          try clear c14
          try clear c14b0
          try clear p2
          obtain ⟨kq, x39_7, rfl, HA, HJ7, HB⟩ := hcut
          cases kq with
          | zero => exact absurd HA.out (by simp [laws_FnSetCodesOf.j1])
          | succ kj7 =>
            have H := HA.out
            clear HA
            simp only [laws_FnSetCodesOf.j1] at H
            by_cases c15 : x39_7 = true
            · subst c15
              have H1 : (some true) = some r := by rw [if_pos rfl] at H; exact H
              clear H
              have H := H1
              clear H1
              obtain rfl := Option.some.inj H
              go_wp2
              repeat (go_quiet (fail); try go_wp2)
              go_ret
              exact ⟨by first | rfl | (simp [errW_none, errW_some] <;> rfl) | (simp [*, errW_none, errW_some] <;> rfl), by repeat (first | (with_reducible first | exact HB.out | apply below_alloc | apply pw_below_drewN | apply below_drew1) | exact HB.out)⟩
            · replace c15 := Bool.eq_false_iff.mpr c15
              subst c15
              have H1 : ((impl_SetCodes.f a0 l1 a2).bind fun t114 => (if (t114.length : Int) = (l1.length : Int) then (laws_FnSetCodesOf.l0 kj7 a0 l1 a2 t114 (t114.length : Int) 0) else (some false))) = some r := by rw [if_neg (show ¬ (false = true) by decide)] at H; exact H
              clear H
              have H := H1
              clear H1
              replace H := Option.bind_eq_some_iff.mp H
              obtain ⟨t114, A160, H⟩ := H
              replace H : (if (t114.length : Int) = (l1.length : Int) then (laws_FnSetCodesOf.l0 kj7 a0 l1 a2 t114 (t114.length : Int) 0) else (some false)) = some r := H
              have A16 := Aside0.mk A160
              clear A160
              by_cases c17 : (t114.length : Int) = (l1.length : Int)
              · rw [if_pos c17] at H
                have c17b0 : ((t114.length : Int) == (l1.length : Int)) = true := beq_iff_eq.mpr c17
                have c17b1 : ((t114.length : Int) != (l1.length : Int)) = false := bne_eq_false_iff_eq.mpr c17
                have c17b2 : (t114.length == l1.length) = true := by first | simpa using c17 | (simp at c17 ⊢; omega)
                clear c17
                have H' := Aside0.mk H
                clear H
                go_wp2_with (first | (go_at_call 7; (with_reducible refine (impl_SetCodes.calls a0 _ _ l1 a2 t114 _ ?side1 ?side2 A16.out).mono ?_); (case side1 => repeat (first | exact (Kd.C_below HR1.out HB.out) | (with_reducible refine Kd.C_alloc ?_ _) | (with_reducible refine Kd.C_drewN ?_ _) | (with_reducible refine Kd.C_drew ?_))); (case side2 => exact HC1.out); rintro e w18 ⟨v115, rfl, ho0, hb⟩; have n0_ := Aside0.mk (Kd.R_lower ho0 (below_size (by repeat (first | (with_reducible first | exact HB.out | apply below_alloc | apply pw_below_drewN | apply below_drew1) | exact HB.out)))); have n1_ := Aside0.mk (below_step (by repeat (first | (with_reducible first | exact HB.out | apply below_alloc | apply pw_below_drewN | apply below_drew1) | exact HB.out)) hb); clear HB; have HO116 := n0_; have HB := n1_; clear n0_ n1_; (try clear hb); (try clear hb2); (try clear hk); (try clear hi); (try clear ho0); obtain ⟨Ao19, co19, eo19⟩ := Kd.R_slice HO116.out; subst eo19))
                repeat (go_quiet (first | (go_at_call 7; (with_reducible refine (impl_SetCodes.calls a0 _ _ l1 a2 t114 _ ?side1 ?side2 A16.out).mono ?_); (case side1 => repeat (first | exact (Kd.C_below HR1.out HB.out) | (with_reducible refine Kd.C_alloc ?_ _) | (with_reducible refine Kd.C_drewN ?_ _) | (with_reducible refine Kd.C_drew ?_))); (case side2 => exact HC1.out); rintro e w18 ⟨v115, rfl, ho0, hb⟩; have n0_ := Aside0.mk (Kd.R_lower ho0 (below_size (by repeat (first | (with_reducible first | exact HB.out | apply below_alloc | apply pw_below_drewN | apply below_drew1) | exact HB.out)))); have n1_ := Aside0.mk (below_step (by repeat (first | (with_reducible first | exact HB.out | apply below_alloc | apply pw_below_drewN | apply below_drew1) | exact HB.out)) hb); clear HB; have HO116 := n0_; have HB := n1_; clear n0_ n1_; (try clear hb); (try clear hb2); (try clear hk); (try clear hi); (try clear ho0); obtain ⟨Ao19, co19, eo19⟩ := Kd.R_slice HO116.out; subst eo19)); try go_wp2_with (first | (go_at_call 7; (with_reducible refine (impl_SetCodes.calls a0 _ _ l1 a2 t114 _ ?side1 ?side2 A16.out).mono ?_); (case side1 => repeat (first | exact (Kd.C_below HR1.out HB.out) | (with_reducible refine Kd.C_alloc ?_ _) | (with_reducible refine Kd.C_drewN ?_ _) | (with_reducible refine Kd.C_drew ?_))); (case side2 => exact HC1.out); rintro e w18 ⟨v115, rfl, ho0, hb⟩; have n0_ := Aside0.mk (Kd.R_lower ho0 (below_size (by repeat (first | (with_reducible first | exact HB.out | apply below_alloc | apply pw_below_drewN | apply below_drew1) | exact HB.out)))); have n1_ := Aside0.mk (below_step (by repeat (first | (with_reducible first | exact HB.out | apply below_alloc | apply pw_below_drewN | apply below_drew1) | exact HB.out)) hb); clear HB; have HO116 := n0_; have HB := n1_; clear n0_ n1_; (try clear hb); (try clear hb2); (try clear hk); (try clear hi); (try clear ho0); obtain ⟨Ao19, co19, eo19⟩ := Kd.R_slice HO116.out; subst eo19)))
                go_loopg [51] kj7 (fun kq v51 w' => ∃ (x51_3 : Int), v51 = .int .i64 x51_3 ∧ Aside0 (laws_FnSetCodesOf.l0 kq a0 l1 a2 t114 (t114.length : Int) x51_3 = some r) ∧ Aside0 (kq ≤ kj7) ∧ Aside0 (Kd.R Kd.string 9 w' w.heap.size (fun _ => True) (.slice Ao19 t114.length co19) t114) ∧ Aside0 (Below w.heap.size w w'))
                case atStart => exact ⟨(0), (by first | rfl | (simp; done) | (simp [*]; done) | (simp [nil_bne]; done)), H', ⟨Nat.le_refl _⟩, ⟨by (with_reducible repeat (first | apply Kd.R_alloc | apply Kd.R_drewN | apply Kd.R_drew)); exact HO116.out⟩, ⟨by repeat (first | (with_reducible first | exact HB.out | apply below_alloc | apply pw_below_drewN | apply below_drew1) | exact HB.out)⟩⟩
                case round =>
                  clear H'
                  try clear c1
                  try clear p2
                  try clear c3
                  try clear c5
                  try clear c5b0
                  try clear c5b1
                  try clear c7
                  try clear c9
                  try clear c9b0
                  try clear c9b1
                  try clear c11
                  try clear c13
                  try clear c14
                  try clear c14b0
                  try clear c15
                  try clear c17
                  try clear c17b0
                  try clear c17b1
                  try clear c17b2
                  try clear p2
                  obtain ⟨x51_3, rfl, HA, HK3, HO_49, HB⟩ := hrel
                  cases gk with
                  | zero => exact absurd HA.out (by simp [laws_FnSetCodesOf.l0])
                  | succ k3 =>
                    have H := HA.out
                    clear HA
                    simp only [laws_FnSetCodesOf.l0] at H
                    by_cases c20 : x51_3 < (t114.length : Int)
                    · rw [if_pos c20] at H
                      have c20b0 : decide (x51_3 < (t114.length : Int)) = true := decide_eq_true c20
                      clear c20
                      by_cases c21 : 0 ≤ x51_3
                      · rw [if_pos c21] at H
                        have c21b0 : decide (0 ≤ x51_3) = true := decide_eq_true c21
                        clear c21
                        by_cases c22 : x51_3 < (t114.length : Int)
                        · rw [if_pos c22] at H
                          have c22b0 : decide (x51_3 < (t114.length : Int)) = true := decide_eq_true c22
                          clear c22
                          by_cases c23 : a0.size + 1 ≤ 9223372036854775807
                          · rw [if_pos c23] at H
                            have c23b0 := eq_true c23
                            have c23b1 : decide (a0.size + 1 ≤ 9223372036854775807) = true := decide_eq_true c23
                            try have c23b2 : (9223372036854775807 < a0.size + 1) = False := eq_false (Nat.not_lt.2 c23)
                            by_cases c24 : x51_3 < (l1.length : Int)
                            · rw [if_pos c24] at H
                              have c24b0 : decide (x51_3 < (l1.length : Int)) = true := decide_eq_true c24
                              clear c24
                              by_cases c25 : (a0 ++ (⟨#[58]⟩ : ByteArray)).size + (rdOf ByteArray.empty l1 x51_3).size ≤ 9223372036854775807
                              · rw [if_pos c25] at H
                                have c25b0 := eq_true c25
                                have c25b1 : decide ((a0 ++ (⟨#[58]⟩ : ByteArray)).size + (rdOf ByteArray.empty l1 x51_3).size ≤ 9223372036854775807) = true := decide_eq_true c25
                                try have c25b2 : (9223372036854775807 < (a0 ++ (⟨#[58]⟩ : ByteArray)).size + (rdOf ByteArray.empty l1 x51_3).size) = False := eq_false (Nat.not_lt.2 c25)
                                by_cases c26 : (rdOf ByteArray.empty t114 x51_3).toList = ((a0 ++ (⟨#[58]⟩ : ByteArray)) ++ (rdOf ByteArray.empty l1 x51_3)).toList
                                · rw [if_pos c26] at H
                                  have c26b0 : ((rdOf ByteArray.empty t114 x51_3).toList == ((a0 ++ (⟨#[58]⟩ : ByteArray)) ++ (rdOf ByteArray.empty l1 x51_3)).toList) = true := beq_iff_eq.mpr c26
                                  have c26b1 : ((rdOf ByteArray.empty t114 x51_3).toList != ((a0 ++ (⟨#[58]⟩ : ByteArray)) ++ (rdOf ByteArray.empty l1 x51_3)).toList) = false := bne_eq_false_iff_eq.mpr c26
                                  clear c26
                                  have H' := Aside0.mk H
                                  clear H
                                  have p117 : 0 ≤ (x51_3 : Int) := of_decide_eq_true (by first | (with_reducible assumption) | assumption)
                                  have q117 : x51_3 < (t114.length : Int) := of_decide_eq_true (by first | (with_reducible assumption) | assumption)
                                  obtain ⟨ad117, e117, hx117_0⟩ := Kd.at_string (Kd.R_reads' HO_49.out).2.2 x51_3 p117 q117
                                  cases e117
                                  replace p117 := eq_true p117
                                  replace q117 := eq_true q117
                                  have p118 : 0 ≤ (x51_3 : Int) := of_decide_eq_true (by first | (with_reducible assumption) | assumption)
                                  have q118 : x51_3 < (l1.length : Int) := of_decide_eq_true (by first | (with_reducible assumption) | assumption)
                                  obtain ⟨ad118, e118, hx118_0⟩ := Kd.at_string HR1.out x51_3 p118 q118
                                  cases e118
                                  replace hx118_0 := (HB.out.cell (World.block_lt_of_cell? w _ hx118_0)).trans hx118_0
                                  replace p118 := eq_true p118
                                  replace q118 := eq_true q118
                                  go_wp2
                                  repeat (go_quiet (fail); try go_wp2)
                                  go_roundg k3
                                  case measure => have := HJ3.out; have := HJ7.out; have := HK3.out; omega
                                  case rel => exact ⟨(wrap64 (x51_3 + 1)), (by first | rfl | (simp; done) | (simp [*]; done) | (simp [nil_bne]; done)), H', ⟨by have := HJ3.out; have := HJ7.out; have := HK3.out; omega⟩, ⟨by (with_reducible repeat (first | apply Kd.R_alloc | apply Kd.R_drewN | apply Kd.R_drew)); exact HO_49.out⟩, ⟨by repeat (first | (with_reducible first | exact HB.out | apply below_alloc | apply pw_below_drewN | apply below_drew1) | exact HB.out)⟩⟩
                                · rw [if_neg c26] at H
                                  have c26b0 : ((rdOf ByteArray.empty t114 x51_3).toList == ((a0 ++ (⟨#[58]⟩ : ByteArray)) ++ (rdOf ByteArray.empty l1 x51_3)).toList) = false := beq_eq_false_iff_ne.mpr c26
                                  have c26b1 : ((rdOf ByteArray.empty t114 x51_3).toList != ((a0 ++ (⟨#[58]⟩ : ByteArray)) ++ (rdOf ByteArray.empty l1 x51_3)).toList) = true := bne_iff_ne.mpr c26
                                  replace H := Option.bind_eq_some_iff.mp H
                                  obtain ⟨t119, A270, H⟩ := H
                                  replace H : (if ((rdOf ByteArray.empty t114 x51_3).size : Int) < a2 then (some false) else (if (t119.length : Int) = 1 then (if 0 < (t119.length : Int) then (if (rdOf ByteArray.empty t119 0).toList = (rdOf ByteArray.empty l1 x51_3).toList then (laws_FnSetCodesOf.l0 k3 a0 l1 a2 t114 (t114.length : Int) (wrap64 (x51_3 + 1))) else (some false)) else (none)) else (some false))) = some r := H
                                  have A27 := Aside0.mk A270
                                  clear A270
                                  by_cases c28 : ((rdOf ByteArray.empty t114 x51_3).size : Int) < a2
                                  · rw [if_pos c28] at H
                                    have c28b0 : decide (((rdOf ByteArray.empty t114 x51_3).size : Int) < a2) = true := decide_eq_true c28
                                    clear c28
                                    obtain rfl := Option.some.inj H
                                    have p117 : 0 ≤ (x51_3 : Int) := of_decide_eq_true (by first | (with_reducible assumption) | assumption)
                                    have q117 : x51_3 < (t114.length : Int) := of_decide_eq_true (by first | (with_reducible assumption) | assumption)
                                    obtain ⟨ad117, e117, hx117_0⟩ := Kd.at_string (Kd.R_reads' HO_49.out).2.2 x51_3 p117 q117
                                    cases e117
                                    replace p117 := eq_true p117
                                    replace q117 := eq_true q117
                                    have p118 : 0 ≤ (x51_3 : Int) := of_decide_eq_true (by first | (with_reducible assumption) | assumption)
                                    have q118 : x51_3 < (l1.length : Int) := of_decide_eq_true (by first | (with_reducible assumption) | assumption)
                                    obtain ⟨ad118, e118, hx118_0⟩ := Kd.at_string HR1.out x51_3 p118 q118
                                    cases e118
                                    replace hx118_0 := (HB.out.cell (World.block_lt_of_cell? w _ hx118_0)).trans hx118_0
                                    replace p118 := eq_true p118
                                    replace q118 := eq_true q118
                                    go_wp2_with (first | (go_at_call 8; (with_reducible refine (spec_SetMeantIn.calls k3 _ _ l1 (rdOf ByteArray.empty t114 x51_3) t119 _ ?side1 ?side2 A27.out).mono ?_); (case side1 => repeat (first | exact (Kd.C_below HR1.out HB.out) | (with_reducible refine Kd.C_alloc ?_ _) | (with_reducible refine Kd.C_drewN ?_ _) | (with_reducible refine Kd.C_drew ?_))); (case side2 => exact HC1.out); rintro e w29 ⟨v120, rfl, ho0, hb⟩; have n0_ := Aside0.mk (Kd.R_elder' (by (with_reducible repeat (first | apply Kd.R_alloc | apply Kd.R_drewN | apply Kd.R_drew)); exact HO_49.out) (Kd.R_base ho0) hb); have n1_ := Aside0.mk (Kd.R_lower (Kd.R_new' ho0 (Kd.R_lt (by (with_reducible repeat (first | apply Kd.R_alloc | apply Kd.R_drewN | apply Kd.R_drew)); exact HO_49.out))) (below_size (by repeat (first | (with_reducible first | exact HB.out | apply below_alloc | apply pw_below_drewN | apply below_drew1) | exact HB.out)))); have n2_ := Aside0.mk (below_step (by repeat (first | (with_reducible first | exact HB.out | apply below_alloc | apply pw_below_drewN | apply below_drew1) | exact HB.out)) hb); clear HO_49; clear HB; have HO_49 := n0_; have HO121 := n1_; have HB := n2_; clear n0_ n1_ n2_; (try clear hb); (try clear hb2); (try clear hk); (try clear hi); (try clear ho0)))
                                    repeat (go_quiet (first | (go_at_call 8; (with_reducible refine (spec_SetMeantIn.calls k3 _ _ l1 (rdOf ByteArray.empty t114 x51_3) t119 _ ?side1 ?side2 A27.out).mono ?_); (case side1 => repeat (first | exact (Kd.C_below HR1.out HB.out) | (with_reducible refine Kd.C_alloc ?_ _) | (with_reducible refine Kd.C_drewN ?_ _) | (with_reducible refine Kd.C_drew ?_))); (case side2 => exact HC1.out); rintro e w29 ⟨v120, rfl, ho0, hb⟩; have n0_ := Aside0.mk (Kd.R_elder' (by (with_reducible repeat (first | apply Kd.R_alloc | apply Kd.R_drewN | apply Kd.R_drew)); exact HO_49.out) (Kd.R_base ho0) hb); have n1_ := Aside0.mk (Kd.R_lower (Kd.R_new' ho0 (Kd.R_lt (by (with_reducible repeat (first | apply Kd.R_alloc | apply Kd.R_drewN | apply Kd.R_drew)); exact HO_49.out))) (below_size (by repeat (first | (with_reducible first | exact HB.out | apply below_alloc | apply pw_below_drewN | apply below_drew1) | exact HB.out)))); have n2_ := Aside0.mk (below_step (by repeat (first | (with_reducible first | exact HB.out | apply below_alloc | apply pw_below_drewN | apply below_drew1) | exact HB.out)) hb); clear HO_49; clear HB; have HO_49 := n0_; have HO121 := n1_; have HB := n2_; clear n0_ n1_ n2_; (try clear hb); (try clear hb2); (try clear hk); (try clear hi); (try clear ho0))); try go_wp2_with (first | (go_at_call 8; (with_reducible refine (spec_SetMeantIn.calls k3 _ _ l1 (rdOf ByteArray.empty t114 x51_3) t119 _ ?side1 ?side2 A27.out).mono ?_); (case side1 => repeat (first | exact (Kd.C_below HR1.out HB.out) | (with_reducible refine Kd.C_alloc ?_ _) | (with_reducible refine Kd.C_drewN ?_ _) | (with_reducible refine Kd.C_drew ?_))); (case side2 => exact HC1.out); rintro e w29 ⟨v120, rfl, ho0, hb⟩; have n0_ := Aside0.mk (Kd.R_elder' (by (with_reducible repeat (first | apply Kd.R_alloc | apply Kd.R_drewN | apply Kd.R_drew)); exact HO_49.out) (Kd.R_base ho0) hb); have n1_ := Aside0.mk (Kd.R_lower (Kd.R_new' ho0 (Kd.R_lt (by (with_reducible repeat (first | apply Kd.R_alloc | apply Kd.R_drewN | apply Kd.R_drew)); exact HO_49.out))) (below_size (by repeat (first | (with_reducible first | exact HB.out | apply below_alloc | apply pw_below_drewN | apply below_drew1) | exact HB.out)))); have n2_ := Aside0.mk (below_step (by repeat (first | (with_reducible first | exact HB.out | apply below_alloc | apply pw_below_drewN | apply below_drew1) | exact HB.out)) hb); clear HO_49; clear HB; have HO_49 := n0_; have HO121 := n1_; have HB := n2_; clear n0_ n1_ n2_; (try clear hb); (try clear hb2); (try clear hk); (try clear hi); (try clear ho0))))
                                    go_ret
                                    exact ⟨by first | rfl | (simp [errW_none, errW_some] <;> rfl) | (simp [*, errW_none, errW_some] <;> rfl), by repeat (first | (with_reducible first | exact HB.out | apply below_alloc | apply pw_below_drewN | apply below_drew1) | exact HB.out)⟩
                                  · rw [if_neg c28] at H
                                    have c28b0 : decide (((rdOf ByteArray.empty t114 x51_3).size : Int) < a2) = false := decide_eq_false c28
                                    clear c28
                                    by_cases c30 : (t119.length : Int) = 1
                                    · rw [if_pos c30] at H
                                      have c30b0 : ((t119.length : Int) == 1) = true := beq_iff_eq.mpr c30
                                      have c30b1 : ((t119.length : Int) != 1) = false := bne_eq_false_iff_eq.mpr c30
                                      clear c30
                                      by_cases c31 : 0 < (t119.length : Int)
                                      · rw [if_pos c31] at H
                                        have c31b0 : decide (0 < (t119.length : Int)) = true := decide_eq_true c31
                                        have c31b1 : decide (0 < t119.length) = true := decide_eq_true (by omega)
                                        clear c31
                                        by_cases c32 : (rdOf ByteArray.empty t119 0).toList = (rdOf ByteArray.empty l1 x51_3).toList
                                        · rw [if_pos c32] at H
                                          have c32b0 : ((rdOf ByteArray.empty t119 0).toList == (rdOf ByteArray.empty l1 x51_3).toList) = true := beq_iff_eq.mpr c32
                                          have c32b1 : ((rdOf ByteArray.empty t119 0).toList != (rdOf ByteArray.empty l1 x51_3).toList) = false := bne_eq_false_iff_eq.mpr c32
                                          clear c32
                                          have H' := Aside0.mk H
                                          clear H
                                          have p117 : 0 ≤ (x51_3 : Int) := of_decide_eq_true (by first | (with_reducible assumption) | assumption)
                                          have q117 : x51_3 < (t114.length : Int) := of_decide_eq_true (by first | (with_reducible assumption) | assumption)
                                          obtain ⟨ad117, e117, hx117_0⟩ := Kd.at_string (Kd.R_reads' HO_49.out).2.2 x51_3 p117 q117
                                          cases e117
                                          replace p117 := eq_true p117
                                          replace q117 := eq_true q117
                                          have p118 : 0 ≤ (x51_3 : Int) := of_decide_eq_true (by first | (with_reducible assumption) | assumption)
                                          have q118 : x51_3 < (l1.length : Int) := of_decide_eq_true (by first | (with_reducible assumption) | assumption)
                                          obtain ⟨ad118, e118, hx118_0⟩ := Kd.at_string HR1.out x51_3 p118 q118
                                          cases e118
                                          replace hx118_0 := (HB.out.cell (World.block_lt_of_cell? w _ hx118_0)).trans hx118_0
                                          replace p118 := eq_true p118
                                          replace q118 := eq_true q118
                                          go_wp2_with (first | (go_at_call 8; (with_reducible refine (spec_SetMeantIn.calls k3 _ _ l1 (rdOf ByteArray.empty t114 x51_3) t119 _ ?side1 ?side2 A27.out).mono ?_); (case side1 => repeat (first | exact (Kd.C_below HR1.out HB.out) | (with_reducible refine Kd.C_alloc ?_ _) | (with_reducible refine Kd.C_drewN ?_ _) | (with_reducible refine Kd.C_drew ?_))); (case side2 => exact HC1.out); rintro e w33 ⟨v120, rfl, ho0, hb⟩; have n0_ := Aside0.mk (Kd.R_elder' (by (with_reducible repeat (first | apply Kd.R_alloc | apply Kd.R_drewN | apply Kd.R_drew)); exact HO_49.out) (Kd.R_base ho0) hb); have n1_ := Aside0.mk (Kd.R_lower (Kd.R_new' ho0 (Kd.R_lt (by (with_reducible repeat (first | apply Kd.R_alloc | apply Kd.R_drewN | apply Kd.R_drew)); exact HO_49.out))) (below_size (by repeat (first | (with_reducible first | exact HB.out | apply below_alloc | apply pw_below_drewN | apply below_drew1) | exact HB.out)))); have n2_ := Aside0.mk (below_step (by repeat (first | (with_reducible first | exact HB.out | apply below_alloc | apply pw_below_drewN | apply below_drew1) | exact HB.out)) hb); clear HO_49; clear HB; have HO_49 := n0_; have HO121 := n1_; have HB := n2_; clear n0_ n1_ n2_; (try clear hb); (try clear hb2); (try clear hk); (try clear hi); (try clear ho0); obtain ⟨Ao34, co34, eo34⟩ := Kd.R_slice HO121.out; subst eo34; have p122 : 0 ≤ (0 : Int) := (by omega); have q122 : 0 < (t119.length : Int) := of_decide_eq_true (by first | (with_reducible assumption) | assumption); obtain ⟨ad122, e122, hx122_0⟩ := Kd.at_string (Kd.R_reads' HO121.out).2.2 0 p122 q122; cases e122; have qi122 : (0 < t119.length) = True := eq_true (by omega); (try rw [show ((0 : Int)).toNat = 0 from rfl] at hx122_0); (try rw [Addr.add_zero'] at hx122_0); replace p122 := eq_true p122; replace q122 := eq_true q122; have p123 : 0 ≤ (x51_3 : Int) := of_decide_eq_true (by first | (with_reducible assumption) | assumption); have q123 : x51_3 < (l1.length : Int) := of_decide_eq_true (by first | (with_reducible assumption) | assumption); obtain ⟨ad123, e123, hx123_0⟩ := Kd.at_string HR1.out x51_3 p123 q123; obtain rfl : ad118 = ad123 := (by injection e123); replace hx123_0 := (HB.out.cell (World.block_lt_of_cell? w _ hx123_0)).trans hx123_0; replace p123 := eq_true p123; replace q123 := eq_true q123))
                                          repeat (go_quiet (first | (go_at_call 8; (with_reducible refine (spec_SetMeantIn.calls k3 _ _ l1 (rdOf ByteArray.empty t114 x51_3) t119 _ ?side1 ?side2 A27.out).mono ?_); (case side1 => repeat (first | exact (Kd.C_below HR1.out HB.out) | (with_reducible refine Kd.C_alloc ?_ _) | (with_reducible refine Kd.C_drewN ?_ _) | (with_reducible refine Kd.C_drew ?_))); (case side2 => exact HC1.out); rintro e w33 ⟨v120, rfl, ho0, hb⟩; have n0_ := Aside0.mk (Kd.R_elder' (by (with_reducible repeat (first | apply Kd.R_alloc | apply Kd.R_drewN | apply Kd.R_drew)); exact HO_49.out) (Kd.R_base ho0) hb); have n1_ := Aside0.mk (Kd.R_lower (Kd.R_new' ho0 (Kd.R_lt (by (with_reducible repeat (first | apply Kd.R_alloc | apply Kd.R_drewN | apply Kd.R_drew)); exact HO_49.out))) (below_size (by repeat (first | (with_reducible first | exact HB.out | apply below_alloc | apply pw_below_drewN | apply below_drew1) | exact HB.out)))); have n2_ := Aside0.mk (below_step (by repeat (first | (with_reducible first | exact HB.out | apply below_alloc | apply pw_below_drewN | apply below_drew1) | exact HB.out)) hb); clear HO_49; clear HB; have HO_49 := n0_; have HO121 := n1_; have HB := n2_; clear n0_ n1_ n2_; (try clear hb); (try clear hb2); (try clear hk); (try clear hi); (try clear ho0); obtain ⟨Ao34, co34, eo34⟩ := Kd.R_slice HO121.out; subst eo34; have p122 : 0 ≤ (0 : Int) := (by omega); have q122 : 0 < (t119.length : Int) := of_decide_eq_true (by first | (with_reducible assumption) | assumption); obtain ⟨ad122, e122, hx122_0⟩ := Kd.at_string (Kd.R_reads' HO121.out).2.2 0 p122 q122; cases e122; have qi122 : (0 < t119.length) = True := eq_true (by omega); (try rw [show ((0 : Int)).toNat = 0 from rfl] at hx122_0); (try rw [Addr.add_zero'] at hx122_0); replace p122 := eq_true p122; replace q122 := eq_true q122; have p123 : 0 ≤ (x51_3 : Int) := of_decide_eq_true (by first | (with_reducible assumption) | assumption); have q123 : x51_3 < (l1.length : Int) := of_decide_eq_true (by first | (with_reducible assumption) | assumption); obtain ⟨ad123, e123, hx123_0⟩ := Kd.at_string HR1.out x51_3 p123 q123; obtain rfl : ad118 = ad123 := (by injection e123); replace hx123_0 := (HB.out.cell (World.block_lt_of_cell? w _ hx123_0)).trans hx123_0; replace p123 := eq_true p123; replace q123 := eq_true q123)); try go_wp2_with (first | (go_at_call 8; (with_reducible refine (spec_SetMeantIn.calls k3 _ _ l1 (rdOf ByteArray.empty t114 x51_3) t119 _ ?side1 ?side2 A27.out).mono ?_); (case side1 => repeat (first | exact (Kd.C_below HR1.out HB.out) | (with_reducible refine Kd.C_alloc ?_ _) | (with_reducible refine Kd.C_drewN ?_ _) | (with_reducible refine Kd.C_drew ?_))); (case side2 => exact HC1.out); rintro e w33 ⟨v120, rfl, ho0, hb⟩; have n0_ := Aside0.mk (Kd.R_elder' (by (with_reducible repeat (first | apply Kd.R_alloc | apply Kd.R_drewN | apply Kd.R_drew)); exact HO_49.out) (Kd.R_base ho0) hb); have n1_ := Aside0.mk (Kd.R_lower (Kd.R_new' ho0 (Kd.R_lt (by (with_reducible repeat (first | apply Kd.R_alloc | apply Kd.R_drewN | apply Kd.R_drew)); exact HO_49.out))) (below_size (by repeat (first | (with_reducible first | exact HB.out | apply below_alloc | apply pw_below_drewN | apply below_drew1) | exact HB.out)))); have n2_ := Aside0.mk (below_step (by repeat (first | (with_reducible first | exact HB.out | apply below_alloc | apply pw_below_drewN | apply below_drew1) | exact HB.out)) hb); clear HO_49; clear HB; have HO_49 := n0_; have HO121 := n1_; have HB := n2_; clear n0_ n1_ n2_; (try clear hb); (try clear hb2); (try clear hk); (try clear hi); (try clear ho0); obtain ⟨Ao34, co34, eo34⟩ := Kd.R_slice HO121.out; subst eo34; have p122 : 0 ≤ (0 : Int) := (by omega); have q122 : 0 < (t119.length : Int) := of_decide_eq_true (by first | (with_reducible assumption) | assumption); obtain ⟨ad122, e122, hx122_0⟩ := Kd.at_string (Kd.R_reads' HO121.out).2.2 0 p122 q122; cases e122; have qi122 : (0 < t119.length) = True := eq_true (by omega); (try rw [show ((0 : Int)).toNat = 0 from rfl] at hx122_0); (try rw [Addr.add_zero'] at hx122_0); replace p122 := eq_true p122; replace q122 := eq_true q122; have p123 : 0 ≤ (x51_3 : Int) := of_decide_eq_true (by first | (with_reducible assumption) | assumption); have q123 : x51_3 < (l1.length : Int) := of_decide_eq_true (by first | (with_reducible assumption) | assumption); obtain ⟨ad123, e123, hx123_0⟩ := Kd.at_string HR1.out x51_3 p123 q123; obtain rfl : ad118 = ad123 := (by injection e123); replace hx123_0 := (HB.out.cell (World.block_lt_of_cell? w _ hx123_0)).trans hx123_0; replace p123 := eq_true p123; replace q123 := eq_true q123)))
                                          go_roundg k3
                                          case measure => have := HJ3.out; have := HJ7.out; have := HK3.out; omega
                                          case rel => exact ⟨(wrap64 (x51_3 + 1)), (by first | rfl | (simp; done) | (simp [*]; done) | (simp [nil_bne]; done)), H', ⟨by have := HJ3.out; have := HJ7.out; have := HK3.out; omega⟩, ⟨by (with_reducible repeat (first | apply Kd.R_alloc | apply Kd.R_drewN | apply Kd.R_drew)); exact Kd.R_mono HO_49.out (fun _ hk => trivial)⟩, ⟨by repeat (first | (with_reducible first | exact HB.out | apply below_alloc | apply pw_below_drewN | apply below_drew1) | exact HB.out)⟩⟩
                                        · rw [if_neg c32] at H
                                          have c32b0 : ((rdOf ByteArray.empty t119 0).toList == (rdOf ByteArray.empty l1 x51_3).toList) = false := beq_eq_false_iff_ne.mpr c32
                                          have c32b1 : ((rdOf ByteArray.empty t119 0).toList != (rdOf ByteArray.empty l1 x51_3).toList) = true := bne_iff_ne.mpr c32
                                          obtain rfl := Option.some.inj H
                                          have p117 : 0 ≤ (x51_3 : Int) := of_decide_eq_true (by first | (with_reducible assumption) | assumption)
                                          have q117 : x51_3 < (t114.length : Int) := of_decide_eq_true (by first | (with_reducible assumption) | assumption)
                                          obtain ⟨ad117, e117, hx117_0⟩ := Kd.at_string (Kd.R_reads' HO_49.out).2.2 x51_3 p117 q117
                                          cases e117
                                          replace p117 := eq_true p117
                                          replace q117 := eq_true q117
                                          have p118 : 0 ≤ (x51_3 : Int) := of_decide_eq_true (by first | (with_reducible assumption) | assumption)
                                          have q118 : x51_3 < (l1.length : Int) := of_decide_eq_true (by first | (with_reducible assumption) | assumption)
                                          obtain ⟨ad118, e118, hx118_0⟩ := Kd.at_string HR1.out x51_3 p118 q118
                                          cases e118
                                          replace hx118_0 := (HB.out.cell (World.block_lt_of_cell? w _ hx118_0)).trans hx118_0
                                          replace p118 := eq_true p118
                                          replace q118 := eq_true q118
                                          go_wp2_with (first | (go_at_call 8; (with_reducible refine (spec_SetMeantIn.calls k3 _ _ l1 (rdOf ByteArray.empty t114 x51_3) t119 _ ?side1 ?side2 A27.out).mono ?_); (case side1 => repeat (first | exact (Kd.C_below HR1.out HB.out) | (with_reducible refine Kd.C_alloc ?_ _) | (with_reducible refine Kd.C_drewN ?_ _) | (with_reducible refine Kd.C_drew ?_))); (case side2 => exact HC1.out); rintro e w35 ⟨v120, rfl, ho0, hb⟩; have n0_ := Aside0.mk (Kd.R_elder' (by (with_reducible repeat (first | apply Kd.R_alloc | apply Kd.R_drewN | apply Kd.R_drew)); exact HO_49.out) (Kd.R_base ho0) hb); have n1_ := Aside0.mk (Kd.R_lower (Kd.R_new' ho0 (Kd.R_lt (by (with_reducible repeat (first | apply Kd.R_alloc | apply Kd.R_drewN | apply Kd.R_drew)); exact HO_49.out))) (below_size (by repeat (first | (with_reducible first | exact HB.out | apply below_alloc | apply pw_below_drewN | apply below_drew1) | exact HB.out)))); have n2_ := Aside0.mk (below_step (by repeat (first | (with_reducible first | exact HB.out | apply below_alloc | apply pw_below_drewN | apply below_drew1) | exact HB.out)) hb); clear HO_49; clear HB; have HO_49 := n0_; have HO121 := n1_; have HB := n2_; clear n0_ n1_ n2_; (try clear hb); (try clear hb2); (try clear hk); (try clear hi); (try clear ho0); obtain ⟨Ao36, co36, eo36⟩ := Kd.R_slice HO121.out; subst eo36; have p122 : 0 ≤ (0 : Int) := (by omega); have q122 : 0 < (t119.length : Int) := of_decide_eq_true (by first | (with_reducible assumption) | assumption); obtain ⟨ad122, e122, hx122_0⟩ := Kd.at_string (Kd.R_reads' HO121.out).2.2 0 p122 q122; cases e122; have qi122 : (0 < t119.length) = True := eq_true (by omega); (try rw [show ((0 : Int)).toNat = 0 from rfl] at hx122_0); (try rw [Addr.add_zero'] at hx122_0); replace p122 := eq_true p122; replace q122 := eq_true q122; have p123 : 0 ≤ (x51_3 : Int) := of_decide_eq_true (by first | (with_reducible assumption) | assumption); have q123 : x51_3 < (l1.length : Int) := of_decide_eq_true (by first | (with_reducible assumption) | assumption); obtain ⟨ad123, e123, hx123_0⟩ := Kd.at_string HR1.out x51_3 p123 q123; obtain rfl : ad118 = ad123 := (by injection e123); replace hx123_0 := (HB.out.cell (World.block_lt_of_cell? w _ hx123_0)).trans hx123_0; replace p123 := eq_true p123; replace q123 := eq_true q123))
                                          repeat (go_quiet (first | (go_at_call 8; (with_reducible refine (spec_SetMeantIn.calls k3 _ _ l1 (rdOf ByteArray.empty t114 x51_3) t119 _ ?side1 ?side2 A27.out).mono ?_); (case side1 => repeat (first | exact (Kd.C_below HR1.out HB.out) | (with_reducible refine Kd.C_alloc ?_ _) | (with_reducible refine Kd.C_drewN ?_ _) | (with_reducible refine Kd.C_drew ?_))); (case side2 => exact HC1.out); rintro e w35 ⟨v120, rfl, ho0, hb⟩; have n0_ := Aside0.mk (Kd.R_elder' (by (with_reducible repeat (first | apply Kd.R_alloc | apply Kd.R_drewN | apply Kd.R_drew)); exact HO_49.out) (Kd.R_base ho0) hb); have n1_ := Aside0.mk (Kd.R_lower (Kd.R_new' ho0 (Kd.R_lt (by (with_reducible repeat (first | apply Kd.R_alloc | apply Kd.R_drewN | apply Kd.R_drew)); exact HO_49.out))) (below_size (by repeat (first | (with_reducible first | exact HB.out | apply below_alloc | apply pw_below_drewN | apply below_drew1) | exact HB.out)))); have n2_ := Aside0.mk (below_step (by repeat (first | (with_reducible first | exact HB.out | apply below_alloc | apply pw_below_drewN | apply below_drew1) | exact HB.out)) hb); clear HO_49; clear HB; have HO_49 := n0_; have HO121 := n1_; have HB := n2_; clear n0_ n1_ n2_; (try clear hb); (try clear hb2); (try clear hk); (try clear hi); (try clear ho0); obtain ⟨Ao36, co36, eo36⟩ := Kd.R_slice HO121.out; subst eo36; have p122 : 0 ≤ (0 : Int) := (by omega); have q122 : 0 < (t119.length : Int) := of_decide_eq_true (by first | (with_reducible assumption) | assumption); obtain ⟨ad122, e122, hx122_0⟩ := Kd.at_string (Kd.R_reads' HO121.out).2.2 0 p122 q122; cases e122; have qi122 : (0 < t119.length) = True := eq_true (by omega); (try rw [show ((0 : Int)).toNat = 0 from rfl] at hx122_0); (try rw [Addr.add_zero'] at hx122_0); replace p122 := eq_true p122; replace q122 := eq_true q122; have p123 : 0 ≤ (x51_3 : Int) := of_decide_eq_true (by first | (with_reducible assumption) | assumption); have q123 : x51_3 < (l1.length : Int) := of_decide_eq_true (by first | (with_reducible assumption) | assumption); obtain ⟨ad123, e123, hx123_0⟩ := Kd.at_string HR1.out x51_3 p123 q123; obtain rfl : ad118 = ad123 := (by injection e123); replace hx123_0 := (HB.out.cell (World.block_lt_of_cell? w _ hx123_0)).trans hx123_0; replace p123 := eq_true p123; replace q123 := eq_true q123)); try go_wp2_with (first | (go_at_call 8; (with_reducible refine (spec_SetMeantIn.calls k3 _ _ l1 (rdOf ByteArray.empty t114 x51_3) t119 _ ?side1 ?side2 A27.out).mono ?_); (case side1 => repeat (first | exact (Kd.C_below HR1.out HB.out) | (with_reducible refine Kd.C_alloc ?_ _) | (with_reducible refine Kd.C_drewN ?_ _) | (with_reducible refine Kd.C_drew ?_))); (case side2 => exact HC1.out); rintro e w35 ⟨v120, rfl, ho0, hb⟩; have n0_ := Aside0.mk (Kd.R_elder' (by (with_reducible repeat (first | apply Kd.R_alloc | apply Kd.R_drewN | apply Kd.R_drew)); exact HO_49.out) (Kd.R_base ho0) hb); have n1_ := Aside0.mk (Kd.R_lower (Kd.R_new' ho0 (Kd.R_lt (by (with_reducible repeat (first | apply Kd.R_alloc | apply Kd.R_drewN | apply Kd.R_drew)); exact HO_49.out))) (below_size (by repeat (first | (with_reducible first | exact HB.out | apply below_alloc | apply pw_below_drewN | apply below_drew1) | exact HB.out)))); have n2_ := Aside0.mk (below_step (by repeat (first | (with_reducible first | exact HB.out | apply below_alloc | apply pw_below_drewN | apply below_drew1) | exact HB.out)) hb); clear HO_49; clear HB; have HO_49 := n0_; have HO121 := n1_; have HB := n2_; clear n0_ n1_ n2_; (try clear hb); (try clear hb2); (try clear hk); (try clear hi); (try clear ho0); obtain ⟨Ao36, co36, eo36⟩ := Kd.R_slice HO121.out; subst eo36; have p122 : 0 ≤ (0 : Int) := (by omega); have q122 : 0 < (t119.length : Int) := of_decide_eq_true (by first | (with_reducible assumption) | assumption); obtain ⟨ad122, e122, hx122_0⟩ := Kd.at_string (Kd.R_reads' HO121.out).2.2 0 p122 q122; cases e122; have qi122 : (0 < t119.length) = True := eq_true (by omega); (try rw [show ((0 : Int)).toNat = 0 from rfl] at hx122_0); (try rw [Addr.add_zero'] at hx122_0); replace p122 := eq_true p122; replace q122 := eq_true q122; have p123 : 0 ≤ (x51_3 : Int) := of_decide_eq_true (by first | (with_reducible assumption) | assumption); have q123 : x51_3 < (l1.length : Int) := of_decide_eq_true (by first | (with_reducible assumption) | assumption); obtain ⟨ad123, e123, hx123_0⟩ := Kd.at_string HR1.out x51_3 p123 q123; obtain rfl : ad118 = ad123 := (by injection e123); replace hx123_0 := (HB.out.cell (World.block_lt_of_cell? w _ hx123_0)).trans hx123_0; replace p123 := eq_true p123; replace q123 := eq_true q123)))
                                          go_ret
                                          exact ⟨by first | rfl | (simp [errW_none, errW_some] <;> rfl) | (simp [*, errW_none, errW_some] <;> rfl), by repeat (first | (with_reducible first | exact HB.out | apply below_alloc | apply pw_below_drewN | apply below_drew1) | exact HB.out)⟩
                                      · rw [if_neg c31] at H
                                        exact absurd H (by simp)
                                    · rw [if_neg c30] at H
                                      have c30b0 : ((t119.length : Int) == 1) = false := beq_eq_false_iff_ne.mpr c30
                                      have c30b1 : ((t119.length : Int) != 1) = true := bne_iff_ne.mpr c30
                                      obtain rfl := Option.some.inj H
                                      have p117 : 0 ≤ (x51_3 : Int) := of_decide_eq_true (by first | (with_reducible assumption) | assumption)
                                      have q117 : x51_3 < (t114.length : Int) := of_decide_eq_true (by first | (with_reducible assumption) | assumption)
                                      obtain ⟨ad117, e117, hx117_0⟩ := Kd.at_string (Kd.R_reads' HO_49.out).2.2 x51_3 p117 q117
                                      cases e117
                                      replace p117 := eq_true p117
                                      replace q117 := eq_true q117
                                      have p118 : 0 ≤ (x51_3 : Int) := of_decide_eq_true (by first | (with_reducible assumption) | assumption)
                                      have q118 : x51_3 < (l1.length : Int) := of_decide_eq_true (by first | (with_reducible assumption) | assumption)
                                      obtain ⟨ad118, e118, hx118_0⟩ := Kd.at_string HR1.out x51_3 p118 q118
                                      cases e118
                                      replace hx118_0 := (HB.out.cell (World.block_lt_of_cell? w _ hx118_0)).trans hx118_0
                                      replace p118 := eq_true p118
                                      replace q118 := eq_true q118
                                      go_wp2_with (first | (go_at_call 8; (with_reducible refine (spec_SetMeantIn.calls k3 _ _ l1 (rdOf ByteArray.empty t114 x51_3) t119 _ ?side1 ?side2 A27.out).mono ?_); (case side1 => repeat (first | exact (Kd.C_below HR1.out HB.out) | (with_reducible refine Kd.C_alloc ?_ _) | (with_reducible refine Kd.C_drewN ?_ _) | (with_reducible refine Kd.C_drew ?_))); (case side2 => exact HC1.out); rintro e w37 ⟨v120, rfl, ho0, hb⟩; have n0_ := Aside0.mk (Kd.R_elder' (by (with_reducible repeat (first | apply Kd.R_alloc | apply Kd.R_drewN | apply Kd.R_drew)); exact HO_49.out) (Kd.R_base ho0) hb); have n1_ := Aside0.mk (Kd.R_lower (Kd.R_new' ho0 (Kd.R_lt (by (with_reducible repeat (first | apply Kd.R_alloc | apply Kd.R_drewN | apply Kd.R_drew)); exact HO_49.out))) (below_size (by repeat (first | (with_reducible first | exact HB.out | apply below_alloc | apply pw_below_drewN | apply below_drew1) | exact HB.out)))); have n2_ := Aside0.mk (below_step (by repeat (first | (with_reducible first | exact HB.out | apply below_alloc | apply pw_below_drewN | apply below_drew1) | exact HB.out)) hb); clear HO_49; clear HB; have HO_49 := n0_; have HO121 := n1_; have HB := n2_; clear n0_ n1_ n2_; (try clear hb); (try clear hb2); (try clear hk); (try clear hi); (try clear ho0); obtain ⟨Ao38, co38, eo38⟩ := Kd.R_slice HO121.out; subst eo38))
                                      repeat (go_quiet (first | (go_at_call 8; (with_reducible refine (spec_SetMeantIn.calls k3 _ _ l1 (rdOf ByteArray.empty t114 x51_3) t119 _ ?side1 ?side2 A27.out).mono ?_); (case side1 => repeat (first | exact (Kd.C_below HR1.out HB.out) | (with_reducible refine Kd.C_alloc ?_ _) | (with_reducible refine Kd.C_drewN ?_ _) | (with_reducible refine Kd.C_drew ?_))); (case side2 => exact HC1.out); rintro e w37 ⟨v120, rfl, ho0, hb⟩; have n0_ := Aside0.mk (Kd.R_elder' (by (with_reducible repeat (first | apply Kd.R_alloc | apply Kd.R_drewN | apply Kd.R_drew)); exact HO_49.out) (Kd.R_base ho0) hb); have n1_ := Aside0.mk (Kd.R_lower (Kd.R_new' ho0 (Kd.R_lt (by (with_reducible repeat (first | apply Kd.R_alloc | apply Kd.R_drewN | apply Kd.R_drew)); exact HO_49.out))) (below_size (by repeat (first | (with_reducible first | exact HB.out | apply below_alloc | apply pw_below_drewN | apply below_drew1) | exact HB.out)))); have n2_ := Aside0.mk (below_step (by repeat (first | (with_reducible first | exact HB.out | apply below_alloc | apply pw_below_drewN | apply below_drew1) | exact HB.out)) hb); clear HO_49; clear HB; have HO_49 := n0_; have HO121 := n1_; have HB := n2_; clear n0_ n1_ n2_; (try clear hb); (try clear hb2); (try clear hk); (try clear hi); (try clear ho0); obtain ⟨Ao38, co38, eo38⟩ := Kd.R_slice HO121.out; subst eo38)); try go_wp2_with (first | (go_at_call 8; (with_reducible refine (spec_SetMeantIn.calls k3 _ _ l1 (rdOf ByteArray.empty t114 x51_3) t119 _ ?side1 ?side2 A27.out).mono ?_); (case side1 => repeat (first | exact (Kd.C_below HR1.out HB.out) | (with_reducible refine Kd.C_alloc ?_ _) | (with_reducible refine Kd.C_drewN ?_ _) | (with_reducible refine Kd.C_drew ?_))); (case side2 => exact HC1.out); rintro e w37 ⟨v120, rfl, ho0, hb⟩; have n0_ := Aside0.mk (Kd.R_elder' (by (with_reducible repeat (first | apply Kd.R_alloc | apply Kd.R_drewN | apply Kd.R_drew)); exact HO_49.out) (Kd.R_base ho0) hb); have n1_ := Aside0.mk (Kd.R_lower (Kd.R_new' ho0 (Kd.R_lt (by (with_reducible repeat (first | apply Kd.R_alloc | apply Kd.R_drewN | apply Kd.R_drew)); exact HO_49.out))) (below_size (by repeat (first | (with_reducible first | exact HB.out | apply below_alloc | apply pw_below_drewN | apply below_drew1) | exact HB.out)))); have n2_ := Aside0.mk (below_step (by repeat (first | (with_reducible first | exact HB.out | apply below_alloc | apply pw_below_drewN | apply below_drew1) | exact HB.out)) hb); clear HO_49; clear HB; have HO_49 := n0_; have HO121 := n1_; have HB := n2_; clear n0_ n1_ n2_; (try clear hb); (try clear hb2); (try clear hk); (try clear hi); (try clear ho0); obtain ⟨Ao38, co38, eo38⟩ := Kd.R_slice HO121.out; subst eo38)))
                                      go_ret
                                      exact ⟨by first | rfl | (simp [errW_none, errW_some] <;> rfl) | (simp [*, errW_none, errW_some] <;> rfl), by repeat (first | (with_reducible first | exact HB.out | apply below_alloc | apply pw_below_drewN | apply below_drew1) | exact HB.out)⟩
                              · rw [if_neg c25] at H
                                exact absurd H (by simp)
                            · rw [if_neg c24] at H
                              exact absurd H (by simp)
                          · rw [if_neg c23] at H
                            exact absurd H (by simp)
                        · rw [if_neg c22] at H
                          exact absurd H (by simp)
                      · rw [if_neg c21] at H
                        exact absurd H (by simp)
                    · rw [if_neg c20] at H
                      have c20b0 : decide (x51_3 < (t114.length : Int)) = false := decide_eq_false c20
                      clear c20
                      obtain rfl := Option.some.inj H
                      go_wp2
                      repeat (go_quiet (fail); try go_wp2)
                      go_ret
                      exact ⟨by first | rfl | (simp [errW_none, errW_some] <;> rfl) | (simp [*, errW_none, errW_some] <;> rfl), by repeat (first | (with_reducible first | exact HB.out | apply below_alloc | apply pw_below_drewN | apply below_drew1) | exact HB.out)⟩
              · rw [if_neg c17] at H
                have c17b0 : ((t114.length : Int) == (l1.length : Int)) = false := beq_eq_false_iff_ne.mpr c17
                have c17b1 : ((t114.length : Int) != (l1.length : Int)) = true := bne_iff_ne.mpr c17
                have c17b2 : (t114.length == l1.length) = false := by first | simpa using c17 | (simp at c17 ⊢; omega)
                obtain rfl := Option.some.inj H
                go_wp2_with (first | (go_at_call 7; (with_reducible refine (impl_SetCodes.calls a0 _ _ l1 a2 t114 _ ?side1 ?side2 A16.out).mono ?_); (case side1 => repeat (first | exact (Kd.C_below HR1.out HB.out) | (with_reducible refine Kd.C_alloc ?_ _) | (with_reducible refine Kd.C_drewN ?_ _) | (with_reducible refine Kd.C_drew ?_))); (case side2 => exact HC1.out); rintro e w39 ⟨v115, rfl, ho0, hb⟩; have n0_ := Aside0.mk (Kd.R_lower ho0 (below_size (by repeat (first | (with_reducible first | exact HB.out | apply below_alloc | apply pw_below_drewN | apply below_drew1) | exact HB.out)))); have n1_ := Aside0.mk (below_step (by repeat (first | (with_reducible first | exact HB.out | apply below_alloc | apply pw_below_drewN | apply below_drew1) | exact HB.out)) hb); clear HB; have HO116 := n0_; have HB := n1_; clear n0_ n1_; (try clear hb); (try clear hb2); (try clear hk); (try clear hi); (try clear ho0); obtain ⟨Ao40, co40, eo40⟩ := Kd.R_slice HO116.out; subst eo40))
                repeat (go_quiet (first | (go_at_call 7; (with_reducible refine (impl_SetCodes.calls a0 _ _ l1 a2 t114 _ ?side1 ?side2 A16.out).mono ?_); (case side1 => repeat (first | exact (Kd.C_below HR1.out HB.out) | (with_reducible refine Kd.C_alloc ?_ _) | (with_reducible refine Kd.C_drewN ?_ _) | (with_reducible refine Kd.C_drew ?_))); (case side2 => exact HC1.out); rintro e w39 ⟨v115, rfl, ho0, hb⟩; have n0_ := Aside0.mk (Kd.R_lower ho0 (below_size (by repeat (first | (with_reducible first | exact HB.out | apply below_alloc | apply pw_below_drewN | apply below_drew1) | exact HB.out)))); have n1_ := Aside0.mk (below_step (by repeat (first | (with_reducible first | exact HB.out | apply below_alloc | apply pw_below_drewN | apply below_drew1) | exact HB.out)) hb); clear HB; have HO116 := n0_; have HB := n1_; clear n0_ n1_; (try clear hb); (try clear hb2); (try clear hk); (try clear hi); (try clear ho0); obtain ⟨Ao40, co40, eo40⟩ := Kd.R_slice HO116.out; subst eo40)); try go_wp2_with (first | (go_at_call 7; (with_reducible refine (impl_SetCodes.calls a0 _ _ l1 a2 t114 _ ?side1 ?side2 A16.out).mono ?_); (case side1 => repeat (first | exact (Kd.C_below HR1.out HB.out) | (with_reducible refine Kd.C_alloc ?_ _) | (with_reducible refine Kd.C_drewN ?_ _) | (with_reducible refine Kd.C_drew ?_))); (case side2 => exact HC1.out); rintro e w39 ⟨v115, rfl, ho0, hb⟩; have n0_ := Aside0.mk (Kd.R_lower ho0 (below_size (by repeat (first | (with_reducible first | exact HB.out | apply below_alloc | apply pw_below_drewN | apply below_drew1) | exact HB.out)))); have n1_ := Aside0.mk (below_step (by repeat (first | (with_reducible first | exact HB.out | apply below_alloc | apply pw_below_drewN | apply below_drew1) | exact HB.out)) hb); clear HB; have HO116 := n0_; have HB := n1_; clear n0_ n1_; (try clear hb); (try clear hb2); (try clear hk); (try clear hi); (try clear ho0); obtain ⟨Ao40, co40, eo40⟩ := Kd.R_slice HO116.out; subst eo40)))
                go_ret
                exact ⟨by first | rfl | (simp [errW_none, errW_some] <;> rfl) | (simp [*, errW_none, errW_some] <;> rfl), by repeat (first | (with_reducible first | exact HB.out | apply below_alloc | apply pw_below_drewN | apply below_drew1) | exact HB.out)⟩

end Go.Proofs.Yteonaghjhjnijaa.QW
