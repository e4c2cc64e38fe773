-- written by a program of mine (wip/tools/myprint.py) for this claim. Not trusted: Lean checks it.
import Derived.Test.YtlooelfkkbgmhaaDoorQSx0
import Derived.Test.YtlooelfkkbgmhaaDoorQSx3
namespace Go.Proofs.YtlooelfkkbgmhaaDoor.QS
open Go.RowKit Go.Proofs.YtlooelfkkbgmhaaDoorW.PrintWords Go.Proofs.YtlooelfkkbgmhaaDoorW.PrintLast Go.Proofs.YtlooelfkkbgmhaaDoorW.PrintMore
attribute [local go_sem] max2_int min2_int max_two min_two max_three min_three max_four min_four   -- for this text's walks alone
set_option linter.unusedVariables false
set_option linter.unusedSimpArgs false

/-! ### spec_order: function 74 -/
def spec_order.f (a0 : Int) (a1 : Int) : Option (Int) := if a0 < a1 then (some (-1)) else (if a0 > a1 then (some 1) else (some 0))
set_option maxHeartbeats 8000000 in
set_option maxRecDepth 100000 in
theorem spec_order.calls (a0 : Int) (a1 : Int) (r : Int) (w : World) (h : spec_order.f a0 a1 = some r) :
    Calls Tryd.prog 74 #[.int .u64 a0, .int .u64 a1] w fun e w' => e = .returned (.int .i64 r) ∧ Drawn0 w w' := by
  have H : (if a0 < a1 then (some (-1)) else (if a0 > a1 then (some 1) else (some 0))) = some r := h
  clear h
  by_cases c3 : a0 < a1
  · rw [if_pos c3] at H
    have c3b0 : decide (a0 < a1) = true := decide_eq_true c3
    clear c3
    obtain rfl := Option.some.inj H
    go_enter Tryd.func74, Tryd.ntmps74
    go_wp2
    go_ret
    exact ⟨by first | rfl | (simp; done) | (simp [*]; done) | (simp [nil_bne]; done), by repeat (first | exact Drawn0.refl _ | apply Drawn0.step)⟩
  · rw [if_neg c3] at H
    have c3b0 : decide (a0 < a1) = false := decide_eq_false c3
    clear c3
    by_cases c4 : a0 > a1
    · rw [if_pos c4] at H
      have c4b0 : decide (a1 < a0) = true := decide_eq_true c4
      clear c4
      obtain rfl := Option.some.inj H
      go_enter Tryd.func74, Tryd.ntmps74
      go_wp2
      go_ret
      exact ⟨by first | rfl | (simp; done) | (simp [*]; done) | (simp [nil_bne]; done), by repeat (first | exact Drawn0.refl _ | apply Drawn0.step)⟩
    · rw [if_neg c4] at H
      have c4b0 : decide (a1 < a0) = false := decide_eq_false c4
      clear c4
      obtain rfl := Option.some.inj H
      go_enter Tryd.func74, Tryd.ntmps74
      go_wp2
      go_ret
      exact ⟨by first | rfl | (simp; done) | (simp [*]; done) | (simp [nil_bne]; done), by repeat (first | exact Drawn0.refl _ | apply Drawn0.step)⟩

/-! ### spec_ComparePart: function 24 -/
def spec_ComparePart.j0 : Nat → ByteArray → ByteArray → Bool → Option (Int)
  | 0, _, _, _ => none
  | k + 1, x0, x1, x9 => if x9 = true then ((spec_order.f (IntKind.u64.wrap ((x0.size : Int))) (IntKind.u64.wrap ((x1.size : Int)))).bind fun t131 => (some t131)) else ((spec_Digits.f k x0).bind fun t132 => ((spec_Digits.f k x1).bind fun t133 => (if (t132 != t133) = true then ((spec_Digits.f k x0).bind fun t134 => (if t134 = true then (some (-1)) else (some 1))) else (if (Op.bytesLess x0.toList x1.toList) = true then (some (-1)) else (some 1)))))
def spec_ComparePart.f (k : Nat) (a0 : ByteArray) (a1 : ByteArray) : Option (Int) := if a0.toList = a1.toList then (some 0) else ((spec_Digits.f k a0).bind fun t129 => (if t129 = true then ((spec_Digits.f k a1).bind fun t130 => (if t130 = true then (spec_ComparePart.j0 k a0 a1 ((a0.size : Int) != (a1.size : Int))) else (spec_ComparePart.j0 k a0 a1 false))) else (spec_ComparePart.j0 k a0 a1 false)))
theorem spec_ComparePart.mono_l : ∀ k, (∀ y0 y1 y2, LeO (spec_ComparePart.j0 k y0 y1 y2) (spec_ComparePart.j0 (k + 1) y0 y1 y2))
  | 0 => fun _ _ _ r h => by simp [spec_ComparePart.j0] at h
  | k + 1 => by
    have ih0 := spec_ComparePart.mono_l k
    · intro y0 y1 y2
      unfold spec_ComparePart.j0
      repeat' first
      | (with_reducible exact ih0 _ _ _)
      | (with_reducible exact spec_Digits.mono _ _)
      | (with_reducible exact LeO.refl _)
      | (with_reducible exact LeO.none _)
      | (with_reducible refine LeO.ite ?_ ?_)
      | (with_reducible refine LeO.bind ?_ (fun _ => ?_))
      | exact ih0 _ _ _
      | exact spec_Digits.mono _ _
      | exact LeO.none _
      | refine LeO.ite ?_ ?_
      | refine LeO.bind ?_ (fun _ => ?_)
theorem spec_ComparePart.mono : ∀ a0 a1 k, LeO (spec_ComparePart.f k a0 a1) (spec_ComparePart.f (k + 1) a0 a1) := by
  intro a0 a1 k
  have ih0 := spec_ComparePart.mono_l k
  unfold spec_ComparePart.f
  repeat' first
      | (with_reducible exact ih0 _ _ _)
      | (with_reducible exact spec_Digits.mono _ _)
      | (with_reducible exact LeO.refl _)
      | (with_reducible exact LeO.none _)
      | (with_reducible refine LeO.ite ?_ ?_)
      | (with_reducible refine LeO.bind ?_ (fun _ => ?_))
      | exact ih0 _ _ _
      | exact spec_Digits.mono _ _
      | exact LeO.none _
      | refine LeO.ite ?_ ?_
      | refine LeO.bind ?_ (fun _ => ?_)
set_option maxHeartbeats 8000000 in
set_option maxRecDepth 100000 in
theorem spec_ComparePart.calls (k : Nat) (a0 : ByteArray) (a1 : ByteArray) (r : Int) (w : World) (h : spec_ComparePart.f k a0 a1 = some r) :
    Calls Tryd.prog 24 #[.string a0, .string a1] w fun e w' => e = .returned (.int .i64 r) ∧ Drawn0 w w' := by
  have H : (if a0.toList = a1.toList then (some 0) else ((spec_Digits.f k a0).bind fun t129 => (if t129 = true then ((spec_Digits.f k a1).bind fun t130 => (if t130 = true then (spec_ComparePart.j0 k a0 a1 ((a0.size : Int) != (a1.size : Int))) else (spec_ComparePart.j0 k a0 a1 false))) else (spec_ComparePart.j0 k a0 a1 false)))) = some r := h
  clear h
  by_cases c3 : a0.toList = a1.toList
  · rw [if_pos c3] at H
    have c3b0 : (a0.toList == a1.toList) = true := beq_iff_eq.mpr c3
    have c3b1 : (a0.toList != a1.toList) = false := bne_eq_false_iff_eq.mpr c3
    clear c3
    obtain rfl := Option.some.inj H
    go_enter Tryd.func24, Tryd.ntmps24
    go_wp2
    go_ret
    exact ⟨by first | rfl | (simp; done) | (simp [*]; done) | (simp [nil_bne]; done), by repeat (first | exact Drawn0.refl _ | apply Drawn0.step)⟩
  · rw [if_neg c3] at H
    have c3b0 : (a0.toList == a1.toList) = false := beq_eq_false_iff_ne.mpr c3
    have c3b1 : (a0.toList != a1.toList) = true := bne_iff_ne.mpr c3
    have HC4 := Aside0.mk H
    clear H
    go_enter Tryd.func24, Tryd.ntmps24
    go_upto_region 3 with (fail)
    go_cut [9] (fun v9 wc => ∃ (kq : Nat) (x9_3 : Bool), v9 = .bool x9_3 ∧ Aside0 (spec_ComparePart.j0 kq a0 a1 x9_3 = some r) ∧ Aside0 (kq ≤ k) ∧ Drawn0 w wc)
    case first =>
      have H := HC4.out
      clear HC4
      replace H := Option.bind_eq_some_iff.mp H
      obtain ⟨t129, A50, H⟩ := H
      replace H : (if t129 = true then ((spec_Digits.f k a1).bind fun t130 => (if t130 = true then (spec_ComparePart.j0 k a0 a1 ((a0.size : Int) != (a1.size : Int))) else (spec_ComparePart.j0 k a0 a1 false))) else (spec_ComparePart.j0 k a0 a1 false)) = some r := H
      have A5 := Aside0.mk A50
      clear A50
      by_cases c6 : t129 = true
      · subst c6
        have H1 : ((spec_Digits.f k a1).bind fun t130 => (if t130 = true then (spec_ComparePart.j0 k a0 a1 ((a0.size : Int) != (a1.size : Int))) else (spec_ComparePart.j0 k a0 a1 false))) = some r := by rw [if_pos rfl] at H; exact H
        clear H
        have H := H1
        clear H1
        replace H := Option.bind_eq_some_iff.mp H
        obtain ⟨t130, A70, H⟩ := H
        replace H : (if t130 = true then (spec_ComparePart.j0 k a0 a1 ((a0.size : Int) != (a1.size : Int))) else (spec_ComparePart.j0 k a0 a1 false)) = some r := H
        have A7 := Aside0.mk A70
        clear A70
        by_cases c8 : t130 = true
        · subst c8
          have H1 : (spec_ComparePart.j0 k a0 a1 ((a0.size : Int) != (a1.size : Int))) = some r := by rw [if_pos rfl] at H; exact H
          clear H
          have H := H1
          clear H1
          have H' := Aside0.mk H
          clear H
          go_wp2_with (first | ((with_reducible refine gate_callee (f := 73) rfl ?_); refine goesL_ (some 11) rfl rfl Tryd.func73 (by kernel_rfl) rfl #[.string a0] rfl (by (try simp only [List.map_toArray, List.map_cons, List.map_nil]); first | done | rfl | (simp only [List.length_drop, List.length_take]; rfl)) ?_; (with_reducible refine (spec_Digits.calls k a0 true _ A5.out).mono ?_); rintro e w' ⟨rfl, ⟨nd, rfl⟩⟩; refine ⟨_, rfl, ?_⟩) | (go_at_call 73; (with_reducible refine (spec_Digits.calls k a1 true _ A7.out).mono ?_); rintro e w' ⟨rfl, ⟨nd, rfl⟩⟩))
          go_meet
          case rel => exact ⟨_, (((a0.size : Int) != (a1.size : Int))), (by first | rfl | (simp; done) | (simp [*]; done) | (simp [nil_bne]; done)), H', ⟨by first | omega | exact Nat.le_refl _⟩, by repeat (first | exact Drawn0.refl _ | apply Drawn0.step)⟩
        · replace c8 := Bool.eq_false_iff.mpr c8
          subst c8
          have H1 : (spec_ComparePart.j0 k a0 a1 false) = some r := by rw [if_neg (show ¬ (false = true) by decide)] at H; exact H
          clear H
          have H := H1
          clear H1
          have H' := Aside0.mk H
          clear H
          go_wp2_with (first | ((with_reducible refine gate_callee (f := 73) rfl ?_); refine goesL_ (some 11) rfl rfl Tryd.func73 (by kernel_rfl) rfl #[.string a0] rfl (by (try simp only [List.map_toArray, List.map_cons, List.map_nil]); first | done | rfl | (simp only [List.length_drop, List.length_take]; rfl)) ?_; (with_reducible refine (spec_Digits.calls k a0 true _ A5.out).mono ?_); rintro e w' ⟨rfl, ⟨nd, rfl⟩⟩; refine ⟨_, rfl, ?_⟩) | (go_at_call 73; (with_reducible refine (spec_Digits.calls k a1 false _ A7.out).mono ?_); rintro e w' ⟨rfl, ⟨nd, rfl⟩⟩))
          go_meet
          case rel => exact ⟨_, (false), (by first | rfl | (simp; done) | (simp [*]; done) | (simp [nil_bne]; done)), H', ⟨by first | omega | exact Nat.le_refl _⟩, by repeat (first | exact Drawn0.refl _ | apply Drawn0.step)⟩
      · replace c6 := Bool.eq_false_iff.mpr c6
        subst c6
        have H1 : (spec_ComparePart.j0 k a0 a1 false) = some r := by rw [if_neg (show ¬ (false = true) by decide)] at H; exact H
        clear H
        have H := H1
        clear H1
        have H' := Aside0.mk H
        clear H
        go_wp2_with (first | ((with_reducible refine gate_callee (f := 73) rfl ?_); refine goesL_ (some 11) rfl rfl Tryd.func73 (by kernel_rfl) rfl #[.string a0] rfl (by (try simp only [List.map_toArray, List.map_cons, List.map_nil]); first | done | rfl | (simp only [List.length_drop, List.length_take]; rfl)) ?_; (with_reducible refine (spec_Digits.calls k a0 false _ A5.out).mono ?_); rintro e w' ⟨rfl, ⟨nd, rfl⟩⟩; refine ⟨_, rfl, ?_⟩))
        go_meet
        case rel => exact ⟨_, (false), (by first | rfl | (simp; done) | (simp [*]; done) | (simp [nil_bne]; done)), H', ⟨by first | omega | exact Nat.le_refl _⟩, by repeat (first | exact Drawn0.refl _ | apply Drawn0.step)⟩
    case rest =>
      clear HC4
      try clear c2
      try clear p2
      try clear c3
      try clear c3b0
      try clear c3b1
      try clear c6
      try clear c7
      try clear c8
      obtain ⟨kq, x9_3, rfl, HA, HJ3, ⟨mc3, rfl⟩⟩ := hcut
      cases kq with
      | zero => exact absurd HA.out (by simp [spec_ComparePart.j0])
      | succ kj3 =>
        have H := HA.out
        clear HA
        simp only [spec_ComparePart.j0] at H
        by_cases c9 : x9_3 = true
        · subst c9
          have H1 : ((spec_order.f (IntKind.u64.wrap ((a0.size : Int))) (IntKind.u64.wrap ((a1.size : Int)))).bind fun t131 => (some t131)) = some r := by rw [if_pos rfl] at H; exact H
          clear H
          have H := H1
          clear H1
          replace H := Option.bind_eq_some_iff.mp H
          obtain ⟨t131, A100, H⟩ := H
          replace H : (some t131) = some r := H
          have A10 := Aside0.mk A100
          clear A100
          obtain rfl := Option.some.inj H
          go_wp2_with (first | ((with_reducible refine gate_callee (f := 74) rfl ?_); refine goesL_ (some 29) rfl rfl Tryd.func74 (by kernel_rfl) rfl #[.int .u64 (IntKind.u64.wrap ((a0.size : Int))), .int .u64 (IntKind.u64.wrap ((a1.size : Int)))] rfl (by (try simp only [List.map_toArray, List.map_cons, List.map_nil]); first | done | rfl | (simp only [List.length_drop, List.length_take]; rfl)) ?_; (with_reducible refine (spec_order.calls (IntKind.u64.wrap ((a0.size : Int))) (IntKind.u64.wrap ((a1.size : Int))) t131 _ A10.out).mono ?_); rintro e w' ⟨rfl, ⟨nd, rfl⟩⟩; refine ⟨_, rfl, ?_⟩))
          go_ret
          exact ⟨by first | rfl | (simp; done) | (simp [*]; done) | (simp [nil_bne]; done), by repeat (first | exact Drawn0.refl _ | apply Drawn0.step)⟩
        · replace c9 := Bool.eq_false_iff.mpr c9
          subst c9
          have H1 : ((spec_Digits.f kj3 a0).bind fun t132 => ((spec_Digits.f kj3 a1).bind fun t133 => (if (t132 != t133) = true then ((spec_Digits.f kj3 a0).bind fun t134 => (if t134 = true then (some (-1)) else (some 1))) else (if (Op.bytesLess a0.toList a1.toList) = true then (some (-1)) else (some 1))))) = some r := by rw [if_neg (show ¬ (false = true) by decide)] at H; exact H
          clear H
          have H := H1
          clear H1
          replace H := Option.bind_eq_some_iff.mp H
          obtain ⟨t132, A110, H⟩ := H
          replace H : ((spec_Digits.f kj3 a1).bind fun t133 => (if (t132 != t133) = true then ((spec_Digits.f kj3 a0).bind fun t134 => (if t134 = true then (some (-1)) else (some 1))) else (if (Op.bytesLess a0.toList a1.toList) = true then (some (-1)) else (some 1)))) = some r := H
          have A11 := Aside0.mk A110
          clear A110
          replace H := Option.bind_eq_some_iff.mp H
          obtain ⟨t133, A120, H⟩ := H
          replace H : (if (t132 != t133) = true then ((spec_Digits.f kj3 a0).bind fun t134 => (if t134 = true then (some (-1)) else (some 1))) else (if (Op.bytesLess a0.toList a1.toList) = true then (some (-1)) else (some 1))) = some r := H
          have A12 := Aside0.mk A120
          clear A120
          by_cases c13 : (t132 != t133) = true
          · rw [if_pos c13] at H
            have c13b0 : (t132 != t133) = true := c13
            (try (have c13b1 : decide (t132 = t133) = false := by simpa using c13))
            (try (have c13b2 : (t132 == t133) = false := by simpa using c13))
            (try (have c13b3 : ¬ (t132 = t133) := by simpa using c13))
            clear c13
            replace H := Option.bind_eq_some_iff.mp H
            obtain ⟨t134, A140, H⟩ := H
            replace H : (if t134 = true then (some (-1)) else (some 1)) = some r := H
            have A14 := Aside0.mk A140
            clear A140
            by_cases c15 : t134 = true
            · subst c15
              have H1 : (some (-1)) = some r := by rw [if_pos rfl] at H; exact H
              clear H
              have H := H1
              clear H1
              obtain rfl := Option.some.inj H
              go_wp2_with (first | ((with_reducible refine gate_callee (f := 73) rfl ?_); refine goesL_ (some 32) rfl rfl Tryd.func73 (by kernel_rfl) rfl #[.string a0] rfl (by (try simp only [List.map_toArray, List.map_cons, List.map_nil]); first | done | rfl | (simp only [List.length_drop, List.length_take]; rfl)) ?_; (with_reducible refine (spec_Digits.calls kj3 a0 t132 _ A11.out).mono ?_); rintro e w' ⟨rfl, ⟨nd, rfl⟩⟩; refine ⟨_, rfl, ?_⟩) | ((with_reducible refine gate_callee (f := 73) rfl ?_); refine goesL_ (some 34) rfl rfl Tryd.func73 (by kernel_rfl) rfl #[.string a1] rfl (by (try simp only [List.map_toArray, List.map_cons, List.map_nil]); first | done | rfl | (simp only [List.length_drop, List.length_take]; rfl)) ?_; (with_reducible refine (spec_Digits.calls kj3 a1 t133 _ A12.out).mono ?_); rintro e w' ⟨rfl, ⟨nd, rfl⟩⟩; refine ⟨_, rfl, ?_⟩) | ((with_reducible refine gate_callee (f := 73) rfl ?_); refine goesL_ (some 37) rfl rfl Tryd.func73 (by kernel_rfl) rfl #[.string a0] rfl (by (try simp only [List.map_toArray, List.map_cons, List.map_nil]); first | done | rfl | (simp only [List.length_drop, List.length_take]; rfl)) ?_; (with_reducible refine (spec_Digits.calls kj3 a0 true _ A14.out).mono ?_); rintro e w' ⟨rfl, ⟨nd, rfl⟩⟩; refine ⟨_, rfl, ?_⟩))
              go_ret
              exact ⟨by first | rfl | (simp; done) | (simp [*]; done) | (simp [nil_bne]; done), by repeat (first | exact Drawn0.refl _ | apply Drawn0.step)⟩
            · replace c15 := Bool.eq_false_iff.mpr c15
              subst c15
              have H1 : (some 1) = some r := by rw [if_neg (show ¬ (false = true) by decide)] at H; exact H
              clear H
              have H := H1
              clear H1
              obtain rfl := Option.some.inj H
              go_wp2_with (first | ((with_reducible refine gate_callee (f := 73) rfl ?_); refine goesL_ (some 32) rfl rfl Tryd.func73 (by kernel_rfl) rfl #[.string a0] rfl (by (try simp only [List.map_toArray, List.map_cons, List.map_nil]); first | done | rfl | (simp only [List.length_drop, List.length_take]; rfl)) ?_; (with_reducible refine (spec_Digits.calls kj3 a0 t132 _ A11.out).mono ?_); rintro e w' ⟨rfl, ⟨nd, rfl⟩⟩; refine ⟨_, rfl, ?_⟩) | ((with_reducible refine gate_callee (f := 73) rfl ?_); refine goesL_ (some 34) rfl rfl Tryd.func73 (by kernel_rfl) rfl #[.string a1] rfl (by (try simp only [List.map_toArray, List.map_cons, List.map_nil]); first | done | rfl | (simp only [List.length_drop, List.length_take]; rfl)) ?_; (with_reducible refine (spec_Digits.calls kj3 a1 t133 _ A12.out).mono ?_); rintro e w' ⟨rfl, ⟨nd, rfl⟩⟩; refine ⟨_, rfl, ?_⟩) | ((with_reducible refine gate_callee (f := 73) rfl ?_); refine goesL_ (some 37) rfl rfl Tryd.func73 (by kernel_rfl) rfl #[.string a0] rfl (by (try simp only [List.map_toArray, List.map_cons, List.map_nil]); first | done | rfl | (simp only [List.length_drop, List.length_take]; rfl)) ?_; (with_reducible refine (spec_Digits.calls kj3 a0 false _ A14.out).mono ?_); rintro e w' ⟨rfl, ⟨nd, rfl⟩⟩; refine ⟨_, rfl, ?_⟩))
              go_ret
              exact ⟨by first | rfl | (simp; done) | (simp [*]; done) | (simp [nil_bne]; done), by repeat (first | exact Drawn0.refl _ | apply Drawn0.step)⟩
          · rw [if_neg c13] at H
            have c13b0 : (t132 != t133) = false := by simpa using c13
            (try (have c13b1 : decide (t132 = t133) = true := by simpa using c13))
            (try (have c13b2 : (t132 == t133) = true := by simpa using c13))
            clear c13
            by_cases c16 : (Op.bytesLess a0.toList a1.toList) = true
            · rw [if_pos c16] at H
              have c16b0 : (Op.bytesLess a0.toList a1.toList) = true := c16
              clear c16
              obtain rfl := Option.some.inj H
              go_wp2_with (first | ((with_reducible refine gate_callee (f := 73) rfl ?_); refine goesL_ (some 32) rfl rfl Tryd.func73 (by kernel_rfl) rfl #[.string a0] rfl (by (try simp only [List.map_toArray, List.map_cons, List.map_nil]); first | done | rfl | (simp only [List.length_drop, List.length_take]; rfl)) ?_; (with_reducible refine (spec_Digits.calls kj3 a0 t132 _ A11.out).mono ?_); rintro e w' ⟨rfl, ⟨nd, rfl⟩⟩; refine ⟨_, rfl, ?_⟩) | ((with_reducible refine gate_callee (f := 73) rfl ?_); refine goesL_ (some 34) rfl rfl Tryd.func73 (by kernel_rfl) rfl #[.string a1] rfl (by (try simp only [List.map_toArray, List.map_cons, List.map_nil]); first | done | rfl | (simp only [List.length_drop, List.length_take]; rfl)) ?_; (with_reducible refine (spec_Digits.calls kj3 a1 t133 _ A12.out).mono ?_); rintro e w' ⟨rfl, ⟨nd, rfl⟩⟩; refine ⟨_, rfl, ?_⟩))
              go_ret
              exact ⟨by first | rfl | (simp; done) | (simp [*]; done) | (simp [nil_bne]; done), by repeat (first | exact Drawn0.refl _ | apply Drawn0.step)⟩
            · rw [if_neg c16] at H
              have c16b0 : (Op.bytesLess a0.toList a1.toList) = false := by simpa using c16
              clear c16
              obtain rfl := Option.some.inj H
              go_wp2_with (first | ((with_reducible refine gate_callee (f := 73) rfl ?_); refine goesL_ (some 32) rfl rfl Tryd.func73 (by kernel_rfl) rfl #[.string a0] rfl (by (try simp only [List.map_toArray, List.map_cons, List.map_nil]); first | done | rfl | (simp only [List.length_drop, List.length_take]; rfl)) ?_; (with_reducible refine (spec_Digits.calls kj3 a0 t132 _ A11.out).mono ?_); rintro e w' ⟨rfl, ⟨nd, rfl⟩⟩; refine ⟨_, rfl, ?_⟩) | ((with_reducible refine gate_callee (f := 73) rfl ?_); refine goesL_ (some 34) rfl rfl Tryd.func73 (by kernel_rfl) rfl #[.string a1] rfl (by (try simp only [List.map_toArray, List.map_cons, List.map_nil]); first | done | rfl | (simp only [List.length_drop, List.length_take]; rfl)) ?_; (with_reducible refine (spec_Digits.calls kj3 a1 t133 _ A12.out).mono ?_); rintro e w' ⟨rfl, ⟨nd, rfl⟩⟩; refine ⟨_, rfl, ?_⟩))
              go_ret
              exact ⟨by first | rfl | (simp; done) | (simp [*]; done) | (simp [nil_bne]; done), by repeat (first | exact Drawn0.refl _ | apply Drawn0.step)⟩

end Go.Proofs.YtlooelfkkbgmhaaDoor.QS
