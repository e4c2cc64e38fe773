-- written by a program of mine (wip/tools/myprint.py) for this claim. Not trusted: Lean checks it.
import Derived.Test.YtgbmhkmhpmkadaaQWx0
import Derived.Test.YtgbmhkmhpmkadaaQWx1
import Derived.Test.YtgbmhkmhpmkadaaQWx2
import Derived.Test.YtgbmhkmhpmkadaaQWx3
namespace Go.Proofs.Ytgbmhkmhpmkadaa.QW
open Go.RowKit Go.Proofs.YtgbmhkmhpmkadaaW.PrintWords Go.Proofs.YtgbmhkmhpmkadaaW.PrintLast Go.Proofs.YtgbmhkmhpmkadaaW.PrintMore
attribute [local go_sem] max2_int min2_int max_two min_two max_three min_three max_four min_four   -- for this text's walks alone
set_option linter.unusedVariables false
set_option linter.unusedSimpArgs false

/-! ### laws_FnRefFamiliarSplit: function 3 -/
mutual
def laws_FnRefFamiliarSplit.j0 : Nat → ByteArray → ByteArray → Bool → Option (Bool)
  | 0, _, _, _ => none
  | k + 1, x0, x1, x16 => if x16 = true then (some true) else (if (wrap64 ((x0.size : Int) + (x1.size : Int))) > 65536 then (laws_FnRefFamiliarSplit.j1 k x0 x1 true) else ((laws_refPlain.f k x0).bind fun t134 => (if t134 = true then ((laws_refPlain.f k x1).bind fun t135 => (if t135 = true then ((laws_refTakes.f k x0).bind fun t136 => (if t136 = true then (if x0.toList = ([105, 110, 100, 101, 120, 46, 100, 111, 99, 107, 101, 114, 46, 105, 111] : List UInt8) then (laws_FnRefFamiliarSplit.j1 k x0 x1 true) else (if x0.toList = ([100, 111, 99, 107, 101, 114, 46, 105, 111] : List UInt8) then ((laws_refHubPath.f k x1).bind fun t137 => (laws_FnRefFamiliarSplit.j1 k x0 x1 (!t137))) else (laws_FnRefFamiliarSplit.j1 k x0 x1 false))) else (laws_FnRefFamiliarSplit.j1 k x0 x1 true))) else (laws_FnRefFamiliarSplit.j1 k x0 x1 true))) else (laws_FnRefFamiliarSplit.j1 k x0 x1 true))))
def laws_FnRefFamiliarSplit.j1 : Nat → ByteArray → ByteArray → Bool → Option (Bool)
  | 0, _, _, _ => none
  | k + 1, x0, x1, x50 => if x50 = true then (some true) else ((impl_RefFamiliarize.f x0 x1).bind fun bt138 => (if bt138.1.toList = ([] : List UInt8) then ((impl_RefSplitDocker.f k bt138.2).bind fun bt140 => (if bt140.1.toList = x0.toList then (some (bt140.2.toList == x1.toList)) else (some false))) else (if bt138.1.size + 1 ≤ 9223372036854775807 then (if (bt138.1 ++ (⟨#[47]⟩ : ByteArray)).size + bt138.2.size ≤ 9223372036854775807 then ((impl_RefSplitDocker.f k ((bt138.1 ++ (⟨#[47]⟩ : ByteArray)) ++ bt138.2)).bind fun bt142 => (if bt142.1.toList = x0.toList then (some (bt142.2.toList == x1.toList)) else (some false))) else (none)) else (none))))
end
def laws_FnRefFamiliarSplit.f (k : Nat) (a0 : ByteArray) (a1 : ByteArray) : Option (Bool) := if (a0.size : Int) > 2147483647 then (laws_FnRefFamiliarSplit.j0 k a0 a1 true) else (laws_FnRefFamiliarSplit.j0 k a0 a1 (decide ((a1.size : Int) > 2147483647)))
theorem laws_FnRefFamiliarSplit.mono_l : ∀ k, (∀ y0 y1 y2, LeO (laws_FnRefFamiliarSplit.j0 k y0 y1 y2) (laws_FnRefFamiliarSplit.j0 (k + 1) y0 y1 y2)) ∧ (∀ y0 y1 y2, LeO (laws_FnRefFamiliarSplit.j1 k y0 y1 y2) (laws_FnRefFamiliarSplit.j1 (k + 1) y0 y1 y2))
  | 0 => ⟨fun _ _ _ r h => by simp [laws_FnRefFamiliarSplit.j0] at h, fun _ _ _ r h => by simp [laws_FnRefFamiliarSplit.j1] at h⟩
  | k + 1 => by
    obtain ⟨ih0, ih1⟩ := laws_FnRefFamiliarSplit.mono_l k
    refine ⟨?_, ?_⟩
    · intro y0 y1 y2
      unfold laws_FnRefFamiliarSplit.j0
      repeat' first
      | (with_reducible exact ih0 _ _ _)
      | (with_reducible exact ih1 _ _ _)
      | (with_reducible exact impl_RefSplitDocker.mono _ _)
      | (with_reducible exact laws_refHubPath.mono _ _)
      | (with_reducible exact laws_refPlain.mono _ _)
      | (with_reducible exact laws_refTakes.mono _ _)
      | (with_reducible exact LeO.refl _)
      | (with_reducible exact LeO.none _)
      | (with_reducible refine LeO.ite ?_ ?_)
      | (with_reducible refine LeO.bind ?_ (fun _ => ?_))
      | exact ih0 _ _ _
      | exact ih1 _ _ _
      | exact impl_RefSplitDocker.mono _ _
      | exact laws_refHubPath.mono _ _
      | exact laws_refPlain.mono _ _
      | exact laws_refTakes.mono _ _
      | exact LeO.none _
      | refine LeO.ite ?_ ?_
      | refine LeO.bind ?_ (fun _ => ?_)
    · intro y0 y1 y2
      unfold laws_FnRefFamiliarSplit.j1
      repeat' first
      | (with_reducible exact ih0 _ _ _)
      | (with_reducible exact ih1 _ _ _)
      | (with_reducible exact impl_RefSplitDocker.mono _ _)
      | (with_reducible exact laws_refHubPath.mono _ _)
      | (with_reducible exact laws_refPlain.mono _ _)
      | (with_reducible exact laws_refTakes.mono _ _)
      | (with_reducible exact LeO.refl _)
      | (with_reducible exact LeO.none _)
      | (with_reducible refine LeO.ite ?_ ?_)
      | (with_reducible refine LeO.bind ?_ (fun _ => ?_))
      | exact ih0 _ _ _
      | exact ih1 _ _ _
      | exact impl_RefSplitDocker.mono _ _
      | exact laws_refHubPath.mono _ _
      | exact laws_refPlain.mono _ _
      | exact laws_refTakes.mono _ _
      | exact LeO.none _
      | refine LeO.ite ?_ ?_
      | refine LeO.bind ?_ (fun _ => ?_)
theorem laws_FnRefFamiliarSplit.mono : ∀ a0 a1 k, LeO (laws_FnRefFamiliarSplit.f k a0 a1) (laws_FnRefFamiliarSplit.f (k + 1) a0 a1) := by
  intro a0 a1 k
  obtain ⟨ih0, ih1⟩ := laws_FnRefFamiliarSplit.mono_l k
  unfold laws_FnRefFamiliarSplit.f
  repeat' first
      | (with_reducible exact ih0 _ _ _)
      | (with_reducible exact ih1 _ _ _)
      | (with_reducible exact impl_RefSplitDocker.mono _ _)
      | (with_reducible exact laws_refHubPath.mono _ _)
      | (with_reducible exact laws_refPlain.mono _ _)
      | (with_reducible exact laws_refTakes.mono _ _)
      | (with_reducible exact LeO.refl _)
      | (with_reducible exact LeO.none _)
      | (with_reducible refine LeO.ite ?_ ?_)
      | (with_reducible refine LeO.bind ?_ (fun _ => ?_))
      | exact ih0 _ _ _
      | exact ih1 _ _ _
      | exact impl_RefSplitDocker.mono _ _
      | exact laws_refHubPath.mono _ _
      | exact laws_refPlain.mono _ _
      | exact laws_refTakes.mono _ _
      | exact LeO.none _
      | refine LeO.ite ?_ ?_
      | refine LeO.bind ?_ (fun _ => ?_)
set_option maxHeartbeats 8000000 in
set_option maxRecDepth 100000 in
theorem laws_FnRefFamiliarSplit.calls (k : Nat) (a0 : ByteArray) (a1 : ByteArray) (r : Bool) (w : World) (h : laws_FnRefFamiliarSplit.f k a0 a1 = some r) :
    Calls Try.prog 3 #[.string a0, .string a1] w fun e w' => e = .returned (.bool r) ∧ Below w.heap.size w w' := by
  have HB := Aside0.mk (Below.refl w.heap.size w)
  have H : (if (a0.size : Int) > 2147483647 then (laws_FnRefFamiliarSplit.j0 k a0 a1 true) else (laws_FnRefFamiliarSplit.j0 k a0 a1 (decide ((a1.size : Int) > 2147483647)))) = some r := h
  clear h
  have HC3 := Aside0.mk H
  clear H
  go_enter Try.func3, Try.ntmps3
  go_upto_region 1 with (fail)
  go_cut [16] (fun v16 wc => ∃ (kq : Nat) (x16_2 : Bool), v16 = .bool x16_2 ∧ Aside0 (laws_FnRefFamiliarSplit.j0 kq a0 a1 x16_2 = some r) ∧ Aside0 (kq ≤ k) ∧ Aside0 (Below w.heap.size w wc))
  case first =>
    have H := HC3.out
    clear HC3
    by_cases c4 : (a0.size : Int) > 2147483647
    · rw [if_pos c4] at H
      have c4b0 : decide (2147483647 < (a0.size : Int)) = true := decide_eq_true c4
      have c4b1 : decide (2147483647 < a0.size) = true := decide_eq_true (by omega)
      clear c4
      (first | rw [c4b0] | (simp only [i64_w, i32_w]; rw [c4b0]) | rw [c4b1] | skip)
      have H' := Aside0.mk H
      clear H
      go_wp2
      go_meet
      case rel => exact ⟨_, (true), (by first | rfl | (simp; done) | (simp [*]; done) | (simp [nil_bne]; done)), H', ⟨by first | omega | exact Nat.le_refl _⟩, ⟨by repeat (first | (with_reducible first | exact HB.out | apply below_alloc | apply pw_below_drewN | apply below_drew1) | exact HB.out)⟩⟩
    · rw [if_neg c4] at H
      have c4b0 : decide (2147483647 < (a0.size : Int)) = false := decide_eq_false c4
      have c4b1 : decide (2147483647 < a0.size) = false := decide_eq_false (by omega)
      clear c4
      (first | rw [c4b0] | (simp only [i64_w, i32_w]; rw [c4b0]) | rw [c4b1] | skip)
      have H' := Aside0.mk H
      clear H
      go_wp2
      go_meet
      case rel => exact ⟨_, (decide ((a1.size : Int) > 2147483647)), (by first | rfl | (simp; done) | (simp [*]; done) | (simp [nil_bne]; done)), H', ⟨by first | omega | exact Nat.le_refl _⟩, ⟨by repeat (first | (with_reducible first | exact HB.out | apply below_alloc | apply pw_below_drewN | apply below_drew1) | exact HB.out)⟩⟩
  case rest =>
    clear HC3
    try clear p2
    try clear c3
    try clear c4
    try clear c4b0
    try clear c4b1
    obtain ⟨kq, x16_2, rfl, HA, HJ2, HB⟩ := hcut
    cases kq with
    | zero => exact absurd HA.out (by simp [laws_FnRefFamiliarSplit.j0])
    | succ kj2 =>
      have H := HA.out
      clear HA
      simp only [laws_FnRefFamiliarSplit.j0] at H
      by_cases c5 : x16_2 = true
      · subst c5
        have H1 : (some true) = some r := by rw [if_pos rfl] at H; exact H
        clear H
        have H := H1
        clear H1
        obtain rfl := Option.some.inj H
        go_wp2
        go_ret
        exact ⟨by first | rfl | (simp [errW_none, errW_some] <;> rfl) | (simp [*, errW_none, errW_some] <;> rfl), by repeat (first | (with_reducible first | exact HB.out | apply below_alloc | apply pw_below_drewN | apply below_drew1) | exact HB.out)⟩
      · replace c5 := Bool.eq_false_iff.mpr c5
        subst c5
        have H1 : (if (wrap64 ((a0.size : Int) + (a1.size : Int))) > 65536 then (laws_FnRefFamiliarSplit.j1 kj2 a0 a1 true) else ((laws_refPlain.f kj2 a0).bind fun t134 => (if t134 = true then ((laws_refPlain.f kj2 a1).bind fun t135 => (if t135 = true then ((laws_refTakes.f kj2 a0).bind fun t136 => (if t136 = true then (if a0.toList = ([105, 110, 100, 101, 120, 46, 100, 111, 99, 107, 101, 114, 46, 105, 111] : List UInt8) then (laws_FnRefFamiliarSplit.j1 kj2 a0 a1 true) else (if a0.toList = ([100, 111, 99, 107, 101, 114, 46, 105, 111] : List UInt8) then ((laws_refHubPath.f kj2 a1).bind fun t137 => (laws_FnRefFamiliarSplit.j1 kj2 a0 a1 (!t137))) else (laws_FnRefFamiliarSplit.j1 kj2 a0 a1 false))) else (laws_FnRefFamiliarSplit.j1 kj2 a0 a1 true))) else (laws_FnRefFamiliarSplit.j1 kj2 a0 a1 true))) else (laws_FnRefFamiliarSplit.j1 kj2 a0 a1 true)))) = some r := by rw [if_neg (show ¬ (false = true) by decide)] at H; exact H
        clear H
        have H := H1
        clear H1
        have HC6 := Aside0.mk H
        clear H
        go_upto_region 3 with (fail)
        go_cut [50] (fun v50 wc => ∃ (kq : Nat) (x50_5 : Bool), v50 = .bool x50_5 ∧ Aside0 (laws_FnRefFamiliarSplit.j1 kq a0 a1 x50_5 = some r) ∧ Aside0 (kq ≤ kj2) ∧ Aside0 (Below w.heap.size w wc))
        case first =>
          have H := HC6.out
          clear HC6
          by_cases c7 : (wrap64 ((a0.size : Int) + (a1.size : Int))) > 65536
          · rw [if_pos c7] at H
            have c7b0 : decide (65536 < (wrap64 ((a0.size : Int) + (a1.size : Int)))) = true := decide_eq_true c7
            clear c7
            (first | rw [c7b0] | (simp only [i64_w, i32_w]; rw [c7b0]) | rw [c7b1] | skip)
            have H' := Aside0.mk H
            clear H
            go_wp2
            go_meet
            case rel => exact ⟨_, (true), (by first | rfl | (simp; done) | (simp [*]; done) | (simp [nil_bne]; done)), H', ⟨by have := HJ2.out; first | omega | exact Nat.le_refl _⟩, ⟨by repeat (first | (with_reducible first | exact HB.out | apply below_alloc | apply pw_below_drewN | apply below_drew1) | exact HB.out)⟩⟩
          · rw [if_neg c7] at H
            have c7b0 : decide (65536 < (wrap64 ((a0.size : Int) + (a1.size : Int)))) = false := decide_eq_false c7
            clear c7
            (first | rw [c7b0] | (simp only [i64_w, i32_w]; rw [c7b0]) | rw [c7b1] | skip)
            replace H := Option.bind_eq_some_iff.mp H
            obtain ⟨t134, A80, H⟩ := H
            replace H : (if t134 = true then ((laws_refPlain.f kj2 a1).bind fun t135 => (if t135 = true then ((laws_refTakes.f kj2 a0).bind fun t136 => (if t136 = true then (if a0.toList = ([105, 110, 100, 101, 120, 46, 100, 111, 99, 107, 101, 114, 46, 105, 111] : List UInt8) then (laws_FnRefFamiliarSplit.j1 kj2 a0 a1 true) else (if a0.toList = ([100, 111, 99, 107, 101, 114, 46, 105, 111] : List UInt8) then ((laws_refHubPath.f kj2 a1).bind fun t137 => (laws_FnRefFamiliarSplit.j1 kj2 a0 a1 (!t137))) else (laws_FnRefFamiliarSplit.j1 kj2 a0 a1 false))) else (laws_FnRefFamiliarSplit.j1 kj2 a0 a1 true))) else (laws_FnRefFamiliarSplit.j1 kj2 a0 a1 true))) else (laws_FnRefFamiliarSplit.j1 kj2 a0 a1 true)) = some r := H
            have A8 := Aside0.mk A80
            clear A80
            by_cases c9 : t134 = true
            · subst c9
              have H1 : ((laws_refPlain.f kj2 a1).bind fun t135 => (if t135 = true then ((laws_refTakes.f kj2 a0).bind fun t136 => (if t136 = true then (if a0.toList = ([105, 110, 100, 101, 120, 46, 100, 111, 99, 107, 101, 114, 46, 105, 111] : List UInt8) then (laws_FnRefFamiliarSplit.j1 kj2 a0 a1 true) else (if a0.toList = ([100, 111, 99, 107, 101, 114, 46, 105, 111] : List UInt8) then ((laws_refHubPath.f kj2 a1).bind fun t137 => (laws_FnRefFamiliarSplit.j1 kj2 a0 a1 (!t137))) else (laws_FnRefFamiliarSplit.j1 kj2 a0 a1 false))) else (laws_FnRefFamiliarSplit.j1 kj2 a0 a1 true))) else (laws_FnRefFamiliarSplit.j1 kj2 a0 a1 true))) = some r := by rw [if_pos rfl] at H; exact H
              clear H
              have H := H1
              clear H1
              replace H := Option.bind_eq_some_iff.mp H
              obtain ⟨t135, A100, H⟩ := H
              replace H : (if t135 = true then ((laws_refTakes.f kj2 a0).bind fun t136 => (if t136 = true then (if a0.toList = ([105, 110, 100, 101, 120, 46, 100, 111, 99, 107, 101, 114, 46, 105, 111] : List UInt8) then (laws_FnRefFamiliarSplit.j1 kj2 a0 a1 true) else (if a0.toList = ([100, 111, 99, 107, 101, 114, 46, 105, 111] : List UInt8) then ((laws_refHubPath.f kj2 a1).bind fun t137 => (laws_FnRefFamiliarSplit.j1 kj2 a0 a1 (!t137))) else (laws_FnRefFamiliarSplit.j1 kj2 a0 a1 false))) else (laws_FnRefFamiliarSplit.j1 kj2 a0 a1 true))) else (laws_FnRefFamiliarSplit.j1 kj2 a0 a1 true)) = some r := H
              have A10 := Aside0.mk A100
              clear A100
              by_cases c11 : t135 = true
              · subst c11
                have H1 : ((laws_refTakes.f kj2 a0).bind fun t136 => (if t136 = true then (if a0.toList = ([105, 110, 100, 101, 120, 46, 100, 111, 99, 107, 101, 114, 46, 105, 111] : List UInt8) then (laws_FnRefFamiliarSplit.j1 kj2 a0 a1 true) else (if a0.toList = ([100, 111, 99, 107, 101, 114, 46, 105, 111] : List UInt8) then ((laws_refHubPath.f kj2 a1).bind fun t137 => (laws_FnRefFamiliarSplit.j1 kj2 a0 a1 (!t137))) else (laws_FnRefFamiliarSplit.j1 kj2 a0 a1 false))) else (laws_FnRefFamiliarSplit.j1 kj2 a0 a1 true))) = some r := by rw [if_pos rfl] at H; exact H
                clear H
                have H := H1
                clear H1
                replace H := Option.bind_eq_some_iff.mp H
                obtain ⟨t136, A120, H⟩ := H
                replace H : (if t136 = true then (if a0.toList = ([105, 110, 100, 101, 120, 46, 100, 111, 99, 107, 101, 114, 46, 105, 111] : List UInt8) then (laws_FnRefFamiliarSplit.j1 kj2 a0 a1 true) else (if a0.toList = ([100, 111, 99, 107, 101, 114, 46, 105, 111] : List UInt8) then ((laws_refHubPath.f kj2 a1).bind fun t137 => (laws_FnRefFamiliarSplit.j1 kj2 a0 a1 (!t137))) else (laws_FnRefFamiliarSplit.j1 kj2 a0 a1 false))) else (laws_FnRefFamiliarSplit.j1 kj2 a0 a1 true)) = some r := H
                have A12 := Aside0.mk A120
                clear A120
                by_cases c13 : t136 = true
                · subst c13
                  have H1 : (if a0.toList = ([105, 110, 100, 101, 120, 46, 100, 111, 99, 107, 101, 114, 46, 105, 111] : List UInt8) then (laws_FnRefFamiliarSplit.j1 kj2 a0 a1 true) else (if a0.toList = ([100, 111, 99, 107, 101, 114, 46, 105, 111] : List UInt8) then ((laws_refHubPath.f kj2 a1).bind fun t137 => (laws_FnRefFamiliarSplit.j1 kj2 a0 a1 (!t137))) else (laws_FnRefFamiliarSplit.j1 kj2 a0 a1 false))) = some r := by rw [if_pos rfl] at H; exact H
                  clear H
                  have H := H1
                  clear H1
                  by_cases c14 : a0.toList = ([105, 110, 100, 101, 120, 46, 100, 111, 99, 107, 101, 114, 46, 105, 111] : List UInt8)
                  · rw [if_pos c14] at H
                    have c14b0 : (a0.toList == ([105, 110, 100, 101, 120, 46, 100, 111, 99, 107, 101, 114, 46, 105, 111] : List UInt8)) = true := beq_iff_eq.mpr c14
                    have c14b1 : (a0.toList != ([105, 110, 100, 101, 120, 46, 100, 111, 99, 107, 101, 114, 46, 105, 111] : List UInt8)) = false := bne_eq_false_iff_eq.mpr c14
                    clear c14
                    have H' := Aside0.mk H
                    clear H
                    go_wp2_with (first | (go_at_call 4; (with_reducible refine (laws_refPlain.calls kj2 a0 true _ A8.out).mono ?_); rintro e w' ⟨rfl, ⟨nd, rfl⟩⟩) | (go_at_call 4; (with_reducible refine (laws_refPlain.calls kj2 a1 true _ A10.out).mono ?_); rintro e w' ⟨rfl, ⟨nd, rfl⟩⟩) | (go_at_call 5; (with_reducible refine (laws_refTakes.calls kj2 a0 true _ A12.out).mono ?_); rintro e w15 ⟨rfl, hb⟩; have n0_ := Aside0.mk (below_step (by repeat (first | (with_reducible first | exact HB.out | apply below_alloc | apply pw_below_drewN | apply below_drew1) | exact HB.out)) hb); clear HB; have HB := n0_; clear n0_; (try clear hb); (try clear hb2); (try clear hk); (try clear hi)))
                    go_meet
                    case rel => exact ⟨_, (true), (by first | rfl | (simp; done) | (simp [*]; done) | (simp [nil_bne]; done)), H', ⟨by have := HJ2.out; first | omega | exact Nat.le_refl _⟩, ⟨by repeat (first | (with_reducible first | exact HB.out | apply below_alloc | apply pw_below_drewN | apply below_drew1) | exact HB.out)⟩⟩
                  · rw [if_neg c14] at H
                    have c14b0 : (a0.toList == ([105, 110, 100, 101, 120, 46, 100, 111, 99, 107, 101, 114, 46, 105, 111] : List UInt8)) = false := beq_eq_false_iff_ne.mpr c14
                    have c14b1 : (a0.toList != ([105, 110, 100, 101, 120, 46, 100, 111, 99, 107, 101, 114, 46, 105, 111] : List UInt8)) = true := bne_iff_ne.mpr c14
                    by_cases c16 : a0.toList = ([100, 111, 99, 107, 101, 114, 46, 105, 111] : List UInt8)
                    · rw [if_pos c16] at H
                      have c16b0 : (a0.toList == ([100, 111, 99, 107, 101, 114, 46, 105, 111] : List UInt8)) = true := beq_iff_eq.mpr c16
                      have c16b1 : (a0.toList != ([100, 111, 99, 107, 101, 114, 46, 105, 111] : List UInt8)) = false := bne_eq_false_iff_eq.mpr c16
                      clear c16
                      replace H := Option.bind_eq_some_iff.mp H
                      obtain ⟨t137, A170, H⟩ := H
                      replace H : (laws_FnRefFamiliarSplit.j1 kj2 a0 a1 (!t137)) = some r := H
                      have A17 := Aside0.mk A170
                      clear A170
                      have H' := Aside0.mk H
                      clear H
                      go_wp2_with (first | (go_at_call 4; (with_reducible refine (laws_refPlain.calls kj2 a0 true _ A8.out).mono ?_); rintro e w' ⟨rfl, ⟨nd, rfl⟩⟩) | (go_at_call 4; (with_reducible refine (laws_refPlain.calls kj2 a1 true _ A10.out).mono ?_); rintro e w' ⟨rfl, ⟨nd, rfl⟩⟩) | (go_at_call 5; (with_reducible refine (laws_refTakes.calls kj2 a0 true _ A12.out).mono ?_); rintro e w18 ⟨rfl, hb⟩; have n0_ := Aside0.mk (below_step (by repeat (first | (with_reducible first | exact HB.out | apply below_alloc | apply pw_below_drewN | apply below_drew1) | exact HB.out)) hb); clear HB; have HB := n0_; clear n0_; (try clear hb); (try clear hb2); (try clear hk); (try clear hi)) | (go_at_call 6; (with_reducible refine (laws_refHubPath.calls kj2 a1 t137 _ A17.out).mono ?_); rintro e w19 ⟨rfl, hb⟩; have n0_ := Aside0.mk (below_step (by repeat (first | (with_reducible first | exact HB.out | apply below_alloc | apply pw_below_drewN | apply below_drew1) | exact HB.out)) hb); clear HB; have HB := n0_; clear n0_; (try clear hb); (try clear hb2); (try clear hk); (try clear hi)))
                      go_meet
                      case rel => exact ⟨_, (!t137), (by first | rfl | (simp; done) | (simp [*]; done) | (simp [nil_bne]; done)), H', ⟨by have := HJ2.out; first | omega | exact Nat.le_refl _⟩, ⟨by repeat (first | (with_reducible first | exact HB.out | apply below_alloc | apply pw_below_drewN | apply below_drew1) | exact HB.out)⟩⟩
                    · rw [if_neg c16] at H
                      have c16b0 : (a0.toList == ([100, 111, 99, 107, 101, 114, 46, 105, 111] : List UInt8)) = false := beq_eq_false_iff_ne.mpr c16
                      have c16b1 : (a0.toList != ([100, 111, 99, 107, 101, 114, 46, 105, 111] : List UInt8)) = true := bne_iff_ne.mpr c16
                      have H' := Aside0.mk H
                      clear H
                      go_wp2_with (first | (go_at_call 4; (with_reducible refine (laws_refPlain.calls kj2 a0 true _ A8.out).mono ?_); rintro e w' ⟨rfl, ⟨nd, rfl⟩⟩) | (go_at_call 4; (with_reducible refine (laws_refPlain.calls kj2 a1 true _ A10.out).mono ?_); rintro e w' ⟨rfl, ⟨nd, rfl⟩⟩) | (go_at_call 5; (with_reducible refine (laws_refTakes.calls kj2 a0 true _ A12.out).mono ?_); rintro e w20 ⟨rfl, hb⟩; have n0_ := Aside0.mk (below_step (by repeat (first | (with_reducible first | exact HB.out | apply below_alloc | apply pw_below_drewN | apply below_drew1) | exact HB.out)) hb); clear HB; have HB := n0_; clear n0_; (try clear hb); (try clear hb2); (try clear hk); (try clear hi)))
                      go_meet
                      case rel => exact ⟨_, (false), (by first | rfl | (simp; done) | (simp [*]; done) | (simp [nil_bne]; done)), H', ⟨by have := HJ2.out; first | omega | exact Nat.le_refl _⟩, ⟨by repeat (first | (with_reducible first | exact HB.out | apply below_alloc | apply pw_below_drewN | apply below_drew1) | exact HB.out)⟩⟩
                · replace c13 := Bool.eq_false_iff.mpr c13
                  subst c13
                  have H1 : (laws_FnRefFamiliarSplit.j1 kj2 a0 a1 true) = some r := by rw [if_neg (show ¬ (false = true) by decide)] at H; exact H
                  clear H
                  have H := H1
                  clear H1
                  have H' := Aside0.mk H
                  clear H
                  go_wp2_with (first | (go_at_call 4; (with_reducible refine (laws_refPlain.calls kj2 a0 true _ A8.out).mono ?_); rintro e w' ⟨rfl, ⟨nd, rfl⟩⟩) | (go_at_call 4; (with_reducible refine (laws_refPlain.calls kj2 a1 true _ A10.out).mono ?_); rintro e w' ⟨rfl, ⟨nd, rfl⟩⟩) | (go_at_call 5; (with_reducible refine (laws_refTakes.calls kj2 a0 false _ A12.out).mono ?_); rintro e w21 ⟨rfl, hb⟩; have n0_ := Aside0.mk (below_step (by repeat (first | (with_reducible first | exact HB.out | apply below_alloc | apply pw_below_drewN | apply below_drew1) | exact HB.out)) hb); clear HB; have HB := n0_; clear n0_; (try clear hb); (try clear hb2); (try clear hk); (try clear hi)))
                  go_meet
                  case rel => exact ⟨_, (true), (by first | rfl | (simp; done) | (simp [*]; done) | (simp [nil_bne]; done)), H', ⟨by have := HJ2.out; first | omega | exact Nat.le_refl _⟩, ⟨by repeat (first | (with_reducible first | exact HB.out | apply below_alloc | apply pw_below_drewN | apply below_drew1) | exact HB.out)⟩⟩
              · replace c11 := Bool.eq_false_iff.mpr c11
                subst c11
                have H1 : (laws_FnRefFamiliarSplit.j1 kj2 a0 a1 true) = some r := by rw [if_neg (show ¬ (false = true) by decide)] at H; exact H
                clear H
                have H := H1
                clear H1
                have H' := Aside0.mk H
                clear H
                go_wp2_with (first | (go_at_call 4; (with_reducible refine (laws_refPlain.calls kj2 a0 true _ A8.out).mono ?_); rintro e w' ⟨rfl, ⟨nd, rfl⟩⟩) | (go_at_call 4; (with_reducible refine (laws_refPlain.calls kj2 a1 false _ A10.out).mono ?_); rintro e w' ⟨rfl, ⟨nd, rfl⟩⟩))
                go_meet
                case rel => exact ⟨_, (true), (by first | rfl | (simp; done) | (simp [*]; done) | (simp [nil_bne]; done)), H', ⟨by have := HJ2.out; first | omega | exact Nat.le_refl _⟩, ⟨by repeat (first | (with_reducible first | exact HB.out | apply below_alloc | apply pw_below_drewN | apply below_drew1) | exact HB.out)⟩⟩
            · replace c9 := Bool.eq_false_iff.mpr c9
              subst c9
              have H1 : (laws_FnRefFamiliarSplit.j1 kj2 a0 a1 true) = some r := by rw [if_neg (show ¬ (false = true) by decide)] at H; exact H
              clear H
              have H := H1
              clear H1
              have H' := Aside0.mk H
              clear H
              go_wp2_with (first | (go_at_call 4; (with_reducible refine (laws_refPlain.calls kj2 a0 false _ A8.out).mono ?_); rintro e w' ⟨rfl, ⟨nd, rfl⟩⟩))
              go_meet
              case rel => exact ⟨_, (true), (by first | rfl | (simp; done) | (simp [*]; done) | (simp [nil_bne]; done)), H', ⟨by have := HJ2.out; first | omega | exact Nat.le_refl _⟩, ⟨by repeat (first | (with_reducible first | exact HB.out | apply below_alloc | apply pw_below_drewN | apply below_drew1) | exact HB.out)⟩⟩
        case rest =>
          clear HC6
          try clear c1
          try clear p2
          try clear c3
          try clear c4
          try clear c4b0
          try clear c4b1
          try clear c5
          try clear p6
          try clear c7
          try clear c7b0
          try clear c7b1
          try clear c9
          try clear c11
          try clear c13
          try clear c14
          try clear c14b0
          try clear c14b1
          try clear c16
          try clear c16b0
          try clear c16b1
          try clear p2
          obtain ⟨kq, x50_5, rfl, HA, HJ5, HB⟩ := hcut
          cases kq with
          | zero => exact absurd HA.out (by simp [laws_FnRefFamiliarSplit.j1])
          | succ kj5 =>
            have H := HA.out
            clear HA
            simp only [laws_FnRefFamiliarSplit.j1] at H
            by_cases c22 : x50_5 = true
            · subst c22
              have H1 : (some true) = some r := by rw [if_pos rfl] at H; exact H
              clear H
              have H := H1
              clear H1
              obtain rfl := Option.some.inj H
              go_wp2
              go_ret
              exact ⟨by first | rfl | (simp [errW_none, errW_some] <;> rfl) | (simp [*, errW_none, errW_some] <;> rfl), by repeat (first | (with_reducible first | exact HB.out | apply below_alloc | apply pw_below_drewN | apply below_drew1) | exact HB.out)⟩
            · replace c22 := Bool.eq_false_iff.mpr c22
              subst c22
              have H1 : ((impl_RefFamiliarize.f a0 a1).bind fun bt138 => (if bt138.1.toList = ([] : List UInt8) then ((impl_RefSplitDocker.f kj5 bt138.2).bind fun bt140 => (if bt140.1.toList = a0.toList then (some (bt140.2.toList == a1.toList)) else (some false))) else (if bt138.1.size + 1 ≤ 9223372036854775807 then (if (bt138.1 ++ (⟨#[47]⟩ : ByteArray)).size + bt138.2.size ≤ 9223372036854775807 then ((impl_RefSplitDocker.f kj5 ((bt138.1 ++ (⟨#[47]⟩ : ByteArray)) ++ bt138.2)).bind fun bt142 => (if bt142.1.toList = a0.toList then (some (bt142.2.toList == a1.toList)) else (some false))) else (none)) else (none)))) = some r := by rw [if_neg (show ¬ (false = true) by decide)] at H; exact H
              clear H
              have H := H1
              clear H1
              replace H := Option.bind_eq_some_iff.mp H
              obtain ⟨⟨t138, t139⟩, A230, H⟩ := H
              replace H : (if t138.toList = ([] : List UInt8) then ((impl_RefSplitDocker.f kj5 t139).bind fun bt140 => (if bt140.1.toList = a0.toList then (some (bt140.2.toList == a1.toList)) else (some false))) else (if t138.size + 1 ≤ 9223372036854775807 then (if (t138 ++ (⟨#[47]⟩ : ByteArray)).size + t139.size ≤ 9223372036854775807 then ((impl_RefSplitDocker.f kj5 ((t138 ++ (⟨#[47]⟩ : ByteArray)) ++ t139)).bind fun bt142 => (if bt142.1.toList = a0.toList then (some (bt142.2.toList == a1.toList)) else (some false))) else (none)) else (none))) = some r := H
              have A23 := Aside0.mk A230
              clear A230
              by_cases c24 : t138.toList = ([] : List UInt8)
              · rw [if_pos c24] at H
                have c24b0 : (t138.toList == ([] : List UInt8)) = true := beq_iff_eq.mpr c24
                have c24b1 : (t138.toList != ([] : List UInt8)) = false := bne_eq_false_iff_eq.mpr c24
                (try (have c24b2 : t138.toList.isEmpty = true := by simpa using c24))
                (try (have c24b3 : (!t138.toList.isEmpty) = false := by simpa using c24))
                clear c24
                replace H := Option.bind_eq_some_iff.mp H
                obtain ⟨⟨t140, t141⟩, A250, H⟩ := H
                replace H : (if t140.toList = a0.toList then (some (t141.toList == a1.toList)) else (some false)) = some r := H
                have A25 := Aside0.mk A250
                clear A250
                by_cases c26 : t140.toList = a0.toList
                · rw [if_pos c26] at H
                  have c26b0 : (t140.toList == a0.toList) = true := beq_iff_eq.mpr c26
                  have c26b1 : (t140.toList != a0.toList) = false := bne_eq_false_iff_eq.mpr c26
                  clear c26
                  obtain rfl := Option.some.inj H
                  go_wp2_with (first | ((with_reducible refine gate_callee (f := 7) rfl ?_); refine goesL_ (some 54) rfl rfl Try.func7 (by kernel_rfl) rfl #[.string a0, .string a1] rfl (by (try simp only [List.map_toArray, List.map_cons, List.map_nil]); first | done | rfl | (simp only [List.length_drop, List.length_take]; rfl)) ?_; (with_reducible refine (impl_RefFamiliarize.calls a0 a1 t138 t139 _ A23.out).mono ?_); rintro e w27 ⟨rfl, hb⟩; refine ⟨_, rfl, ?_⟩; have n0_ := Aside0.mk (below_step (by repeat (first | (with_reducible first | exact HB.out | apply below_alloc | apply pw_below_drewN | apply below_drew1) | exact HB.out)) hb); clear HB; have HB := n0_; clear n0_; (try clear hb); (try clear hb2); (try clear hk); (try clear hi)) | ((with_reducible refine gate_callee (f := 8) rfl ?_); refine goesL_ (some 65) rfl rfl Try.func8 (by kernel_rfl) rfl #[.string t139] rfl (by (try simp only [List.map_toArray, List.map_cons, List.map_nil]); first | done | rfl | (simp only [List.length_drop, List.length_take]; rfl)) ?_; (with_reducible refine (impl_RefSplitDocker.calls kj5 t139 t140 t141 _ A25.out).mono ?_); rintro e w28 ⟨rfl, hb⟩; refine ⟨_, rfl, ?_⟩; have n0_ := Aside0.mk (below_step (by repeat (first | (with_reducible first | exact HB.out | apply below_alloc | apply pw_below_drewN | apply below_drew1) | exact HB.out)) hb); clear HB; have HB := n0_; clear n0_; (try clear hb); (try clear hb2); (try clear hk); (try clear hi)))
                  go_ret
                  exact ⟨by first | rfl | (simp [errW_none, errW_some] <;> rfl) | (simp [*, errW_none, errW_some] <;> rfl), by repeat (first | (with_reducible first | exact HB.out | apply below_alloc | apply pw_below_drewN | apply below_drew1) | exact HB.out)⟩
                · rw [if_neg c26] at H
                  have c26b0 : (t140.toList == a0.toList) = false := beq_eq_false_iff_ne.mpr c26
                  have c26b1 : (t140.toList != a0.toList) = true := bne_iff_ne.mpr c26
                  obtain rfl := Option.some.inj H
                  go_wp2_with (first | ((with_reducible refine gate_callee (f := 7) rfl ?_); refine goesL_ (some 54) rfl rfl Try.func7 (by kernel_rfl) rfl #[.string a0, .string a1] rfl (by (try simp only [List.map_toArray, List.map_cons, List.map_nil]); first | done | rfl | (simp only [List.length_drop, List.length_take]; rfl)) ?_; (with_reducible refine (impl_RefFamiliarize.calls a0 a1 t138 t139 _ A23.out).mono ?_); rintro e w29 ⟨rfl, hb⟩; refine ⟨_, rfl, ?_⟩; have n0_ := Aside0.mk (below_step (by repeat (first | (with_reducible first | exact HB.out | apply below_alloc | apply pw_below_drewN | apply below_drew1) | exact HB.out)) hb); clear HB; have HB := n0_; clear n0_; (try clear hb); (try clear hb2); (try clear hk); (try clear hi)) | ((with_reducible refine gate_callee (f := 8) rfl ?_); refine goesL_ (some 65) rfl rfl Try.func8 (by kernel_rfl) rfl #[.string t139] rfl (by (try simp only [List.map_toArray, List.map_cons, List.map_nil]); first | done | rfl | (simp only [List.length_drop, List.length_take]; rfl)) ?_; (with_reducible refine (impl_RefSplitDocker.calls kj5 t139 t140 t141 _ A25.out).mono ?_); rintro e w30 ⟨rfl, hb⟩; refine ⟨_, rfl, ?_⟩; have n0_ := Aside0.mk (below_step (by repeat (first | (with_reducible first | exact HB.out | apply below_alloc | apply pw_below_drewN | apply below_drew1) | exact HB.out)) hb); clear HB; have HB := n0_; clear n0_; (try clear hb); (try clear hb2); (try clear hk); (try clear hi)))
                  go_ret
                  exact ⟨by first | rfl | (simp [errW_none, errW_some] <;> rfl) | (simp [*, errW_none, errW_some] <;> rfl), by repeat (first | (with_reducible first | exact HB.out | apply below_alloc | apply pw_below_drewN | apply below_drew1) | exact HB.out)⟩
              · rw [if_neg c24] at H
                have c24b0 : (t138.toList == ([] : List UInt8)) = false := beq_eq_false_iff_ne.mpr c24
                have c24b1 : (t138.toList != ([] : List UInt8)) = true := bne_iff_ne.mpr c24
                (try (have c24b2 : t138.toList.isEmpty = false := by simpa using c24))
                (try (have c24b3 : (!t138.toList.isEmpty) = true := by simpa using c24))
                by_cases c31 : t138.size + 1 ≤ 9223372036854775807
                · rw [if_pos c31] at H
                  have c31b0 := eq_true c31
                  have c31b1 : decide (t138.size + 1 ≤ 9223372036854775807) = true := decide_eq_true c31
                  try have c31b2 : (9223372036854775807 < t138.size + 1) = False := eq_false (Nat.not_lt.2 c31)
                  by_cases c32 : (t138 ++ (⟨#[47]⟩ : ByteArray)).size + t139.size ≤ 9223372036854775807
                  · rw [if_pos c32] at H
                    have c32b0 := eq_true c32
                    have c32b1 : decide ((t138 ++ (⟨#[47]⟩ : ByteArray)).size + t139.size ≤ 9223372036854775807) = true := decide_eq_true c32
                    try have c32b2 : (9223372036854775807 < (t138 ++ (⟨#[47]⟩ : ByteArray)).size + t139.size) = False := eq_false (Nat.not_lt.2 c32)
                    replace H := Option.bind_eq_some_iff.mp H
                    obtain ⟨⟨t142, t143⟩, A330, H⟩ := H
                    replace H : (if t142.toList = a0.toList then (some (t143.toList == a1.toList)) else (some false)) = some r := H
                    have A33 := Aside0.mk A330
                    clear A330
                    by_cases c34 : t142.toList = a0.toList
                    · rw [if_pos c34] at H
                      have c34b0 : (t142.toList == a0.toList) = true := beq_iff_eq.mpr c34
                      have c34b1 : (t142.toList != a0.toList) = false := bne_eq_false_iff_eq.mpr c34
                      clear c34
                      obtain rfl := Option.some.inj H
                      go_wp2_with (first | ((with_reducible refine gate_callee (f := 7) rfl ?_); refine goesL_ (some 54) rfl rfl Try.func7 (by kernel_rfl) rfl #[.string a0, .string a1] rfl (by (try simp only [List.map_toArray, List.map_cons, List.map_nil]); first | done | rfl | (simp only [List.length_drop, List.length_take]; rfl)) ?_; (with_reducible refine (impl_RefFamiliarize.calls a0 a1 t138 t139 _ A23.out).mono ?_); rintro e w35 ⟨rfl, hb⟩; refine ⟨_, rfl, ?_⟩; have n0_ := Aside0.mk (below_step (by repeat (first | (with_reducible first | exact HB.out | apply below_alloc | apply pw_below_drewN | apply below_drew1) | exact HB.out)) hb); clear HB; have HB := n0_; clear n0_; (try clear hb); (try clear hb2); (try clear hk); (try clear hi)) | ((with_reducible refine gate_callee (f := 8) rfl ?_); refine goesL_ (some 65) rfl rfl Try.func8 (by kernel_rfl) rfl #[.string ((t138 ++ (⟨#[47]⟩ : ByteArray)) ++ t139)] rfl (by (try simp only [List.map_toArray, List.map_cons, List.map_nil]); first | done | rfl | (simp only [List.length_drop, List.length_take]; rfl)) ?_; (with_reducible refine (impl_RefSplitDocker.calls kj5 ((t138 ++ (⟨#[47]⟩ : ByteArray)) ++ t139) t142 t143 _ A33.out).mono ?_); rintro e w36 ⟨rfl, hb⟩; refine ⟨_, rfl, ?_⟩; have n0_ := Aside0.mk (below_step (by repeat (first | (with_reducible first | exact HB.out | apply below_alloc | apply pw_below_drewN | apply below_drew1) | exact HB.out)) hb); clear HB; have HB := n0_; clear n0_; (try clear hb); (try clear hb2); (try clear hk); (try clear hi)))
                      go_ret
                      exact ⟨by first | rfl | (simp [errW_none, errW_some] <;> rfl) | (simp [*, errW_none, errW_some] <;> rfl), by repeat (first | (with_reducible first | exact HB.out | apply below_alloc | apply pw_below_drewN | apply below_drew1) | exact HB.out)⟩
                    · rw [if_neg c34] at H
                      have c34b0 : (t142.toList == a0.toList) = false := beq_eq_false_iff_ne.mpr c34
                      have c34b1 : (t142.toList != a0.toList) = true := bne_iff_ne.mpr c34
                      obtain rfl := Option.some.inj H
                      go_wp2_with (first | ((with_reducible refine gate_callee (f := 7) rfl ?_); refine goesL_ (some 54) rfl rfl Try.func7 (by kernel_rfl) rfl #[.string a0, .string a1] rfl (by (try simp only [List.map_toArray, List.map_cons, List.map_nil]); first | done | rfl | (simp only [List.length_drop, List.length_take]; rfl)) ?_; (with_reducible refine (impl_RefFamiliarize.calls a0 a1 t138 t139 _ A23.out).mono ?_); rintro e w37 ⟨rfl, hb⟩; refine ⟨_, rfl, ?_⟩; have n0_ := Aside0.mk (below_step (by repeat (first | (with_reducible first | exact HB.out | apply below_alloc | apply pw_below_drewN | apply below_drew1) | exact HB.out)) hb); clear HB; have HB := n0_; clear n0_; (try clear hb); (try clear hb2); (try clear hk); (try clear hi)) | ((with_reducible refine gate_callee (f := 8) rfl ?_); refine goesL_ (some 65) rfl rfl Try.func8 (by kernel_rfl) rfl #[.string ((t138 ++ (⟨#[47]⟩ : ByteArray)) ++ t139)] rfl (by (try simp only [List.map_toArray, List.map_cons, List.map_nil]); first | done | rfl | (simp only [List.length_drop, List.length_take]; rfl)) ?_; (with_reducible refine (impl_RefSplitDocker.calls kj5 ((t138 ++ (⟨#[47]⟩ : ByteArray)) ++ t139) t142 t143 _ A33.out).mono ?_); rintro e w38 ⟨rfl, hb⟩; refine ⟨_, rfl, ?_⟩; have n0_ := Aside0.mk (below_step (by repeat (first | (with_reducible first | exact HB.out | apply below_alloc | apply pw_below_drewN | apply below_drew1) | exact HB.out)) hb); clear HB; have HB := n0_; clear n0_; (try clear hb); (try clear hb2); (try clear hk); (try clear hi)))
                      go_ret
                      exact ⟨by first | rfl | (simp [errW_none, errW_some] <;> rfl) | (simp [*, errW_none, errW_some] <;> rfl), by repeat (first | (with_reducible first | exact HB.out | apply below_alloc | apply pw_below_drewN | apply below_drew1) | exact HB.out)⟩
                  · rw [if_neg c32] at H
                    exact absurd H (by simp)
                · rw [if_neg c31] at H
                  exact absurd H (by simp)

/-- THE ONE PURE STATEMENT of laws_FnRefFamiliarSplit: yours. -/
def laws_FnRefFamiliarSplit.Pure : Prop := ∀ (a0 : ByteArray) (a1 : ByteArray), a0.size ≤ 140737488351232 → a1.size ≤ 140737488351232 → ∃ k, laws_FnRefFamiliarSplit.f k a0 a1 = some true
theorem laws_FnRefFamiliarSplit.walk (P : laws_FnRefFamiliarSplit.Pure) (a0 : ByteArray) (a1 : ByteArray) (w : World) (w0 : a0.size ≤ 140737488351232) (w1 : a1.size ≤ 140737488351232) :
    Calls Try.prog 3 #[.string a0, .string a1] w fun e w' => e = .returned (.bool true) ∧ Below w.heap.size w w' := by
  obtain ⟨k, h⟩ := P a0 a1 w0 w1
  refine (laws_FnRefFamiliarSplit.calls k a0 a1 true w h).mono ?_
  rintro e w' ⟨rfl, hd⟩
  exact ⟨rfl, hd⟩

end Go.Proofs.Ytgbmhkmhpmkadaa.QW
