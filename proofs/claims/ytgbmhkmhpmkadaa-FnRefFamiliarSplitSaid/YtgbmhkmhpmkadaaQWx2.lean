-- written by a program of mine (wip/tools/myprint.py) for this claim. Not trusted: Lean checks it.
import Derived.Test.YtgbmhkmhpmkadaaQWx0
import Derived.Test.YtgbmhkmhpmkadaaQWx1
import Derived.Test.YtgbmhkmhpmkadaaStr
namespace Go.Proofs.Ytgbmhkmhpmkadaa.QW
open Go.RowKit Go.Proofs.YtgbmhkmhpmkadaaW.PrintWords Go.Proofs.YtgbmhkmhpmkadaaW.PrintLast Go.Proofs.YtgbmhkmhpmkadaaW.PrintMore
attribute [local go_sem] max2_int min2_int max_two min_two max_three min_three max_four min_four   -- for this text's walks alone
set_option linter.unusedVariables false
set_option linter.unusedSimpArgs false

/-! ### laws_refTakes: function 5 -/
def laws_refTakes.f (k : Nat) (a0 : ByteArray) : Option (Bool) := (spec_RefFirst.f k a0 47).bind fun t107 => (if t107 < 0 then ((spec_RefFirst.f k a0 46).bind fun t108 => (if t108 ≥ 0 then (some true) else ((spec_RefFirst.f k a0 58).bind fun t109 => (if t109 ≥ 0 then (some true) else (if a0.toList = ([108, 111, 99, 97, 108, 104, 111, 115, 116] : List UInt8) then (some true) else ((spec_RefSmall.f k a0).bind fun t110 => (some (t110.toList != a0.toList)))))))) else (some false))
theorem laws_refTakes.mono : ∀ a0 k, LeO (laws_refTakes.f k a0) (laws_refTakes.f (k + 1) a0) := by
  intro a0 k
  unfold laws_refTakes.f
  repeat' first
      | (with_reducible exact spec_RefFirst.mono _ _ _)
      | (with_reducible exact spec_RefSmall.mono _ _)
      | (with_reducible exact LeO.refl _)
      | (with_reducible exact LeO.none _)
      | (with_reducible refine LeO.ite ?_ ?_)
      | (with_reducible refine LeO.bind ?_ (fun _ => ?_))
      | exact spec_RefFirst.mono _ _ _
      | exact spec_RefSmall.mono _ _
      | exact LeO.none _
      | refine LeO.ite ?_ ?_
      | refine LeO.bind ?_ (fun _ => ?_)
set_option maxHeartbeats 8000000 in
set_option maxRecDepth 100000 in
theorem laws_refTakes.calls (k : Nat) (a0 : ByteArray) (r : Bool) (w : World) (h : laws_refTakes.f k a0 = some r) :
    Calls Try.prog 5 #[.string a0] w fun e w' => e = .returned (.bool r) ∧ Below w.heap.size w w' := by
  have HB := Aside0.mk (Below.refl w.heap.size w)
  have H : ((spec_RefFirst.f k a0 47).bind fun t107 => (if t107 < 0 then ((spec_RefFirst.f k a0 46).bind fun t108 => (if t108 ≥ 0 then (some true) else ((spec_RefFirst.f k a0 58).bind fun t109 => (if t109 ≥ 0 then (some true) else (if a0.toList = ([108, 111, 99, 97, 108, 104, 111, 115, 116] : List UInt8) then (some true) else ((spec_RefSmall.f k a0).bind fun t110 => (some (t110.toList != a0.toList)))))))) else (some false))) = some r := h
  clear h
  replace H := Option.bind_eq_some_iff.mp H
  obtain ⟨t107, A20, H⟩ := H
  replace H : (if t107 < 0 then ((spec_RefFirst.f k a0 46).bind fun t108 => (if t108 ≥ 0 then (some true) else ((spec_RefFirst.f k a0 58).bind fun t109 => (if t109 ≥ 0 then (some true) else (if a0.toList = ([108, 111, 99, 97, 108, 104, 111, 115, 116] : List UInt8) then (some true) else ((spec_RefSmall.f k a0).bind fun t110 => (some (t110.toList != a0.toList)))))))) else (some false)) = some r := H
  have A2 := Aside0.mk A20
  clear A20
  by_cases c3 : t107 < 0
  · rw [if_pos c3] at H
    have c3b0 : decide (t107 < 0) = true := decide_eq_true c3
    clear c3
    replace H := Option.bind_eq_some_iff.mp H
    obtain ⟨t108, A40, H⟩ := H
    replace H : (if t108 ≥ 0 then (some true) else ((spec_RefFirst.f k a0 58).bind fun t109 => (if t109 ≥ 0 then (some true) else (if a0.toList = ([108, 111, 99, 97, 108, 104, 111, 115, 116] : List UInt8) then (some true) else ((spec_RefSmall.f k a0).bind fun t110 => (some (t110.toList != a0.toList))))))) = some r := H
    have A4 := Aside0.mk A40
    clear A40
    by_cases c5 : t108 ≥ 0
    · rw [if_pos c5] at H
      have c5b0 : decide (0 ≤ t108) = true := decide_eq_true c5
      clear c5
      obtain rfl := Option.some.inj H
      go_enter Try.func5, Try.ntmps5
      go_wp2_with (first | ((with_reducible refine gate_callee (f := 9) rfl ?_); refine goesL_ (some 4) rfl rfl Try.func9 (by kernel_rfl) rfl #[.string a0, .int .u8 47] rfl (by (try simp only [List.map_toArray, List.map_cons, List.map_nil]); first | done | rfl | (simp only [List.length_drop, List.length_take]; rfl)) ?_; (with_reducible refine (spec_RefFirst.calls k a0 47 t107 _ A2.out).mono ?_); rintro e w' ⟨rfl, ⟨nd, rfl⟩⟩; refine ⟨_, rfl, ?_⟩) | (go_at_call 9; (with_reducible refine (spec_RefFirst.calls k a0 46 t108 _ A4.out).mono ?_); rintro e w' ⟨rfl, ⟨nd, rfl⟩⟩))
      go_ret
      exact ⟨by first | rfl | (simp [errW_none, errW_some] <;> rfl) | (simp [*, errW_none, errW_some] <;> rfl), by repeat (first | (with_reducible first | exact HB.out | apply below_alloc | apply pw_below_drewN | apply below_drew1) | exact HB.out)⟩
    · rw [if_neg c5] at H
      have c5b0 : decide (0 ≤ t108) = false := decide_eq_false c5
      clear c5
      replace H := Option.bind_eq_some_iff.mp H
      obtain ⟨t109, A60, H⟩ := H
      replace H : (if t109 ≥ 0 then (some true) else (if a0.toList = ([108, 111, 99, 97, 108, 104, 111, 115, 116] : List UInt8) then (some true) else ((spec_RefSmall.f k a0).bind fun t110 => (some (t110.toList != a0.toList))))) = some r := H
      have A6 := Aside0.mk A60
      clear A60
      by_cases c7 : t109 ≥ 0
      · rw [if_pos c7] at H
        have c7b0 : decide (0 ≤ t109) = true := decide_eq_true c7
        clear c7
        obtain rfl := Option.some.inj H
        go_enter Try.func5, Try.ntmps5
        go_wp2_with (first | ((with_reducible refine gate_callee (f := 9) rfl ?_); refine goesL_ (some 4) rfl rfl Try.func9 (by kernel_rfl) rfl #[.string a0, .int .u8 47] rfl (by (try simp only [List.map_toArray, List.map_cons, List.map_nil]); first | done | rfl | (simp only [List.length_drop, List.length_take]; rfl)) ?_; (with_reducible refine (spec_RefFirst.calls k a0 47 t107 _ A2.out).mono ?_); rintro e w' ⟨rfl, ⟨nd, rfl⟩⟩; refine ⟨_, rfl, ?_⟩) | (go_at_call 9; (with_reducible refine (spec_RefFirst.calls k a0 46 t108 _ A4.out).mono ?_); rintro e w' ⟨rfl, ⟨nd, rfl⟩⟩) | (go_at_call 9; (with_reducible refine (spec_RefFirst.calls k a0 58 t109 _ A6.out).mono ?_); rintro e w' ⟨rfl, ⟨nd, rfl⟩⟩))
        go_ret
        exact ⟨by first | rfl | (simp [errW_none, errW_some] <;> rfl) | (simp [*, errW_none, errW_some] <;> rfl), by repeat (first | (with_reducible first | exact HB.out | apply below_alloc | apply pw_below_drewN | apply below_drew1) | exact HB.out)⟩
      · rw [if_neg c7] at H
        have c7b0 : decide (0 ≤ t109) = false := decide_eq_false c7
        clear c7
        by_cases c8 : a0.toList = ([108, 111, 99, 97, 108, 104, 111, 115, 116] : List UInt8)
        · rw [if_pos c8] at H
          have c8b0 : (a0.toList == ([108, 111, 99, 97, 108, 104, 111, 115, 116] : List UInt8)) = true := beq_iff_eq.mpr c8
          have c8b1 : (a0.toList != ([108, 111, 99, 97, 108, 104, 111, 115, 116] : List UInt8)) = false := bne_eq_false_iff_eq.mpr c8
          clear c8
          obtain rfl := Option.some.inj H
          go_enter Try.func5, Try.ntmps5
          go_wp2_with (first | ((with_reducible refine gate_callee (f := 9) rfl ?_); refine goesL_ (some 4) rfl rfl Try.func9 (by kernel_rfl) rfl #[.string a0, .int .u8 47] rfl (by (try simp only [List.map_toArray, List.map_cons, List.map_nil]); first | done | rfl | (simp only [List.length_drop, List.length_take]; rfl)) ?_; (with_reducible refine (spec_RefFirst.calls k a0 47 t107 _ A2.out).mono ?_); rintro e w' ⟨rfl, ⟨nd, rfl⟩⟩; refine ⟨_, rfl, ?_⟩) | (go_at_call 9; (with_reducible refine (spec_RefFirst.calls k a0 46 t108 _ A4.out).mono ?_); rintro e w' ⟨rfl, ⟨nd, rfl⟩⟩) | (go_at_call 9; (with_reducible refine (spec_RefFirst.calls k a0 58 t109 _ A6.out).mono ?_); rintro e w' ⟨rfl, ⟨nd, rfl⟩⟩))
          go_ret
          exact ⟨by first | rfl | (simp [errW_none, errW_some] <;> rfl) | (simp [*, errW_none, errW_some] <;> rfl), by repeat (first | (with_reducible first | exact HB.out | apply below_alloc | apply pw_below_drewN | apply below_drew1) | exact HB.out)⟩
        · rw [if_neg c8] at H
          have c8b0 : (a0.toList == ([108, 111, 99, 97, 108, 104, 111, 115, 116] : List UInt8)) = false := beq_eq_false_iff_ne.mpr c8
          have c8b1 : (a0.toList != ([108, 111, 99, 97, 108, 104, 111, 115, 116] : List UInt8)) = true := bne_iff_ne.mpr c8
          replace H := Option.bind_eq_some_iff.mp H
          obtain ⟨t110, A90, H⟩ := H
          replace H : (some (t110.toList != a0.toList)) = some r := H
          have A9 := Aside0.mk A90
          clear A90
          obtain rfl := Option.some.inj H
          go_enter Try.func5, Try.ntmps5
          go_wp2_with (first | ((with_reducible refine gate_callee (f := 9) rfl ?_); refine goesL_ (some 4) rfl rfl Try.func9 (by kernel_rfl) rfl #[.string a0, .int .u8 47] rfl (by (try simp only [List.map_toArray, List.map_cons, List.map_nil]); first | done | rfl | (simp only [List.length_drop, List.length_take]; rfl)) ?_; (with_reducible refine (spec_RefFirst.calls k a0 47 t107 _ A2.out).mono ?_); rintro e w' ⟨rfl, ⟨nd, rfl⟩⟩; refine ⟨_, rfl, ?_⟩) | (go_at_call 9; (with_reducible refine (spec_RefFirst.calls k a0 46 t108 _ A4.out).mono ?_); rintro e w' ⟨rfl, ⟨nd, rfl⟩⟩) | (go_at_call 9; (with_reducible refine (spec_RefFirst.calls k a0 58 t109 _ A6.out).mono ?_); rintro e w' ⟨rfl, ⟨nd, rfl⟩⟩) | (go_at_call 10; (with_reducible refine (spec_RefSmall.calls k a0 t110 _ A9.out).mono ?_); rintro e w10 ⟨rfl, hb⟩; have n0_ := Aside0.mk (below_step (by repeat (first | (with_reducible first | exact HB.out | apply below_alloc | apply pw_below_drewN | apply below_drew1) | exact HB.out)) hb); clear HB; have HB := n0_; clear n0_; (try clear hb); (try clear hb2); (try clear hk); (try clear hi)))
          go_ret
          exact ⟨by first | rfl | (simp [errW_none, errW_some] <;> rfl) | (simp [*, errW_none, errW_some] <;> rfl), by repeat (first | (with_reducible first | exact HB.out | apply below_alloc | apply pw_below_drewN | apply below_drew1) | exact HB.out)⟩
  · rw [if_neg c3] at H
    have c3b0 : decide (t107 < 0) = false := decide_eq_false c3
    clear c3
    obtain rfl := Option.some.inj H
    go_enter Try.func5, Try.ntmps5
    go_wp2_with (first | ((with_reducible refine gate_callee (f := 9) rfl ?_); refine goesL_ (some 4) rfl rfl Try.func9 (by kernel_rfl) rfl #[.string a0, .int .u8 47] rfl (by (try simp only [List.map_toArray, List.map_cons, List.map_nil]); first | done | rfl | (simp only [List.length_drop, List.length_take]; rfl)) ?_; (with_reducible refine (spec_RefFirst.calls k a0 47 t107 _ A2.out).mono ?_); rintro e w' ⟨rfl, ⟨nd, rfl⟩⟩; refine ⟨_, rfl, ?_⟩))
    go_ret
    exact ⟨by first | rfl | (simp [errW_none, errW_some] <;> rfl) | (simp [*, errW_none, errW_some] <;> rfl), by repeat (first | (with_reducible first | exact HB.out | apply below_alloc | apply pw_below_drewN | apply below_drew1) | exact HB.out)⟩

/-! ### spec_RefFamiliarize: function 11 -/
def spec_RefFamiliarize.f (k : Nat) (a0 : ByteArray) (a1 : ByteArray) : Option (ByteArray × ByteArray) := if a0.toList = ([100, 111, 99, 107, 101, 114, 46, 105, 111] : List UInt8) then (if (a1.size : Int) ≥ 8 then (if 0 ≤ 8 then (if 8 ≤ (a1.size : Int) then (if (a1.extract 0 8).toList = ([108, 105, 98, 114, 97, 114, 121, 47] : List UInt8) then ((spec_RefFirst.f k (a1.extract 8 a1.size) 47).bind fun t111 => (if t111 < 0 then (some ((⟨#[]⟩ : ByteArray), a1.extract 8 a1.size)) else (some ((⟨#[]⟩ : ByteArray), a1)))) else (some ((⟨#[]⟩ : ByteArray), a1))) else (none)) else (none)) else (some ((⟨#[]⟩ : ByteArray), a1))) else (some (a0, a1))
theorem spec_RefFamiliarize.mono : ∀ a0 a1 k, LeO (spec_RefFamiliarize.f k a0 a1) (spec_RefFamiliarize.f (k + 1) a0 a1) := by
  intro a0 a1 k
  unfold spec_RefFamiliarize.f
  repeat' first
      | (with_reducible exact spec_RefFirst.mono _ _ _)
      | (with_reducible exact LeO.refl _)
      | (with_reducible exact LeO.none _)
      | (with_reducible refine LeO.ite ?_ ?_)
      | (with_reducible refine LeO.bind ?_ (fun _ => ?_))
      | exact spec_RefFirst.mono _ _ _
      | exact LeO.none _
      | refine LeO.ite ?_ ?_
      | refine LeO.bind ?_ (fun _ => ?_)
set_option maxHeartbeats 8000000 in
set_option maxRecDepth 100000 in
theorem spec_RefFamiliarize.calls (k : Nat) (a0 : ByteArray) (a1 : ByteArray) (r1 : ByteArray) (r2 : ByteArray) (w : World) (h : spec_RefFamiliarize.f k a0 a1 = some (r1, r2)) :
    Calls Try.prog 11 #[.string a0, .string a1] w fun e w' => e = .returned (.tuple #[.string r1, .string r2]) ∧ Drawn0 w w' := by
  have H : (if a0.toList = ([100, 111, 99, 107, 101, 114, 46, 105, 111] : List UInt8) then (if (a1.size : Int) ≥ 8 then (if 0 ≤ 8 then (if 8 ≤ (a1.size : Int) then (if (a1.extract 0 8).toList = ([108, 105, 98, 114, 97, 114, 121, 47] : List UInt8) then ((spec_RefFirst.f k (a1.extract 8 a1.size) 47).bind fun t111 => (if t111 < 0 then (some ((⟨#[]⟩ : ByteArray), a1.extract 8 a1.size)) else (some ((⟨#[]⟩ : ByteArray), a1)))) else (some ((⟨#[]⟩ : ByteArray), a1))) else (none)) else (none)) else (some ((⟨#[]⟩ : ByteArray), a1))) else (some (a0, a1))) = some (r1, r2) := h
  clear h
  by_cases c3 : a0.toList = ([100, 111, 99, 107, 101, 114, 46, 105, 111] : List UInt8)
  · rw [if_pos c3] at H
    have c3b0 : (a0.toList == ([100, 111, 99, 107, 101, 114, 46, 105, 111] : List UInt8)) = true := beq_iff_eq.mpr c3
    have c3b1 : (a0.toList != ([100, 111, 99, 107, 101, 114, 46, 105, 111] : List UInt8)) = false := bne_eq_false_iff_eq.mpr c3
    clear c3
    by_cases c4 : (a1.size : Int) ≥ 8
    · rw [if_pos c4] at H
      have c4b0 : decide (8 ≤ (a1.size : Int)) = true := decide_eq_true c4
      have c4b1 : decide (8 ≤ a1.size) = true := decide_eq_true (by omega)
      clear c4
      by_cases c5 : 0 ≤ 8
      · rw [if_pos c5] at H
        have c5b0 := eq_true c5
        have c5b1 : decide (0 ≤ 8) = true := decide_eq_true c5
        clear c5
        by_cases c6 : 8 ≤ (a1.size : Int)
        · rw [if_pos c6] at H
          have c6b0 := eq_true c6
          have c6b1 : decide (8 ≤ (a1.size : Int)) = true := decide_eq_true c6
          clear c6
          by_cases c7 : (a1.extract 0 8).toList = ([108, 105, 98, 114, 97, 114, 121, 47] : List UInt8)
          · rw [if_pos c7] at H
            have c7b0 : ((a1.extract 0 8).toList == ([108, 105, 98, 114, 97, 114, 121, 47] : List UInt8)) = true := beq_iff_eq.mpr c7
            have c7b1 : ((a1.extract 0 8).toList != ([108, 105, 98, 114, 97, 114, 121, 47] : List UInt8)) = false := bne_eq_false_iff_eq.mpr c7
            clear c7
            have c8b0 := eq_true (of_decide_eq_true (by first | (with_reducible assumption) | assumption) : 8 ≤ (a1.size : Int))
            replace H := Option.bind_eq_some_iff.mp H
            obtain ⟨t111, A90, H⟩ := H
            replace H : (if t111 < 0 then (some ((⟨#[]⟩ : ByteArray), a1.extract 8 a1.size)) else (some ((⟨#[]⟩ : ByteArray), a1))) = some (r1, r2) := H
            have A9 := Aside0.mk A90
            clear A90
            by_cases c10 : t111 < 0
            · rw [if_pos c10] at H
              have c10b0 : decide (t111 < 0) = true := decide_eq_true c10
              clear c10
              have c11b0 := eq_true (of_decide_eq_true (by first | (with_reducible assumption) | assumption) : 8 ≤ (a1.size : Int))
              simp only [Option.some.injEq, Prod.mk.injEq] at H
              obtain ⟨rfl, rfl⟩ := H
              go_enter Try.func11, Try.ntmps11
              go_wp2_with (first | (go_at_call 9; (with_reducible refine (spec_RefFirst.calls k (a1.extract 8 a1.size) 47 t111 _ A9.out).mono ?_); rintro e w' ⟨rfl, ⟨nd, rfl⟩⟩))
              go_ret2
              exact ⟨by first | rfl | (simp; done) | (simp [*]; done) | (simp [nil_bne]; done), by repeat (first | exact Drawn0.refl _ | apply Drawn0.step)⟩
            · rw [if_neg c10] at H
              have c10b0 : decide (t111 < 0) = false := decide_eq_false c10
              clear c10
              simp only [Option.some.injEq, Prod.mk.injEq] at H
              obtain ⟨rfl, rfl⟩ := H
              go_enter Try.func11, Try.ntmps11
              go_wp2_with (first | (go_at_call 9; (with_reducible refine (spec_RefFirst.calls k (a1.extract 8 a1.size) 47 t111 _ A9.out).mono ?_); rintro e w' ⟨rfl, ⟨nd, rfl⟩⟩))
              go_ret2
              exact ⟨by first | rfl | (simp; done) | (simp [*]; done) | (simp [nil_bne]; done), by repeat (first | exact Drawn0.refl _ | apply Drawn0.step)⟩
          · rw [if_neg c7] at H
            have c7b0 : ((a1.extract 0 8).toList == ([108, 105, 98, 114, 97, 114, 121, 47] : List UInt8)) = false := beq_eq_false_iff_ne.mpr c7
            have c7b1 : ((a1.extract 0 8).toList != ([108, 105, 98, 114, 97, 114, 121, 47] : List UInt8)) = true := bne_iff_ne.mpr c7
            simp only [Option.some.injEq, Prod.mk.injEq] at H
            obtain ⟨rfl, rfl⟩ := H
            go_enter Try.func11, Try.ntmps11
            go_wp2
            go_ret2
            exact ⟨by first | rfl | (simp; done) | (simp [*]; done) | (simp [nil_bne]; done), by repeat (first | exact Drawn0.refl _ | apply Drawn0.step)⟩
        · rw [if_neg c6] at H
          exact absurd H (by simp)
      · rw [if_neg c5] at H
        exact absurd H (by simp)
    · rw [if_neg c4] at H
      have c4b0 : decide (8 ≤ (a1.size : Int)) = false := decide_eq_false c4
      have c4b1 : decide (8 ≤ a1.size) = false := decide_eq_false (by omega)
      clear c4
      simp only [Option.some.injEq, Prod.mk.injEq] at H
      obtain ⟨rfl, rfl⟩ := H
      go_enter Try.func11, Try.ntmps11
      go_wp2
      go_ret2
      exact ⟨by first | rfl | (simp; done) | (simp [*]; done) | (simp [nil_bne]; done), by repeat (first | exact Drawn0.refl _ | apply Drawn0.step)⟩
  · rw [if_neg c3] at H
    have c3b0 : (a0.toList == ([100, 111, 99, 107, 101, 114, 46, 105, 111] : List UInt8)) = false := beq_eq_false_iff_ne.mpr c3
    have c3b1 : (a0.toList != ([100, 111, 99, 107, 101, 114, 46, 105, 111] : List UInt8)) = true := bne_iff_ne.mpr c3
    simp only [Option.some.injEq, Prod.mk.injEq] at H
    obtain ⟨rfl, rfl⟩ := H
    go_enter Try.func11, Try.ntmps11
    go_wp2
    go_ret2
    exact ⟨by first | rfl | (simp; done) | (simp [*]; done) | (simp [nil_bne]; done), by repeat (first | exact Drawn0.refl _ | apply Drawn0.step)⟩

/-! ### laws_refHubPath: function 6 -/
def laws_refHubPath.f (k : Nat) (a0 : ByteArray) : Option (Bool) := (spec_RefFamiliarize.f k (⟨#[100, 111, 99, 107, 101, 114, 46, 105, 111]⟩ : ByteArray) a0).bind fun bt112 => ((spec_RefFirst.f k bt112.2 47).bind fun t114 => ((spec_RefFirst.f k a0 47).bind fun t115 => (if t115 ≥ 0 then (if t114 < 0 then (some true) else (if 0 ≤ t114 then (if t114 ≤ (bt112.2.size : Int) then ((laws_refTakes.f k (bt112.2.extract 0 (t114 : Int).toNat)).bind fun t116 => (some (!t116))) else (none)) else (none))) else (some false))))
theorem laws_refHubPath.mono : ∀ a0 k, LeO (laws_refHubPath.f k a0) (laws_refHubPath.f (k + 1) a0) := by
  intro a0 k
  unfold laws_refHubPath.f
  repeat' first
      | (with_reducible exact laws_refTakes.mono _ _)
      | (with_reducible exact spec_RefFamiliarize.mono _ _ _)
      | (with_reducible exact spec_RefFirst.mono _ _ _)
      | (with_reducible exact LeO.refl _)
      | (with_reducible exact LeO.none _)
      | (with_reducible refine LeO.ite ?_ ?_)
      | (with_reducible refine LeO.bind ?_ (fun _ => ?_))
      | exact laws_refTakes.mono _ _
      | exact spec_RefFamiliarize.mono _ _ _
      | exact spec_RefFirst.mono _ _ _
      | exact LeO.none _
      | refine LeO.ite ?_ ?_
      | refine LeO.bind ?_ (fun _ => ?_)
set_option maxHeartbeats 8000000 in
set_option maxRecDepth 100000 in
theorem laws_refHubPath.calls (k : Nat) (a0 : ByteArray) (r : Bool) (w : World) (h : laws_refHubPath.f k a0 = some r) :
    Calls Try.prog 6 #[.string a0] w fun e w' => e = .returned (.bool r) ∧ Below w.heap.size w w' := by
  have HB := Aside0.mk (Below.refl w.heap.size w)
  have H : ((spec_RefFamiliarize.f k (⟨#[100, 111, 99, 107, 101, 114, 46, 105, 111]⟩ : ByteArray) a0).bind fun bt112 => ((spec_RefFirst.f k bt112.2 47).bind fun t114 => ((spec_RefFirst.f k a0 47).bind fun t115 => (if t115 ≥ 0 then (if t114 < 0 then (some true) else (if 0 ≤ t114 then (if t114 ≤ (bt112.2.size : Int) then ((laws_refTakes.f k (bt112.2.extract 0 (t114 : Int).toNat)).bind fun t116 => (some (!t116))) else (none)) else (none))) else (some false))))) = some r := h
  clear h
  replace H := Option.bind_eq_some_iff.mp H
  obtain ⟨⟨t112, t113⟩, A20, H⟩ := H
  replace H : ((spec_RefFirst.f k t113 47).bind fun t114 => ((spec_RefFirst.f k a0 47).bind fun t115 => (if t115 ≥ 0 then (if t114 < 0 then (some true) else (if 0 ≤ t114 then (if t114 ≤ (t113.size : Int) then ((laws_refTakes.f k (t113.extract 0 (t114 : Int).toNat)).bind fun t116 => (some (!t116))) else (none)) else (none))) else (some false)))) = some r := H
  have A2 := Aside0.mk A20
  clear A20
  replace H := Option.bind_eq_some_iff.mp H
  obtain ⟨t114, A30, H⟩ := H
  replace H : ((spec_RefFirst.f k a0 47).bind fun t115 => (if t115 ≥ 0 then (if t114 < 0 then (some true) else (if 0 ≤ t114 then (if t114 ≤ (t113.size : Int) then ((laws_refTakes.f k (t113.extract 0 (t114 : Int).toNat)).bind fun t116 => (some (!t116))) else (none)) else (none))) else (some false))) = some r := H
  have A3 := Aside0.mk A30
  clear A30
  replace H := Option.bind_eq_some_iff.mp H
  obtain ⟨t115, A40, H⟩ := H
  replace H : (if t115 ≥ 0 then (if t114 < 0 then (some true) else (if 0 ≤ t114 then (if t114 ≤ (t113.size : Int) then ((laws_refTakes.f k (t113.extract 0 (t114 : Int).toNat)).bind fun t116 => (some (!t116))) else (none)) else (none))) else (some false)) = some r := H
  have A4 := Aside0.mk A40
  clear A40
  by_cases c5 : t115 ≥ 0
  · rw [if_pos c5] at H
    have c5b0 : decide (0 ≤ t115) = true := decide_eq_true c5
    clear c5
    by_cases c6 : t114 < 0
    · rw [if_pos c6] at H
      have c6b0 : decide (t114 < 0) = true := decide_eq_true c6
      clear c6
      obtain rfl := Option.some.inj H
      go_enter Try.func6, Try.ntmps6
      go_wp2_with (first | ((with_reducible refine gate_callee (f := 11) rfl ?_); refine goesL_ (some 8) rfl rfl Try.func11 (by kernel_rfl) rfl #[.string (⟨#[100, 111, 99, 107, 101, 114, 46, 105, 111]⟩ : ByteArray), .string a0] rfl (by (try simp only [List.map_toArray, List.map_cons, List.map_nil]); first | done | rfl | (simp only [List.length_drop, List.length_take]; rfl)) ?_; (with_reducible refine (spec_RefFamiliarize.calls k (⟨#[100, 111, 99, 107, 101, 114, 46, 105, 111]⟩ : ByteArray) a0 t112 t113 _ A2.out).mono ?_); rintro e w' ⟨rfl, ⟨nd, rfl⟩⟩; refine ⟨_, rfl, ?_⟩) | ((with_reducible refine gate_callee (f := 9) rfl ?_); refine goesL_ (some 12) rfl rfl Try.func9 (by kernel_rfl) rfl #[.string t113, .int .u8 47] rfl (by (try simp only [List.map_toArray, List.map_cons, List.map_nil]); first | done | rfl | (simp only [List.length_drop, List.length_take]; rfl)) ?_; (with_reducible refine (spec_RefFirst.calls k t113 47 t114 _ A3.out).mono ?_); rintro e w' ⟨rfl, ⟨nd, rfl⟩⟩; refine ⟨_, rfl, ?_⟩) | ((with_reducible refine gate_callee (f := 9) rfl ?_); refine goesL_ (some 14) rfl rfl Try.func9 (by kernel_rfl) rfl #[.string a0, .int .u8 47] rfl (by (try simp only [List.map_toArray, List.map_cons, List.map_nil]); first | done | rfl | (simp only [List.length_drop, List.length_take]; rfl)) ?_; (with_reducible refine (spec_RefFirst.calls k a0 47 t115 _ A4.out).mono ?_); rintro e w' ⟨rfl, ⟨nd, rfl⟩⟩; refine ⟨_, rfl, ?_⟩))
      go_ret
      exact ⟨by first | rfl | (simp [errW_none, errW_some] <;> rfl) | (simp [*, errW_none, errW_some] <;> rfl), by repeat (first | (with_reducible first | exact HB.out | apply below_alloc | apply pw_below_drewN | apply below_drew1) | exact HB.out)⟩
    · rw [if_neg c6] at H
      have c6b0 : decide (t114 < 0) = false := decide_eq_false c6
      clear c6
      by_cases c7 : 0 ≤ t114
      · rw [if_pos c7] at H
        have c7b0 := eq_true c7
        have c7b1 : decide (0 ≤ t114) = true := decide_eq_true c7
        clear c7
        by_cases c8 : t114 ≤ (t113.size : Int)
        · rw [if_pos c8] at H
          have c8b0 := eq_true c8
          have c8b1 : decide (t114 ≤ (t113.size : Int)) = true := decide_eq_true c8
          clear c8
          replace H := Option.bind_eq_some_iff.mp H
          obtain ⟨t116, A90, H⟩ := H
          replace H : (some (!t116)) = some r := H
          have A9 := Aside0.mk A90
          clear A90
          obtain rfl := Option.some.inj H
          go_enter Try.func6, Try.ntmps6
          go_wp2_with (first | ((with_reducible refine gate_callee (f := 11) rfl ?_); refine goesL_ (some 8) rfl rfl Try.func11 (by kernel_rfl) rfl #[.string (⟨#[100, 111, 99, 107, 101, 114, 46, 105, 111]⟩ : ByteArray), .string a0] rfl (by (try simp only [List.map_toArray, List.map_cons, List.map_nil]); first | done | rfl | (simp only [List.length_drop, List.length_take]; rfl)) ?_; (with_reducible refine (spec_RefFamiliarize.calls k (⟨#[100, 111, 99, 107, 101, 114, 46, 105, 111]⟩ : ByteArray) a0 t112 t113 _ A2.out).mono ?_); rintro e w' ⟨rfl, ⟨nd, rfl⟩⟩; refine ⟨_, rfl, ?_⟩) | ((with_reducible refine gate_callee (f := 9) rfl ?_); refine goesL_ (some 12) rfl rfl Try.func9 (by kernel_rfl) rfl #[.string t113, .int .u8 47] rfl (by (try simp only [List.map_toArray, List.map_cons, List.map_nil]); first | done | rfl | (simp only [List.length_drop, List.length_take]; rfl)) ?_; (with_reducible refine (spec_RefFirst.calls k t113 47 t114 _ A3.out).mono ?_); rintro e w' ⟨rfl, ⟨nd, rfl⟩⟩; refine ⟨_, rfl, ?_⟩) | ((with_reducible refine gate_callee (f := 9) rfl ?_); refine goesL_ (some 14) rfl rfl Try.func9 (by kernel_rfl) rfl #[.string a0, .int .u8 47] rfl (by (try simp only [List.map_toArray, List.map_cons, List.map_nil]); first | done | rfl | (simp only [List.length_drop, List.length_take]; rfl)) ?_; (with_reducible refine (spec_RefFirst.calls k a0 47 t115 _ A4.out).mono ?_); rintro e w' ⟨rfl, ⟨nd, rfl⟩⟩; refine ⟨_, rfl, ?_⟩) | (go_at_call 5; (with_reducible refine (laws_refTakes.calls k (t113.extract 0 (t114 : Int).toNat) t116 _ A9.out).mono ?_); rintro e w10 ⟨rfl, hb⟩; have n0_ := Aside0.mk (below_step (by repeat (first | (with_reducible first | exact HB.out | apply below_alloc | apply pw_below_drewN | apply below_drew1) | exact HB.out)) hb); clear HB; have HB := n0_; clear n0_; (try clear hb); (try clear hb2); (try clear hk); (try clear hi)))
          go_ret
          exact ⟨by first | rfl | (simp [errW_none, errW_some] <;> rfl) | (simp [*, errW_none, errW_some] <;> rfl), by repeat (first | (with_reducible first | exact HB.out | apply below_alloc | apply pw_below_drewN | apply below_drew1) | exact HB.out)⟩
        · rw [if_neg c8] at H
          exact absurd H (by simp)
      · rw [if_neg c7] at H
        exact absurd H (by simp)
  · rw [if_neg c5] at H
    have c5b0 : decide (0 ≤ t115) = false := decide_eq_false c5
    clear c5
    obtain rfl := Option.some.inj H
    go_enter Try.func6, Try.ntmps6
    go_wp2_with (first | ((with_reducible refine gate_callee (f := 11) rfl ?_); refine goesL_ (some 8) rfl rfl Try.func11 (by kernel_rfl) rfl #[.string (⟨#[100, 111, 99, 107, 101, 114, 46, 105, 111]⟩ : ByteArray), .string a0] rfl (by (try simp only [List.map_toArray, List.map_cons, List.map_nil]); first | done | rfl | (simp only [List.length_drop, List.length_take]; rfl)) ?_; (with_reducible refine (spec_RefFamiliarize.calls k (⟨#[100, 111, 99, 107, 101, 114, 46, 105, 111]⟩ : ByteArray) a0 t112 t113 _ A2.out).mono ?_); rintro e w' ⟨rfl, ⟨nd, rfl⟩⟩; refine ⟨_, rfl, ?_⟩) | ((with_reducible refine gate_callee (f := 9) rfl ?_); refine goesL_ (some 12) rfl rfl Try.func9 (by kernel_rfl) rfl #[.string t113, .int .u8 47] rfl (by (try simp only [List.map_toArray, List.map_cons, List.map_nil]); first | done | rfl | (simp only [List.length_drop, List.length_take]; rfl)) ?_; (with_reducible refine (spec_RefFirst.calls k t113 47 t114 _ A3.out).mono ?_); rintro e w' ⟨rfl, ⟨nd, rfl⟩⟩; refine ⟨_, rfl, ?_⟩) | ((with_reducible refine gate_callee (f := 9) rfl ?_); refine goesL_ (some 14) rfl rfl Try.func9 (by kernel_rfl) rfl #[.string a0, .int .u8 47] rfl (by (try simp only [List.map_toArray, List.map_cons, List.map_nil]); first | done | rfl | (simp only [List.length_drop, List.length_take]; rfl)) ?_; (with_reducible refine (spec_RefFirst.calls k a0 47 t115 _ A4.out).mono ?_); rintro e w' ⟨rfl, ⟨nd, rfl⟩⟩; refine ⟨_, rfl, ?_⟩))
    go_ret
    exact ⟨by first | rfl | (simp [errW_none, errW_some] <;> rfl) | (simp [*, errW_none, errW_some] <;> rfl), by repeat (first | (with_reducible first | exact HB.out | apply below_alloc | apply pw_below_drewN | apply below_drew1) | exact HB.out)⟩

-- GIVEN: function 12 (reference_ZZFamiliarize)

/-! ### impl_RefFamiliarize: function 7 -/
def impl_RefFamiliarize.f (a0 : ByteArray) (a1 : ByteArray) : Option (ByteArray × ByteArray) := (reference_ZZFamiliarize.f a0 a1).bind fun bt117 => (some (bt117.1, bt117.2))
set_option maxHeartbeats 8000000 in
set_option maxRecDepth 100000 in
theorem impl_RefFamiliarize.calls (a0 : ByteArray) (a1 : ByteArray) (r1 : ByteArray) (r2 : ByteArray) (w : World) (h : impl_RefFamiliarize.f a0 a1 = some (r1, r2)) :
    Calls Try.prog 7 #[.string a0, .string a1] w fun e w' => e = .returned (.tuple #[.string r1, .string r2]) ∧ Below w.heap.size w w' := by
  have HB := Aside0.mk (Below.refl w.heap.size w)
  have H : ((reference_ZZFamiliarize.f a0 a1).bind fun bt117 => (some (bt117.1, bt117.2))) = some (r1, r2) := h
  clear h
  replace H := Option.bind_eq_some_iff.mp H
  obtain ⟨⟨t117, t118⟩, A30, H⟩ := H
  replace H : (some (t117, t118)) = some (r1, r2) := H
  have A3 := Aside0.mk A30
  clear A30
  simp only [Option.some.injEq, Prod.mk.injEq] at H
  obtain ⟨rfl, rfl⟩ := H
  go_enter Try.func7, Try.ntmps7
  go_wp2_with (first | ((with_reducible refine gate_callee (f := 12) rfl ?_); refine goesL_ (some 8) rfl rfl Try.func12 (by kernel_rfl) rfl #[.string a0, .string a1] rfl (by (try simp only [List.map_toArray, List.map_cons, List.map_nil]); first | done | rfl | (simp only [List.length_drop, List.length_take]; rfl)) ?_; (with_reducible refine (reference_ZZFamiliarize.calls a0 a1 t117 t118 _ A3.out).mono ?_); rintro e w4 ⟨rfl, hb⟩; refine ⟨_, rfl, ?_⟩; have n0_ := Aside0.mk (below_step (by repeat (first | (with_reducible first | exact HB.out | apply below_alloc | apply pw_below_drewN | apply below_drew1) | exact HB.out)) hb); clear HB; have HB := n0_; clear n0_; (try clear hb); (try clear hb2); (try clear hk); (try clear hi)))
  go_ret2
  exact ⟨by first | rfl | (simp [errW_none, errW_some] <;> rfl) | (simp [*, errW_none, errW_some] <;> rfl), by repeat (first | (with_reducible first | exact HB.out | apply below_alloc | apply pw_below_drewN | apply below_drew1) | exact HB.out)⟩

-- GIVEN: function 18 (reference_zzContainsRune)

/-! ### reference_zzIndex: function 25 -/
def reference_zzIndex.l0 : Nat → ByteArray → ByteArray → Int → Option (Int)
  | 0, _, _, _ => none
  | k + 1, x0, x1, x5 => if (wrap64 (x5 + (x1.size : Int))) ≤ (x0.size : Int) then (if 0 ≤ x5 then (if x5 ≤ (wrap64 (x5 + (x1.size : Int))) then (if (x0.extract (x5 : Int).toNat ((wrap64 (x5 + (x1.size : Int))) : Int).toNat).toList = x1.toList then (some x5) else (reference_zzIndex.l0 k x0 x1 (wrap64 (x5 + 1)))) else (none)) else (none)) else (some (-1))
def reference_zzIndex.f (k : Nat) (a0 : ByteArray) (a1 : ByteArray) : Option (Int) := reference_zzIndex.l0 k a0 a1 0
theorem reference_zzIndex.mono_l : ∀ k, (∀ y0 y1 y2, LeO (reference_zzIndex.l0 k y0 y1 y2) (reference_zzIndex.l0 (k + 1) y0 y1 y2))
  | 0 => fun _ _ _ r h => by simp [reference_zzIndex.l0] at h
  | k + 1 => by
    have ih0 := reference_zzIndex.mono_l k
    · intro y0 y1 y2
      unfold reference_zzIndex.l0
      repeat' first
      | (with_reducible exact ih0 _ _ _)
      | (with_reducible exact LeO.refl _)
      | (with_reducible exact LeO.none _)
      | (with_reducible refine LeO.ite ?_ ?_)
      | (with_reducible refine LeO.bind ?_ (fun _ => ?_))
      | exact ih0 _ _ _
      | exact LeO.none _
      | refine LeO.ite ?_ ?_
      | refine LeO.bind ?_ (fun _ => ?_)
theorem reference_zzIndex.mono : ∀ a0 a1 k, LeO (reference_zzIndex.f k a0 a1) (reference_zzIndex.f (k + 1) a0 a1) := by
  intro a0 a1 k
  have ih0 := reference_zzIndex.mono_l k
  unfold reference_zzIndex.f
  repeat' first
      | (with_reducible exact ih0 _ _ _)
      | (with_reducible exact LeO.refl _)
      | (with_reducible exact LeO.none _)
      | (with_reducible refine LeO.ite ?_ ?_)
      | (with_reducible refine LeO.bind ?_ (fun _ => ?_))
      | exact ih0 _ _ _
      | exact LeO.none _
      | refine LeO.ite ?_ ?_
      | refine LeO.bind ?_ (fun _ => ?_)
set_option maxHeartbeats 8000000 in
set_option maxRecDepth 100000 in
theorem reference_zzIndex.calls (k : Nat) (a0 : ByteArray) (a1 : ByteArray) (r : Int) (w : World) (h : reference_zzIndex.f k a0 a1 = some r) :
    Calls Try.prog 25 #[.string a0, .string a1] w fun e w' => e = .returned (.int .i64 r) ∧ Drawn0 w w' := by
  have H : (reference_zzIndex.l0 k a0 a1 0) = some r := h
  clear h
  have H' := Aside0.mk H
  clear H
  go_enter Try.func25, Try.ntmps25
  go_wp2
  go_loopg [5] k (fun kq v5 w' => ∃ (x5_1 : Int), v5 = .int .i64 x5_1 ∧ Aside0 (reference_zzIndex.l0 kq a0 a1 x5_1 = some r) ∧ Aside0 (kq ≤ k) ∧ Drawn0 w w')
  case atStart => exact ⟨(0), (by first | rfl | (simp; done) | (simp [*]; done) | (simp [nil_bne]; done)), H', ⟨Nat.le_refl _⟩, by repeat (first | exact Drawn0.refl _ | apply Drawn0.step)⟩
  case round =>
    clear H'
    try clear c2
    try clear p2
    obtain ⟨x5_1, rfl, HA, HK1, ⟨m1, rfl⟩⟩ := hrel
    cases gk with
    | zero => exact absurd HA.out (by simp [reference_zzIndex.l0])
    | succ k1 =>
      have H := HA.out
      clear HA
      simp only [reference_zzIndex.l0] at H
      by_cases c3 : (wrap64 (x5_1 + (a1.size : Int))) ≤ (a0.size : Int)
      · rw [if_pos c3] at H
        have c3b0 : decide ((wrap64 (x5_1 + (a1.size : Int))) ≤ (a0.size : Int)) = true := decide_eq_true c3
        clear c3
        by_cases c4 : 0 ≤ x5_1
        · rw [if_pos c4] at H
          have c4b0 := eq_true c4
          have c4b1 : decide (0 ≤ x5_1) = true := decide_eq_true c4
          clear c4
          by_cases c5 : x5_1 ≤ (wrap64 (x5_1 + (a1.size : Int)))
          · rw [if_pos c5] at H
            have c5b0 := eq_true c5
            have c5b1 : decide (x5_1 ≤ (wrap64 (x5_1 + (a1.size : Int)))) = true := decide_eq_true c5
            have c6b0 := eq_true (of_decide_eq_true (by first | (with_reducible assumption) | assumption) : (wrap64 (x5_1 + (a1.size : Int))) ≤ (a0.size : Int))
            by_cases c7 : (a0.extract (x5_1 : Int).toNat ((wrap64 (x5_1 + (a1.size : Int))) : Int).toNat).toList = a1.toList
            · rw [if_pos c7] at H
              have c7b0 : ((a0.extract (x5_1 : Int).toNat ((wrap64 (x5_1 + (a1.size : Int))) : Int).toNat).toList == a1.toList) = true := beq_iff_eq.mpr c7
              have c7b1 : ((a0.extract (x5_1 : Int).toNat ((wrap64 (x5_1 + (a1.size : Int))) : Int).toNat).toList != a1.toList) = false := bne_eq_false_iff_eq.mpr c7
              clear c7
              obtain rfl := Option.some.inj H
              go_wp2
              go_ret
              exact ⟨by first | rfl | (simp; done) | (simp [*]; done) | (simp [nil_bne]; done), by repeat (first | exact Drawn0.refl _ | apply Drawn0.step)⟩
            · rw [if_neg c7] at H
              have c7b0 : ((a0.extract (x5_1 : Int).toNat ((wrap64 (x5_1 + (a1.size : Int))) : Int).toNat).toList == a1.toList) = false := beq_eq_false_iff_ne.mpr c7
              have c7b1 : ((a0.extract (x5_1 : Int).toNat ((wrap64 (x5_1 + (a1.size : Int))) : Int).toNat).toList != a1.toList) = true := bne_iff_ne.mpr c7
              have H' := Aside0.mk H
              clear H
              go_wp2
              go_roundg k1
              case measure => have := HK1.out; omega
              case rel => exact ⟨(wrap64 (x5_1 + 1)), (by first | rfl | (simp; done) | (simp [*]; done) | (simp [nil_bne]; done)), H', ⟨by have := HK1.out; omega⟩, by repeat (first | exact Drawn0.refl _ | apply Drawn0.step)⟩
          · rw [if_neg c5] at H
            exact absurd H (by simp)
        · rw [if_neg c4] at H
          exact absurd H (by simp)
      · rw [if_neg c3] at H
        have c3b0 : decide ((wrap64 (x5_1 + (a1.size : Int))) ≤ (a0.size : Int)) = false := decide_eq_false c3
        clear c3
        obtain rfl := Option.some.inj H
        go_wp2
        go_ret
        exact ⟨by first | rfl | (simp; done) | (simp [*]; done) | (simp [nil_bne]; done), by repeat (first | exact Drawn0.refl _ | apply Drawn0.step)⟩

/-! ### reference_zzCut: function 19 -/
def reference_zzCut.f (k : Nat) (a0 : ByteArray) (a1 : ByteArray) : Option (ByteArray × ByteArray × Bool) := (reference_zzIndex.f k a0 a1).bind fun t119 => (if t119 ≥ 0 then (if 0 ≤ t119 then (if t119 ≤ (a0.size : Int) then (if 0 ≤ (wrap64 (t119 + (a1.size : Int))) then (if (wrap64 (t119 + (a1.size : Int))) ≤ (a0.size : Int) then (some (a0.extract 0 (t119 : Int).toNat, a0.extract ((wrap64 (t119 + (a1.size : Int))) : Int).toNat a0.size, true)) else (none)) else (none)) else (none)) else (none)) else (some (a0, (⟨#[]⟩ : ByteArray), false)))
theorem reference_zzCut.mono : ∀ a0 a1 k, LeO (reference_zzCut.f k a0 a1) (reference_zzCut.f (k + 1) a0 a1) := by
  intro a0 a1 k
  unfold reference_zzCut.f
  repeat' first
      | (with_reducible exact reference_zzIndex.mono _ _ _)
      | (with_reducible exact LeO.refl _)
      | (with_reducible exact LeO.none _)
      | (with_reducible refine LeO.ite ?_ ?_)
      | (with_reducible refine LeO.bind ?_ (fun _ => ?_))
      | exact reference_zzIndex.mono _ _ _
      | exact LeO.none _
      | refine LeO.ite ?_ ?_
      | refine LeO.bind ?_ (fun _ => ?_)
set_option maxHeartbeats 8000000 in
set_option maxRecDepth 100000 in
theorem reference_zzCut.calls (k : Nat) (a0 : ByteArray) (a1 : ByteArray) (r1 : ByteArray) (r2 : ByteArray) (r3 : Bool) (w : World) (h : reference_zzCut.f k a0 a1 = some (r1, r2, r3)) :
    Calls Try.prog 19 #[.string a0, .string a1] w fun e w' => e = .returned (.tuple #[.string r1, .string r2, .bool r3]) ∧ Drawn0 w w' := by
  have H : ((reference_zzIndex.f k a0 a1).bind fun t119 => (if t119 ≥ 0 then (if 0 ≤ t119 then (if t119 ≤ (a0.size : Int) then (if 0 ≤ (wrap64 (t119 + (a1.size : Int))) then (if (wrap64 (t119 + (a1.size : Int))) ≤ (a0.size : Int) then (some (a0.extract 0 (t119 : Int).toNat, a0.extract ((wrap64 (t119 + (a1.size : Int))) : Int).toNat a0.size, true)) else (none)) else (none)) else (none)) else (none)) else (some (a0, (⟨#[]⟩ : ByteArray), false)))) = some (r1, r2, r3) := h
  clear h
  replace H := Option.bind_eq_some_iff.mp H
  obtain ⟨t119, A30, H⟩ := H
  replace H : (if t119 ≥ 0 then (if 0 ≤ t119 then (if t119 ≤ (a0.size : Int) then (if 0 ≤ (wrap64 (t119 + (a1.size : Int))) then (if (wrap64 (t119 + (a1.size : Int))) ≤ (a0.size : Int) then (some (a0.extract 0 (t119 : Int).toNat, a0.extract ((wrap64 (t119 + (a1.size : Int))) : Int).toNat a0.size, true)) else (none)) else (none)) else (none)) else (none)) else (some (a0, (⟨#[]⟩ : ByteArray), false))) = some (r1, r2, r3) := H
  have A3 := Aside0.mk A30
  clear A30
  by_cases c4 : t119 ≥ 0
  · rw [if_pos c4] at H
    have c4b0 : decide (0 ≤ t119) = true := decide_eq_true c4
    clear c4
    by_cases c5 : 0 ≤ t119
    · rw [if_pos c5] at H
      have c5b0 := eq_true c5
      have c5b1 : decide (0 ≤ t119) = true := decide_eq_true c5
      clear c5
      by_cases c6 : t119 ≤ (a0.size : Int)
      · rw [if_pos c6] at H
        have c6b0 := eq_true c6
        have c6b1 : decide (t119 ≤ (a0.size : Int)) = true := decide_eq_true c6
        clear c6
        obtain ⟨ji7, hji7⟩ : ∃ j_ : Int, (wrap64 (t119 + (a1.size : Int))) = j_ := ⟨_, rfl⟩
        replace H : (if 0 ≤ (ji7) then (if (ji7) ≤ (a0.size : Int) then (some (a0.extract 0 (t119 : Int).toNat, a0.extract ((ji7) : Int).toNat a0.size, true)) else (none)) else (none)) = some (r1, r2, r3) := by first | (rw [hji7] at H; exact H) | (simp only [hji7] at H ⊢; exact H)
        (try rw [hji7] at A3)
        have hji7w : (IntKind.i64.wrap (t119 + (a1.size : Int))) = ji7 := (i64_w _).trans hji7
        by_cases c8 : 0 ≤ (ji7)
        · rw [if_pos c8] at H
          have c8b0 := eq_true c8
          have c8b1 : decide (0 ≤ (ji7)) = true := decide_eq_true c8
          clear c8
          by_cases c9 : (ji7) ≤ (a0.size : Int)
          · rw [if_pos c9] at H
            have c9b0 := eq_true c9
            have c9b1 : decide ((ji7) ≤ (a0.size : Int)) = true := decide_eq_true c9
            clear c9
            simp only [Option.some.injEq, Prod.mk.injEq] at H
            obtain ⟨rfl, rfl, rfl⟩ := H
            go_enter Try.func19, Try.ntmps19
            go_wp2_with (first | (go_at_call 25; (with_reducible refine (reference_zzIndex.calls k a0 a1 t119 _ A3.out).mono ?_); rintro e w' ⟨rfl, ⟨nd, rfl⟩⟩; (try first | exact ⟨rfl, _, World.drewN_drewN _ _ _⟩ | exact ⟨rfl, _, Eq.trans (World.drewN_drewN _ _ _) (congrArg (World.drewN _) (Nat.add_assoc _ _ _))⟩)))
            repeat (go_quiet (first | (go_at_call 25; (with_reducible refine (reference_zzIndex.calls k a0 a1 t119 _ A3.out).mono ?_); rintro e w' ⟨rfl, ⟨nd, rfl⟩⟩; (try first | exact ⟨rfl, _, World.drewN_drewN _ _ _⟩ | exact ⟨rfl, _, Eq.trans (World.drewN_drewN _ _ _) (congrArg (World.drewN _) (Nat.add_assoc _ _ _))⟩))); try go_wp2_with (first | (go_at_call 25; (with_reducible refine (reference_zzIndex.calls k a0 a1 t119 _ A3.out).mono ?_); rintro e w' ⟨rfl, ⟨nd, rfl⟩⟩; (try first | exact ⟨rfl, _, World.drewN_drewN _ _ _⟩ | exact ⟨rfl, _, Eq.trans (World.drewN_drewN _ _ _) (congrArg (World.drewN _) (Nat.add_assoc _ _ _))⟩))))
            go_ret3
            exact ⟨by first | rfl | (simp; done) | (simp only [← hji7] <;> (first | rfl | simp)) | (simp [*]; done) | (simp [nil_bne]; done), by repeat (first | exact Drawn0.refl _ | apply Drawn0.step)⟩
          · rw [if_neg c9] at H
            exact absurd H (by simp)
        · rw [if_neg c8] at H
          exact absurd H (by simp)
      · rw [if_neg c6] at H
        exact absurd H (by simp)
    · rw [if_neg c5] at H
      exact absurd H (by simp)
  · rw [if_neg c4] at H
    have c4b0 : decide (0 ≤ t119) = false := decide_eq_false c4
    clear c4
    simp only [Option.some.injEq, Prod.mk.injEq] at H
    obtain ⟨rfl, rfl, rfl⟩ := H
    go_enter Try.func19, Try.ntmps19
    go_wp2_with (first | (go_at_call 25; (with_reducible refine (reference_zzIndex.calls k a0 a1 t119 _ A3.out).mono ?_); rintro e w' ⟨rfl, ⟨nd, rfl⟩⟩; (try first | exact ⟨rfl, _, World.drewN_drewN _ _ _⟩ | exact ⟨rfl, _, Eq.trans (World.drewN_drewN _ _ _) (congrArg (World.drewN _) (Nat.add_assoc _ _ _))⟩)))
    repeat (go_quiet (first | (go_at_call 25; (with_reducible refine (reference_zzIndex.calls k a0 a1 t119 _ A3.out).mono ?_); rintro e w' ⟨rfl, ⟨nd, rfl⟩⟩; (try first | exact ⟨rfl, _, World.drewN_drewN _ _ _⟩ | exact ⟨rfl, _, Eq.trans (World.drewN_drewN _ _ _) (congrArg (World.drewN _) (Nat.add_assoc _ _ _))⟩))); try go_wp2_with (first | (go_at_call 25; (with_reducible refine (reference_zzIndex.calls k a0 a1 t119 _ A3.out).mono ?_); rintro e w' ⟨rfl, ⟨nd, rfl⟩⟩; (try first | exact ⟨rfl, _, World.drewN_drewN _ _ _⟩ | exact ⟨rfl, _, Eq.trans (World.drewN_drewN _ _ _) (congrArg (World.drewN _) (Nat.add_assoc _ _ _))⟩))))
    go_ret3
    exact ⟨by first | rfl | (simp; done) | (simp [*]; done) | (simp [nil_bne]; done), by repeat (first | exact Drawn0.refl _ | apply Drawn0.step)⟩

-- GIVEN: function 20 (reference_zzContainsAny)

-- GIVEN: function 21 (reference_zzLower)

end Go.Proofs.Ytgbmhkmhpmkadaa.QW
