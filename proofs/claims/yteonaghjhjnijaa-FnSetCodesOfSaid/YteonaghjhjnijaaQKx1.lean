-- written by a program of mine (wip/tools/myprint.py) for this claim. Not trusted: Lean checks it.
import Derived.Test.YteonaghjhjnijaaQKx0
namespace Go.Proofs.Yteonaghjhjnijaa.QK
open Go.RowKit Go.Proofs.YteonaghjhjnijaaW.PrintWords Go.Proofs.YteonaghjhjnijaaW.PrintLast Go.Proofs.YteonaghjhjnijaaW.PrintMore
attribute [local go_sem] max2_int min2_int max_two min_two max_three min_three max_four min_four   -- for this text's walks alone
set_option linter.unusedVariables false
set_option linter.unusedSimpArgs false

/-! ### stringslite_HasPrefix: function 29 -/
def stringslite_HasPrefix.f (a0 : ByteArray) (a1 : ByteArray) : Option (Bool) := if (a0.size : Int) ≥ (a1.size : Int) then (if 0 ≤ (a1.size : Int) then (if (a1.size : Int) ≤ (a0.size : Int) then (some ((a0.extract 0 ((a1.size : Int) : Int).toNat).toList == a1.toList)) else (none)) else (none)) else (some false)
set_option maxHeartbeats 8000000 in
set_option maxRecDepth 100000 in
theorem stringslite_HasPrefix.calls (a0 : ByteArray) (a1 : ByteArray) (r : Bool) (w : World) (h : stringslite_HasPrefix.f a0 a1 = some r) :
    Calls Try.prog 29 #[.string a0, .string a1] w fun e w' => e = .returned (.bool r) ∧ Drawn0 w w' := by
  have H : (if (a0.size : Int) ≥ (a1.size : Int) then (if 0 ≤ (a1.size : Int) then (if (a1.size : Int) ≤ (a0.size : Int) then (some ((a0.extract 0 ((a1.size : Int) : Int).toNat).toList == a1.toList)) else (none)) else (none)) else (some false)) = some r := h
  clear h
  by_cases c3 : (a0.size : Int) ≥ (a1.size : Int)
  · rw [if_pos c3] at H
    have c3b0 : decide ((a1.size : Int) ≤ (a0.size : Int)) = true := decide_eq_true c3
    have c3b1 : decide (a1.size ≤ a0.size) = true := decide_eq_true (Int.ofNat_le.mp c3)
    clear c3
    by_cases c4 : 0 ≤ (a1.size : Int)
    · rw [if_pos c4] at H
      have c4b0 := eq_true c4
      have c4b1 : decide (0 ≤ (a1.size : Int)) = true := decide_eq_true c4
      clear c4
      by_cases c5 : (a1.size : Int) ≤ (a0.size : Int)
      · rw [if_pos c5] at H
        have c5b0 := eq_true c5
        have c5b1 : decide ((a1.size : Int) ≤ (a0.size : Int)) = true := decide_eq_true c5
        clear c5
        obtain rfl := Option.some.inj H
        go_enter Try.func29, Try.ntmps29
        go_wp2
        go_ret
        exact ⟨by first | rfl | (simp; done) | (simp [*]; done) | (simp [nil_bne]; done), by repeat (first | exact Drawn0.refl _ | apply Drawn0.step)⟩
      · rw [if_neg c5] at H
        exact absurd H (by simp)
    · rw [if_neg c4] at H
      exact absurd H (by simp)
  · rw [if_neg c3] at H
    have c3b0 : decide ((a1.size : Int) ≤ (a0.size : Int)) = false := decide_eq_false c3
    have c3b1 : decide (a1.size ≤ a0.size) = false := decide_eq_false (fun h => c3 (Int.ofNat_le.mpr h))
    clear c3
    obtain rfl := Option.some.inj H
    go_enter Try.func29, Try.ntmps29
    go_wp2
    go_ret
    exact ⟨by first | rfl | (simp; done) | (simp [*]; done) | (simp [nil_bne]; done), by repeat (first | exact Drawn0.refl _ | apply Drawn0.step)⟩

/-! ### strings_HasPrefix: function 25 -/
def strings_HasPrefix.f (a0 : ByteArray) (a1 : ByteArray) : Option (Bool) := (stringslite_HasPrefix.f a0 a1).bind fun t101 => (some t101)
set_option maxHeartbeats 8000000 in
set_option maxRecDepth 100000 in
theorem strings_HasPrefix.calls (a0 : ByteArray) (a1 : ByteArray) (r : Bool) (w : World) (h : strings_HasPrefix.f a0 a1 = some r) :
    Calls Try.prog 25 #[.string a0, .string a1] w fun e w' => e = .returned (.bool r) ∧ Drawn0 w w' := by
  have H : ((stringslite_HasPrefix.f a0 a1).bind fun t101 => (some t101)) = some r := h
  clear h
  replace H := Option.bind_eq_some_iff.mp H
  obtain ⟨t101, A30, H⟩ := H
  replace H : (some t101) = some r := H
  have A3 := Aside0.mk A30
  clear A30
  obtain rfl := Option.some.inj H
  go_enter Try.func25, Try.ntmps25
  go_wp2_with (first | ((with_reducible refine gate_callee (f := 29) rfl ?_); refine goesL_ (some 7) rfl rfl Try.func29 (by kernel_rfl) rfl #[.string a0, .string a1] rfl (by (try simp only [List.map_toArray, List.map_cons, List.map_nil]); first | done | rfl | (simp only [List.length_drop, List.length_take]; rfl)) ?_; (with_reducible refine (stringslite_HasPrefix.calls a0 a1 t101 _ A3.out).mono ?_); rintro e w' ⟨rfl, ⟨nd, rfl⟩⟩; refine ⟨_, rfl, ?_⟩))
  go_ret
  exact ⟨by first | rfl | (simp; done) | (simp [*]; done) | (simp [nil_bne]; done), by repeat (first | exact Drawn0.refl _ | apply Drawn0.step)⟩

/-! ### digestset_checkShortMatch: function 15 -/
def digestset_checkShortMatch.f (a0 : ByteArray) (a1 : ByteArray) (a2 : ByteArray) (a3 : ByteArray) : Option (Bool) := if (a1.size : Int) = (a3.size : Int) then (if a1.toList = a3.toList then (if (a2.size : Int) > 0 then (if a0.toList = a2.toList then (some true) else (some false)) else (some true)) else (some false)) else ((strings_HasPrefix.f a1 a3).bind fun t102 => (if t102 = true then (if (a2.size : Int) > 0 then (if a0.toList = a2.toList then (some true) else (some false)) else (some true)) else (some false)))
set_option maxHeartbeats 8000000 in
set_option maxRecDepth 100000 in
theorem digestset_checkShortMatch.calls (a0 : ByteArray) (a1 : ByteArray) (a2 : ByteArray) (a3 : ByteArray) (r : Bool) (w : World) (h : digestset_checkShortMatch.f a0 a1 a2 a3 = some r) :
    Calls Try.prog 15 #[.string a0, .string a1, .string a2, .string a3] w fun e w' => e = .returned (.bool r) ∧ Drawn0 w w' := by
  have H : (if (a1.size : Int) = (a3.size : Int) then (if a1.toList = a3.toList then (if (a2.size : Int) > 0 then (if a0.toList = a2.toList then (some true) else (some false)) else (some true)) else (some false)) else ((strings_HasPrefix.f a1 a3).bind fun t102 => (if t102 = true then (if (a2.size : Int) > 0 then (if a0.toList = a2.toList then (some true) else (some false)) else (some true)) else (some false)))) = some r := h
  clear h
  by_cases c5 : (a1.size : Int) = (a3.size : Int)
  · rw [if_pos c5] at H
    have c5b0 : ((a1.size : Int) == (a3.size : Int)) = true := beq_iff_eq.mpr c5
    have c5b1 : ((a1.size : Int) != (a3.size : Int)) = false := bne_eq_false_iff_eq.mpr c5
    have c5b2 : (a1.size == a3.size) = true := by first | simpa using c5 | (simp at c5 ⊢; omega)
    clear c5
    by_cases c6 : a1.toList = a3.toList
    · rw [if_pos c6] at H
      have c6b0 : (a1.toList == a3.toList) = true := beq_iff_eq.mpr c6
      have c6b1 : (a1.toList != a3.toList) = false := bne_eq_false_iff_eq.mpr c6
      clear c6
      by_cases c7 : (a2.size : Int) > 0
      · rw [if_pos c7] at H
        have c7b0 : decide (0 < (a2.size : Int)) = true := decide_eq_true c7
        have c7b1 : decide (0 < a2.size) = true := decide_eq_true (by omega)
        clear c7
        by_cases c8 : a0.toList = a2.toList
        · rw [if_pos c8] at H
          have c8b0 : (a0.toList == a2.toList) = true := beq_iff_eq.mpr c8
          have c8b1 : (a0.toList != a2.toList) = false := bne_eq_false_iff_eq.mpr c8
          clear c8
          obtain rfl := Option.some.inj H
          go_enter Try.func15, Try.ntmps15
          go_wp2
          go_ret
          exact ⟨by first | rfl | (simp; done) | (simp [*]; done) | (simp [nil_bne]; done), by repeat (first | exact Drawn0.refl _ | apply Drawn0.step)⟩
        · rw [if_neg c8] at H
          have c8b0 : (a0.toList == a2.toList) = false := beq_eq_false_iff_ne.mpr c8
          have c8b1 : (a0.toList != a2.toList) = true := bne_iff_ne.mpr c8
          obtain rfl := Option.some.inj H
          go_enter Try.func15, Try.ntmps15
          go_wp2
          go_ret
          exact ⟨by first | rfl | (simp; done) | (simp [*]; done) | (simp [nil_bne]; done), by repeat (first | exact Drawn0.refl _ | apply Drawn0.step)⟩
      · rw [if_neg c7] at H
        have c7b0 : decide (0 < (a2.size : Int)) = false := decide_eq_false c7
        have c7b1 : decide (0 < a2.size) = false := decide_eq_false (by omega)
        clear c7
        obtain rfl := Option.some.inj H
        go_enter Try.func15, Try.ntmps15
        go_wp2
        go_ret
        exact ⟨by first | rfl | (simp; done) | (simp [*]; done) | (simp [nil_bne]; done), by repeat (first | exact Drawn0.refl _ | apply Drawn0.step)⟩
    · rw [if_neg c6] at H
      have c6b0 : (a1.toList == a3.toList) = false := beq_eq_false_iff_ne.mpr c6
      have c6b1 : (a1.toList != a3.toList) = true := bne_iff_ne.mpr c6
      obtain rfl := Option.some.inj H
      go_enter Try.func15, Try.ntmps15
      go_wp2
      go_ret
      exact ⟨by first | rfl | (simp; done) | (simp [*]; done) | (simp [nil_bne]; done), by repeat (first | exact Drawn0.refl _ | apply Drawn0.step)⟩
  · rw [if_neg c5] at H
    have c5b0 : ((a1.size : Int) == (a3.size : Int)) = false := beq_eq_false_iff_ne.mpr c5
    have c5b1 : ((a1.size : Int) != (a3.size : Int)) = true := bne_iff_ne.mpr c5
    have c5b2 : (a1.size == a3.size) = false := by first | simpa using c5 | (simp at c5 ⊢; omega)
    replace H := Option.bind_eq_some_iff.mp H
    obtain ⟨t102, A90, H⟩ := H
    replace H : (if t102 = true then (if (a2.size : Int) > 0 then (if a0.toList = a2.toList then (some true) else (some false)) else (some true)) else (some false)) = some r := H
    have A9 := Aside0.mk A90
    clear A90
    by_cases c10 : t102 = true
    · subst c10
      have H1 : (if (a2.size : Int) > 0 then (if a0.toList = a2.toList then (some true) else (some false)) else (some true)) = some r := by rw [if_pos rfl] at H; exact H
      clear H
      have H := H1
      clear H1
      by_cases c11 : (a2.size : Int) > 0
      · rw [if_pos c11] at H
        have c11b0 : decide (0 < (a2.size : Int)) = true := decide_eq_true c11
        have c11b1 : decide (0 < a2.size) = true := decide_eq_true (by omega)
        clear c11
        by_cases c12 : a0.toList = a2.toList
        · rw [if_pos c12] at H
          have c12b0 : (a0.toList == a2.toList) = true := beq_iff_eq.mpr c12
          have c12b1 : (a0.toList != a2.toList) = false := bne_eq_false_iff_eq.mpr c12
          clear c12
          obtain rfl := Option.some.inj H
          go_enter Try.func15, Try.ntmps15
          go_wp2_with (first | ((with_reducible refine gate_callee (f := 25) rfl ?_); refine goesL_ (some 27) rfl rfl Try.func25 (by kernel_rfl) rfl #[.string a1, .string a3] rfl (by (try simp only [List.map_toArray, List.map_cons, List.map_nil]); first | done | rfl | (simp only [List.length_drop, List.length_take]; rfl)) ?_; (with_reducible refine (strings_HasPrefix.calls a1 a3 true _ A9.out).mono ?_); rintro e w' ⟨rfl, ⟨nd, rfl⟩⟩; refine ⟨_, rfl, ?_⟩))
          go_ret
          exact ⟨by first | rfl | (simp; done) | (simp [*]; done) | (simp [nil_bne]; done), by repeat (first | exact Drawn0.refl _ | apply Drawn0.step)⟩
        · rw [if_neg c12] at H
          have c12b0 : (a0.toList == a2.toList) = false := beq_eq_false_iff_ne.mpr c12
          have c12b1 : (a0.toList != a2.toList) = true := bne_iff_ne.mpr c12
          obtain rfl := Option.some.inj H
          go_enter Try.func15, Try.ntmps15
          go_wp2_with (first | ((with_reducible refine gate_callee (f := 25) rfl ?_); refine goesL_ (some 27) rfl rfl Try.func25 (by kernel_rfl) rfl #[.string a1, .string a3] rfl (by (try simp only [List.map_toArray, List.map_cons, List.map_nil]); first | done | rfl | (simp only [List.length_drop, List.length_take]; rfl)) ?_; (with_reducible refine (strings_HasPrefix.calls a1 a3 true _ A9.out).mono ?_); rintro e w' ⟨rfl, ⟨nd, rfl⟩⟩; refine ⟨_, rfl, ?_⟩))
          go_ret
          exact ⟨by first | rfl | (simp; done) | (simp [*]; done) | (simp [nil_bne]; done), by repeat (first | exact Drawn0.refl _ | apply Drawn0.step)⟩
      · rw [if_neg c11] at H
        have c11b0 : decide (0 < (a2.size : Int)) = false := decide_eq_false c11
        have c11b1 : decide (0 < a2.size) = false := decide_eq_false (by omega)
        clear c11
        obtain rfl := Option.some.inj H
        go_enter Try.func15, Try.ntmps15
        go_wp2_with (first | ((with_reducible refine gate_callee (f := 25) rfl ?_); refine goesL_ (some 27) rfl rfl Try.func25 (by kernel_rfl) rfl #[.string a1, .string a3] rfl (by (try simp only [List.map_toArray, List.map_cons, List.map_nil]); first | done | rfl | (simp only [List.length_drop, List.length_take]; rfl)) ?_; (with_reducible refine (strings_HasPrefix.calls a1 a3 true _ A9.out).mono ?_); rintro e w' ⟨rfl, ⟨nd, rfl⟩⟩; refine ⟨_, rfl, ?_⟩))
        go_ret
        exact ⟨by first | rfl | (simp; done) | (simp [*]; done) | (simp [nil_bne]; done), by repeat (first | exact Drawn0.refl _ | apply Drawn0.step)⟩
    · replace c10 := Bool.eq_false_iff.mpr c10
      subst c10
      have H1 : (some false) = some r := by rw [if_neg (show ¬ (false = true) by decide)] at H; exact H
      clear H
      have H := H1
      clear H1
      obtain rfl := Option.some.inj H
      go_enter Try.func15, Try.ntmps15
      go_wp2_with (first | ((with_reducible refine gate_callee (f := 25) rfl ?_); refine goesL_ (some 27) rfl rfl Try.func25 (by kernel_rfl) rfl #[.string a1, .string a3] rfl (by (try simp only [List.map_toArray, List.map_cons, List.map_nil]); first | done | rfl | (simp only [List.length_drop, List.length_take]; rfl)) ?_; (with_reducible refine (strings_HasPrefix.calls a1 a3 false _ A9.out).mono ?_); rintro e w' ⟨rfl, ⟨nd, rfl⟩⟩; refine ⟨_, rfl, ?_⟩))
      go_ret
      exact ⟨by first | rfl | (simp; done) | (simp [*]; done) | (simp [nil_bne]; done), by repeat (first | exact Drawn0.refl _ | apply Drawn0.step)⟩

/-- THE ONE PURE STATEMENT of digestset_checkShortMatch: yours. -/
def digestset_checkShortMatch.Pure : Prop := ∀ (a0 : ByteArray) (a1 : ByteArray) (a2 : ByteArray) (a3 : ByteArray), a0.size ≤ 140737488351232 → a1.size ≤ 140737488351232 → a2.size ≤ 140737488351232 → a3.size ≤ 140737488351232 → digestset_checkShortMatch.f a0 a1 a2 a3 = some true
theorem digestset_checkShortMatch.walk (P : digestset_checkShortMatch.Pure) (a0 : ByteArray) (a1 : ByteArray) (a2 : ByteArray) (a3 : ByteArray) (w : World) (w0 : a0.size ≤ 140737488351232) (w1 : a1.size ≤ 140737488351232) (w2 : a2.size ≤ 140737488351232) (w3 : a3.size ≤ 140737488351232) :
    Calls Try.prog 15 #[.string a0, .string a1, .string a2, .string a3] w fun e w' => e = .returned (.bool true) ∧ Below w.heap.size w w' := by
  have h := P a0 a1 a2 a3 w0 w1 w2 w3
  refine (digestset_checkShortMatch.calls a0 a1 a2 a3 true w h).mono ?_
  rintro e w' ⟨rfl, hd⟩
  exact ⟨rfl, hd.below⟩

/-! ### godigest_Digest_String: function 14 -/
def godigest_Digest_String.f (a0 : ByteArray) : Option (ByteArray) := some a0
set_option maxHeartbeats 8000000 in
set_option maxRecDepth 100000 in
theorem godigest_Digest_String.calls (a0 : ByteArray) (r : ByteArray) (w : World) (h : godigest_Digest_String.f a0 = some r) :
    Calls Try.prog 14 #[.string a0] w fun e w' => e = .returned (.string r) ∧ Drawn0 w w' := by
  have H : (some a0) = some r := h
  clear h
  obtain rfl := Option.some.inj H
  go_enter Try.func14, Try.ntmps14
  go_wp2
  go_ret
  exact ⟨by first | rfl | (simp; done) | (simp [*]; done) | (simp [nil_bne]; done), by repeat (first | exact Drawn0.refl _ | apply Drawn0.step)⟩

end Go.Proofs.Yteonaghjhjnijaa.QK
