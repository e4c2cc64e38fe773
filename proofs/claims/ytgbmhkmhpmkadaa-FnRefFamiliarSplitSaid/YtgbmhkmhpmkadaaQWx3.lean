-- written by a program of mine (wip/tools/myprint.py) for this claim. Not trusted: Lean checks it.
import Derived.Test.YtgbmhkmhpmkadaaQWx0
import Derived.Test.YtgbmhkmhpmkadaaQWx2
import Derived.Test.YtgbmhkmhpmkadaaStr
namespace Go.Proofs.Ytgbmhkmhpmkadaa.QW
open Go.RowKit Go.Proofs.YtgbmhkmhpmkadaaW.PrintWords Go.Proofs.YtgbmhkmhpmkadaaW.PrintLast Go.Proofs.YtgbmhkmhpmkadaaW.PrintMore
attribute [local go_sem] max2_int min2_int max_two min_two max_three min_three max_four min_four   -- for this text's walks alone
set_option linter.unusedVariables false
set_option linter.unusedSimpArgs false

/-! ### reference_splitDockerDomain: function 15 -/
def reference_splitDockerDomain.f (k : Nat) (a0 : ByteArray) : Option (ByteArray × ByteArray) := (reference_zzCut.f k a0 (⟨#[47]⟩ : ByteArray)).bind fun bt120 => (if bt120.2.2 = true then (if bt120.1.toList = ([108, 111, 99, 97, 108, 104, 111, 115, 116] : List UInt8) then (if bt120.1.toList = ([100, 111, 99, 107, 101, 114, 46, 105, 111] : List UInt8) then ((reference_zzContainsRune.f bt120.2.1 47).bind fun t123 => (if t123 = true then (some (bt120.1, bt120.2.1)) else (if 8 + bt120.2.1.size ≤ 9223372036854775807 then (some (bt120.1, (⟨#[108, 105, 98, 114, 97, 114, 121, 47]⟩ : ByteArray) ++ bt120.2.1)) else (none)))) else (some (bt120.1, bt120.2.1))) else (if bt120.1.toList = ([105, 110, 100, 101, 120, 46, 100, 111, 99, 107, 101, 114, 46, 105, 111] : List UInt8) then (if ([100, 111, 99, 107, 101, 114, 46, 105, 111] : List UInt8) = ([100, 111, 99, 107, 101, 114, 46, 105, 111] : List UInt8) then ((reference_zzContainsRune.f bt120.2.1 47).bind fun t124 => (if t124 = true then (some ((⟨#[100, 111, 99, 107, 101, 114, 46, 105, 111]⟩ : ByteArray), bt120.2.1)) else (if 8 + bt120.2.1.size ≤ 9223372036854775807 then (some ((⟨#[100, 111, 99, 107, 101, 114, 46, 105, 111]⟩ : ByteArray), (⟨#[108, 105, 98, 114, 97, 114, 121, 47]⟩ : ByteArray) ++ bt120.2.1)) else (none)))) else (some ((⟨#[100, 111, 99, 107, 101, 114, 46, 105, 111]⟩ : ByteArray), bt120.2.1))) else ((reference_zzContainsAny.f bt120.1 (⟨#[46, 58]⟩ : ByteArray)).bind fun t125 => (if t125 = true then (if bt120.1.toList = ([100, 111, 99, 107, 101, 114, 46, 105, 111] : List UInt8) then ((reference_zzContainsRune.f bt120.2.1 47).bind fun t126 => (if t126 = true then (some (bt120.1, bt120.2.1)) else (if 8 + bt120.2.1.size ≤ 9223372036854775807 then (some (bt120.1, (⟨#[108, 105, 98, 114, 97, 114, 121, 47]⟩ : ByteArray) ++ bt120.2.1)) else (none)))) else (some (bt120.1, bt120.2.1))) else ((reference_zzLower.f bt120.1).bind fun t127 => (if t127.toList = bt120.1.toList then (if ([100, 111, 99, 107, 101, 114, 46, 105, 111] : List UInt8) = ([100, 111, 99, 107, 101, 114, 46, 105, 111] : List UInt8) then ((reference_zzContainsRune.f a0 47).bind fun t128 => (if t128 = true then (some ((⟨#[100, 111, 99, 107, 101, 114, 46, 105, 111]⟩ : ByteArray), a0)) else (if 8 + a0.size ≤ 9223372036854775807 then (some ((⟨#[100, 111, 99, 107, 101, 114, 46, 105, 111]⟩ : ByteArray), (⟨#[108, 105, 98, 114, 97, 114, 121, 47]⟩ : ByteArray) ++ a0)) else (none)))) else (some ((⟨#[100, 111, 99, 107, 101, 114, 46, 105, 111]⟩ : ByteArray), a0))) else (if bt120.1.toList = ([100, 111, 99, 107, 101, 114, 46, 105, 111] : List UInt8) then ((reference_zzContainsRune.f bt120.2.1 47).bind fun t129 => (if t129 = true then (some (bt120.1, bt120.2.1)) else (if 8 + bt120.2.1.size ≤ 9223372036854775807 then (some (bt120.1, (⟨#[108, 105, 98, 114, 97, 114, 121, 47]⟩ : ByteArray) ++ bt120.2.1)) else (none)))) else (some (bt120.1, bt120.2.1))))))))) else (if 8 + a0.size ≤ 9223372036854775807 then (some ((⟨#[100, 111, 99, 107, 101, 114, 46, 105, 111]⟩ : ByteArray), (⟨#[108, 105, 98, 114, 97, 114, 121, 47]⟩ : ByteArray) ++ a0)) else (none)))
theorem reference_splitDockerDomain.mono : ∀ a0 k, LeO (reference_splitDockerDomain.f k a0) (reference_splitDockerDomain.f (k + 1) a0) := by
  intro a0 k
  unfold reference_splitDockerDomain.f
  repeat' first
      | (with_reducible exact reference_zzCut.mono _ _ _)
      | (with_reducible exact LeO.refl _)
      | (with_reducible exact LeO.none _)
      | (with_reducible refine LeO.ite ?_ ?_)
      | (with_reducible refine LeO.bind ?_ (fun _ => ?_))
      | exact reference_zzCut.mono _ _ _
      | exact LeO.none _
      | refine LeO.ite ?_ ?_
      | refine LeO.bind ?_ (fun _ => ?_)
set_option maxHeartbeats 8000000 in
set_option maxRecDepth 100000 in
theorem reference_splitDockerDomain.calls (k : Nat) (a0 : ByteArray) (r1 : ByteArray) (r2 : ByteArray) (w : World) (h : reference_splitDockerDomain.f k a0 = some (r1, r2)) :
    Calls Try.prog 15 #[.string a0] w fun e w' => e = .returned (.tuple #[.string r1, .string r2]) ∧ Below w.heap.size w w' := by
  have HB := Aside0.mk (Below.refl w.heap.size w)
  have H : ((reference_zzCut.f k a0 (⟨#[47]⟩ : ByteArray)).bind fun bt120 => (if bt120.2.2 = true then (if bt120.1.toList = ([108, 111, 99, 97, 108, 104, 111, 115, 116] : List UInt8) then (if bt120.1.toList = ([100, 111, 99, 107, 101, 114, 46, 105, 111] : List UInt8) then ((reference_zzContainsRune.f bt120.2.1 47).bind fun t123 => (if t123 = true then (some (bt120.1, bt120.2.1)) else (if 8 + bt120.2.1.size ≤ 9223372036854775807 then (some (bt120.1, (⟨#[108, 105, 98, 114, 97, 114, 121, 47]⟩ : ByteArray) ++ bt120.2.1)) else (none)))) else (some (bt120.1, bt120.2.1))) else (if bt120.1.toList = ([105, 110, 100, 101, 120, 46, 100, 111, 99, 107, 101, 114, 46, 105, 111] : List UInt8) then (if ([100, 111, 99, 107, 101, 114, 46, 105, 111] : List UInt8) = ([100, 111, 99, 107, 101, 114, 46, 105, 111] : List UInt8) then ((reference_zzContainsRune.f bt120.2.1 47).bind fun t124 => (if t124 = true then (some ((⟨#[100, 111, 99, 107, 101, 114, 46, 105, 111]⟩ : ByteArray), bt120.2.1)) else (if 8 + bt120.2.1.size ≤ 9223372036854775807 then (some ((⟨#[100, 111, 99, 107, 101, 114, 46, 105, 111]⟩ : ByteArray), (⟨#[108, 105, 98, 114, 97, 114, 121, 47]⟩ : ByteArray) ++ bt120.2.1)) else (none)))) else (some ((⟨#[100, 111, 99, 107, 101, 114, 46, 105, 111]⟩ : ByteArray), bt120.2.1))) else ((reference_zzContainsAny.f bt120.1 (⟨#[46, 58]⟩ : ByteArray)).bind fun t125 => (if t125 = true then (if bt120.1.toList = ([100, 111, 99, 107, 101, 114, 46, 105, 111] : List UInt8) then ((reference_zzContainsRune.f bt120.2.1 47).bind fun t126 => (if t126 = true then (some (bt120.1, bt120.2.1)) else (if 8 + bt120.2.1.size ≤ 9223372036854775807 then (some (bt120.1, (⟨#[108, 105, 98, 114, 97, 114, 121, 47]⟩ : ByteArray) ++ bt120.2.1)) else (none)))) else (some (bt120.1, bt120.2.1))) else ((reference_zzLower.f bt120.1).bind fun t127 => (if t127.toList = bt120.1.toList then (if ([100, 111, 99, 107, 101, 114, 46, 105, 111] : List UInt8) = ([100, 111, 99, 107, 101, 114, 46, 105, 111] : List UInt8) then ((reference_zzContainsRune.f a0 47).bind fun t128 => (if t128 = true then (some ((⟨#[100, 111, 99, 107, 101, 114, 46, 105, 111]⟩ : ByteArray), a0)) else (if 8 + a0.size ≤ 9223372036854775807 then (some ((⟨#[100, 111, 99, 107, 101, 114, 46, 105, 111]⟩ : ByteArray), (⟨#[108, 105, 98, 114, 97, 114, 121, 47]⟩ : ByteArray) ++ a0)) else (none)))) else (some ((⟨#[100, 111, 99, 107, 101, 114, 46, 105, 111]⟩ : ByteArray), a0))) else (if bt120.1.toList = ([100, 111, 99, 107, 101, 114, 46, 105, 111] : List UInt8) then ((reference_zzContainsRune.f bt120.2.1 47).bind fun t129 => (if t129 = true then (some (bt120.1, bt120.2.1)) else (if 8 + bt120.2.1.size ≤ 9223372036854775807 then (some (bt120.1, (⟨#[108, 105, 98, 114, 97, 114, 121, 47]⟩ : ByteArray) ++ bt120.2.1)) else (none)))) else (some (bt120.1, bt120.2.1))))))))) else (if 8 + a0.size ≤ 9223372036854775807 then (some ((⟨#[100, 111, 99, 107, 101, 114, 46, 105, 111]⟩ : ByteArray), (⟨#[108, 105, 98, 114, 97, 114, 121, 47]⟩ : ByteArray) ++ a0)) else (none)))) = some (r1, r2) := h
  clear h
  replace H := Option.bind_eq_some_iff.mp H
  obtain ⟨⟨t120, t121, t122⟩, A20, H⟩ := H
  replace H : (if t122 = true then (if t120.toList = ([108, 111, 99, 97, 108, 104, 111, 115, 116] : List UInt8) then (if t120.toList = ([100, 111, 99, 107, 101, 114, 46, 105, 111] : List UInt8) then ((reference_zzContainsRune.f t121 47).bind fun t123 => (if t123 = true then (some (t120, t121)) else (if 8 + t121.size ≤ 9223372036854775807 then (some (t120, (⟨#[108, 105, 98, 114, 97, 114, 121, 47]⟩ : ByteArray) ++ t121)) else (none)))) else (some (t120, t121))) else (if t120.toList = ([105, 110, 100, 101, 120, 46, 100, 111, 99, 107, 101, 114, 46, 105, 111] : List UInt8) then (if ([100, 111, 99, 107, 101, 114, 46, 105, 111] : List UInt8) = ([100, 111, 99, 107, 101, 114, 46, 105, 111] : List UInt8) then ((reference_zzContainsRune.f t121 47).bind fun t124 => (if t124 = true then (some ((⟨#[100, 111, 99, 107, 101, 114, 46, 105, 111]⟩ : ByteArray), t121)) else (if 8 + t121.size ≤ 9223372036854775807 then (some ((⟨#[100, 111, 99, 107, 101, 114, 46, 105, 111]⟩ : ByteArray), (⟨#[108, 105, 98, 114, 97, 114, 121, 47]⟩ : ByteArray) ++ t121)) else (none)))) else (some ((⟨#[100, 111, 99, 107, 101, 114, 46, 105, 111]⟩ : ByteArray), t121))) else ((reference_zzContainsAny.f t120 (⟨#[46, 58]⟩ : ByteArray)).bind fun t125 => (if t125 = true then (if t120.toList = ([100, 111, 99, 107, 101, 114, 46, 105, 111] : List UInt8) then ((reference_zzContainsRune.f t121 47).bind fun t126 => (if t126 = true then (some (t120, t121)) else (if 8 + t121.size ≤ 9223372036854775807 then (some (t120, (⟨#[108, 105, 98, 114, 97, 114, 121, 47]⟩ : ByteArray) ++ t121)) else (none)))) else (some (t120, t121))) else ((reference_zzLower.f t120).bind fun t127 => (if t127.toList = t120.toList then (if ([100, 111, 99, 107, 101, 114, 46, 105, 111] : List UInt8) = ([100, 111, 99, 107, 101, 114, 46, 105, 111] : List UInt8) then ((reference_zzContainsRune.f a0 47).bind fun t128 => (if t128 = true then (some ((⟨#[100, 111, 99, 107, 101, 114, 46, 105, 111]⟩ : ByteArray), a0)) else (if 8 + a0.size ≤ 9223372036854775807 then (some ((⟨#[100, 111, 99, 107, 101, 114, 46, 105, 111]⟩ : ByteArray), (⟨#[108, 105, 98, 114, 97, 114, 121, 47]⟩ : ByteArray) ++ a0)) else (none)))) else (some ((⟨#[100, 111, 99, 107, 101, 114, 46, 105, 111]⟩ : ByteArray), a0))) else (if t120.toList = ([100, 111, 99, 107, 101, 114, 46, 105, 111] : List UInt8) then ((reference_zzContainsRune.f t121 47).bind fun t129 => (if t129 = true then (some (t120, t121)) else (if 8 + t121.size ≤ 9223372036854775807 then (some (t120, (⟨#[108, 105, 98, 114, 97, 114, 121, 47]⟩ : ByteArray) ++ t121)) else (none)))) else (some (t120, t121))))))))) else (if 8 + a0.size ≤ 9223372036854775807 then (some ((⟨#[100, 111, 99, 107, 101, 114, 46, 105, 111]⟩ : ByteArray), (⟨#[108, 105, 98, 114, 97, 114, 121, 47]⟩ : ByteArray) ++ a0)) else (none))) = some (r1, r2) := H
  have A2 := Aside0.mk A20
  clear A20
  by_cases c3 : t122 = true
  · subst c3
    have H1 : (if t120.toList = ([108, 111, 99, 97, 108, 104, 111, 115, 116] : List UInt8) then (if t120.toList = ([100, 111, 99, 107, 101, 114, 46, 105, 111] : List UInt8) then ((reference_zzContainsRune.f t121 47).bind fun t123 => (if t123 = true then (some (t120, t121)) else (if 8 + t121.size ≤ 9223372036854775807 then (some (t120, (⟨#[108, 105, 98, 114, 97, 114, 121, 47]⟩ : ByteArray) ++ t121)) else (none)))) else (some (t120, t121))) else (if t120.toList = ([105, 110, 100, 101, 120, 46, 100, 111, 99, 107, 101, 114, 46, 105, 111] : List UInt8) then (if ([100, 111, 99, 107, 101, 114, 46, 105, 111] : List UInt8) = ([100, 111, 99, 107, 101, 114, 46, 105, 111] : List UInt8) then ((reference_zzContainsRune.f t121 47).bind fun t124 => (if t124 = true then (some ((⟨#[100, 111, 99, 107, 101, 114, 46, 105, 111]⟩ : ByteArray), t121)) else (if 8 + t121.size ≤ 9223372036854775807 then (some ((⟨#[100, 111, 99, 107, 101, 114, 46, 105, 111]⟩ : ByteArray), (⟨#[108, 105, 98, 114, 97, 114, 121, 47]⟩ : ByteArray) ++ t121)) else (none)))) else (some ((⟨#[100, 111, 99, 107, 101, 114, 46, 105, 111]⟩ : ByteArray), t121))) else ((reference_zzContainsAny.f t120 (⟨#[46, 58]⟩ : ByteArray)).bind fun t125 => (if t125 = true then (if t120.toList = ([100, 111, 99, 107, 101, 114, 46, 105, 111] : List UInt8) then ((reference_zzContainsRune.f t121 47).bind fun t126 => (if t126 = true then (some (t120, t121)) else (if 8 + t121.size ≤ 9223372036854775807 then (some (t120, (⟨#[108, 105, 98, 114, 97, 114, 121, 47]⟩ : ByteArray) ++ t121)) else (none)))) else (some (t120, t121))) else ((reference_zzLower.f t120).bind fun t127 => (if t127.toList = t120.toList then (if ([100, 111, 99, 107, 101, 114, 46, 105, 111] : List UInt8) = ([100, 111, 99, 107, 101, 114, 46, 105, 111] : List UInt8) then ((reference_zzContainsRune.f a0 47).bind fun t128 => (if t128 = true then (some ((⟨#[100, 111, 99, 107, 101, 114, 46, 105, 111]⟩ : ByteArray), a0)) else (if 8 + a0.size ≤ 9223372036854775807 then (some ((⟨#[100, 111, 99, 107, 101, 114, 46, 105, 111]⟩ : ByteArray), (⟨#[108, 105, 98, 114, 97, 114, 121, 47]⟩ : ByteArray) ++ a0)) else (none)))) else (some ((⟨#[100, 111, 99, 107, 101, 114, 46, 105, 111]⟩ : ByteArray), a0))) else (if t120.toList = ([100, 111, 99, 107, 101, 114, 46, 105, 111] : List UInt8) then ((reference_zzContainsRune.f t121 47).bind fun t129 => (if t129 = true then (some (t120, t121)) else (if 8 + t121.size ≤ 9223372036854775807 then (some (t120, (⟨#[108, 105, 98, 114, 97, 114, 121, 47]⟩ : ByteArray) ++ t121)) else (none)))) else (some (t120, t121))))))))) = some (r1, r2) := by rw [if_pos rfl] at H; exact H
    clear H
    have H := H1
    clear H1
    by_cases c4 : t120.toList = ([108, 111, 99, 97, 108, 104, 111, 115, 116] : List UInt8)
    · rw [if_pos c4] at H
      have c4b0 : (t120.toList == ([108, 111, 99, 97, 108, 104, 111, 115, 116] : List UInt8)) = true := beq_iff_eq.mpr c4
      have c4b1 : (t120.toList != ([108, 111, 99, 97, 108, 104, 111, 115, 116] : List UInt8)) = false := bne_eq_false_iff_eq.mpr c4
      clear c4
      by_cases c5 : t120.toList = ([100, 111, 99, 107, 101, 114, 46, 105, 111] : List UInt8)
      · rw [if_pos c5] at H
        have c5b0 : (t120.toList == ([100, 111, 99, 107, 101, 114, 46, 105, 111] : List UInt8)) = true := beq_iff_eq.mpr c5
        have c5b1 : (t120.toList != ([100, 111, 99, 107, 101, 114, 46, 105, 111] : List UInt8)) = false := bne_eq_false_iff_eq.mpr c5
        clear c5
        replace H := Option.bind_eq_some_iff.mp H
        obtain ⟨t123, A60, H⟩ := H
        replace H : (if t123 = true then (some (t120, t121)) else (if 8 + t121.size ≤ 9223372036854775807 then (some (t120, (⟨#[108, 105, 98, 114, 97, 114, 121, 47]⟩ : ByteArray) ++ t121)) else (none))) = some (r1, r2) := H
        have A6 := Aside0.mk A60
        clear A60
        by_cases c7 : t123 = true
        · subst c7
          have H1 : (some (t120, t121)) = some (r1, r2) := by rw [if_pos rfl] at H; exact H
          clear H
          have H := H1
          clear H1
          simp only [Option.some.injEq, Prod.mk.injEq] at H
          obtain ⟨rfl, rfl⟩ := H
          go_enter Try.func15, Try.ntmps15
          go_wp2_with (first | ((with_reducible refine gate_callee (f := 19) rfl ?_); refine goesL_ (some 9) rfl rfl Try.func19 (by kernel_rfl) rfl #[.string a0, .string (⟨#[47]⟩ : ByteArray)] rfl (by (try simp only [List.map_toArray, List.map_cons, List.map_nil]); first | done | rfl | (simp only [List.length_drop, List.length_take]; rfl)) ?_; (with_reducible refine (reference_zzCut.calls k a0 (⟨#[47]⟩ : ByteArray) t120 t121 true _ A2.out).mono ?_); rintro e w' ⟨rfl, ⟨nd, rfl⟩⟩; refine ⟨_, rfl, ?_⟩) | (go_at_call 18; (with_reducible refine (reference_zzContainsRune.calls t121 47 true _ A6.out).mono ?_); rintro e w8 ⟨rfl, hb⟩; have n0_ := Aside0.mk (below_step (by repeat (first | (with_reducible first | exact HB.out | apply below_alloc | apply pw_below_drewN | apply below_drew1) | exact HB.out)) hb); clear HB; have HB := n0_; clear n0_; (try clear hb); (try clear hb2); (try clear hk); (try clear hi)))
          go_ret2
          exact ⟨by first | rfl | (simp [errW_none, errW_some] <;> rfl) | (simp [*, errW_none, errW_some] <;> rfl), by repeat (first | (with_reducible first | exact HB.out | apply below_alloc | apply pw_below_drewN | apply below_drew1) | exact HB.out)⟩
        · replace c7 := Bool.eq_false_iff.mpr c7
          subst c7
          have H1 : (if 8 + t121.size ≤ 9223372036854775807 then (some (t120, (⟨#[108, 105, 98, 114, 97, 114, 121, 47]⟩ : ByteArray) ++ t121)) else (none)) = some (r1, r2) := by rw [if_neg (show ¬ (false = true) by decide)] at H; exact H
          clear H
          have H := H1
          clear H1
          by_cases c9 : 8 + t121.size ≤ 9223372036854775807
          · rw [if_pos c9] at H
            have c9b0 := eq_true c9
            have c9b1 : decide (8 + t121.size ≤ 9223372036854775807) = true := decide_eq_true c9
            try have c9b2 : (9223372036854775807 < 8 + t121.size) = False := eq_false (Nat.not_lt.2 c9)
            simp only [Option.some.injEq, Prod.mk.injEq] at H
            obtain ⟨rfl, rfl⟩ := H
            go_enter Try.func15, Try.ntmps15
            go_wp2_with (first | ((with_reducible refine gate_callee (f := 19) rfl ?_); refine goesL_ (some 9) rfl rfl Try.func19 (by kernel_rfl) rfl #[.string a0, .string (⟨#[47]⟩ : ByteArray)] rfl (by (try simp only [List.map_toArray, List.map_cons, List.map_nil]); first | done | rfl | (simp only [List.length_drop, List.length_take]; rfl)) ?_; (with_reducible refine (reference_zzCut.calls k a0 (⟨#[47]⟩ : ByteArray) t120 t121 true _ A2.out).mono ?_); rintro e w' ⟨rfl, ⟨nd, rfl⟩⟩; refine ⟨_, rfl, ?_⟩) | (go_at_call 18; (with_reducible refine (reference_zzContainsRune.calls t121 47 false _ A6.out).mono ?_); rintro e w10 ⟨rfl, hb⟩; have n0_ := Aside0.mk (below_step (by repeat (first | (with_reducible first | exact HB.out | apply below_alloc | apply pw_below_drewN | apply below_drew1) | exact HB.out)) hb); clear HB; have HB := n0_; clear n0_; (try clear hb); (try clear hb2); (try clear hk); (try clear hi)))
            go_ret2
            exact ⟨by first | rfl | (simp [errW_none, errW_some] <;> rfl) | (simp [*, errW_none, errW_some] <;> rfl), by repeat (first | (with_reducible first | exact HB.out | apply below_alloc | apply pw_below_drewN | apply below_drew1) | exact HB.out)⟩
          · rw [if_neg c9] at H
            exact absurd H (by simp)
      · rw [if_neg c5] at H
        have c5b0 : (t120.toList == ([100, 111, 99, 107, 101, 114, 46, 105, 111] : List UInt8)) = false := beq_eq_false_iff_ne.mpr c5
        have c5b1 : (t120.toList != ([100, 111, 99, 107, 101, 114, 46, 105, 111] : List UInt8)) = true := bne_iff_ne.mpr c5
        simp only [Option.some.injEq, Prod.mk.injEq] at H
        obtain ⟨rfl, rfl⟩ := H
        go_enter Try.func15, Try.ntmps15
        go_wp2_with (first | ((with_reducible refine gate_callee (f := 19) rfl ?_); refine goesL_ (some 9) rfl rfl Try.func19 (by kernel_rfl) rfl #[.string a0, .string (⟨#[47]⟩ : ByteArray)] rfl (by (try simp only [List.map_toArray, List.map_cons, List.map_nil]); first | done | rfl | (simp only [List.length_drop, List.length_take]; rfl)) ?_; (with_reducible refine (reference_zzCut.calls k a0 (⟨#[47]⟩ : ByteArray) t120 t121 true _ A2.out).mono ?_); rintro e w' ⟨rfl, ⟨nd, rfl⟩⟩; refine ⟨_, rfl, ?_⟩))
        go_ret2
        exact ⟨by first | rfl | (simp [errW_none, errW_some] <;> rfl) | (simp [*, errW_none, errW_some] <;> rfl), by repeat (first | (with_reducible first | exact HB.out | apply below_alloc | apply pw_below_drewN | apply below_drew1) | exact HB.out)⟩
    · rw [if_neg c4] at H
      have c4b0 : (t120.toList == ([108, 111, 99, 97, 108, 104, 111, 115, 116] : List UInt8)) = false := beq_eq_false_iff_ne.mpr c4
      have c4b1 : (t120.toList != ([108, 111, 99, 97, 108, 104, 111, 115, 116] : List UInt8)) = true := bne_iff_ne.mpr c4
      by_cases c11 : t120.toList = ([105, 110, 100, 101, 120, 46, 100, 111, 99, 107, 101, 114, 46, 105, 111] : List UInt8)
      · rw [if_pos c11] at H
        have c11b0 : (t120.toList == ([105, 110, 100, 101, 120, 46, 100, 111, 99, 107, 101, 114, 46, 105, 111] : List UInt8)) = true := beq_iff_eq.mpr c11
        have c11b1 : (t120.toList != ([105, 110, 100, 101, 120, 46, 100, 111, 99, 107, 101, 114, 46, 105, 111] : List UInt8)) = false := bne_eq_false_iff_eq.mpr c11
        clear c11
        by_cases c12 : ([100, 111, 99, 107, 101, 114, 46, 105, 111] : List UInt8) = ([100, 111, 99, 107, 101, 114, 46, 105, 111] : List UInt8)
        · rw [if_pos c12] at H
          have c12b0 : (([100, 111, 99, 107, 101, 114, 46, 105, 111] : List UInt8) == ([100, 111, 99, 107, 101, 114, 46, 105, 111] : List UInt8)) = true := beq_iff_eq.mpr c12
          have c12b1 : (([100, 111, 99, 107, 101, 114, 46, 105, 111] : List UInt8) != ([100, 111, 99, 107, 101, 114, 46, 105, 111] : List UInt8)) = false := bne_eq_false_iff_eq.mpr c12
          clear c12
          replace H := Option.bind_eq_some_iff.mp H
          obtain ⟨t124, A130, H⟩ := H
          replace H : (if t124 = true then (some ((⟨#[100, 111, 99, 107, 101, 114, 46, 105, 111]⟩ : ByteArray), t121)) else (if 8 + t121.size ≤ 9223372036854775807 then (some ((⟨#[100, 111, 99, 107, 101, 114, 46, 105, 111]⟩ : ByteArray), (⟨#[108, 105, 98, 114, 97, 114, 121, 47]⟩ : ByteArray) ++ t121)) else (none))) = some (r1, r2) := H
          have A13 := Aside0.mk A130
          clear A130
          by_cases c14 : t124 = true
          · subst c14
            have H1 : (some ((⟨#[100, 111, 99, 107, 101, 114, 46, 105, 111]⟩ : ByteArray), t121)) = some (r1, r2) := by rw [if_pos rfl] at H; exact H
            clear H
            have H := H1
            clear H1
            simp only [Option.some.injEq, Prod.mk.injEq] at H
            obtain ⟨rfl, rfl⟩ := H
            go_enter Try.func15, Try.ntmps15
            go_wp2_with (first | ((with_reducible refine gate_callee (f := 19) rfl ?_); refine goesL_ (some 9) rfl rfl Try.func19 (by kernel_rfl) rfl #[.string a0, .string (⟨#[47]⟩ : ByteArray)] rfl (by (try simp only [List.map_toArray, List.map_cons, List.map_nil]); first | done | rfl | (simp only [List.length_drop, List.length_take]; rfl)) ?_; (with_reducible refine (reference_zzCut.calls k a0 (⟨#[47]⟩ : ByteArray) t120 t121 true _ A2.out).mono ?_); rintro e w' ⟨rfl, ⟨nd, rfl⟩⟩; refine ⟨_, rfl, ?_⟩) | (go_at_call 18; (with_reducible refine (reference_zzContainsRune.calls t121 47 true _ A13.out).mono ?_); rintro e w15 ⟨rfl, hb⟩; have n0_ := Aside0.mk (below_step (by repeat (first | (with_reducible first | exact HB.out | apply below_alloc | apply pw_below_drewN | apply below_drew1) | exact HB.out)) hb); clear HB; have HB := n0_; clear n0_; (try clear hb); (try clear hb2); (try clear hk); (try clear hi)))
            go_ret2
            exact ⟨by first | rfl | (simp [errW_none, errW_some] <;> rfl) | (simp [*, errW_none, errW_some] <;> rfl), by repeat (first | (with_reducible first | exact HB.out | apply below_alloc | apply pw_below_drewN | apply below_drew1) | exact HB.out)⟩
          · replace c14 := Bool.eq_false_iff.mpr c14
            subst c14
            have H1 : (if 8 + t121.size ≤ 9223372036854775807 then (some ((⟨#[100, 111, 99, 107, 101, 114, 46, 105, 111]⟩ : ByteArray), (⟨#[108, 105, 98, 114, 97, 114, 121, 47]⟩ : ByteArray) ++ t121)) else (none)) = some (r1, r2) := by rw [if_neg (show ¬ (false = true) by decide)] at H; exact H
            clear H
            have H := H1
            clear H1
            by_cases c16 : 8 + t121.size ≤ 9223372036854775807
            · rw [if_pos c16] at H
              have c16b0 := eq_true c16
              have c16b1 : decide (8 + t121.size ≤ 9223372036854775807) = true := decide_eq_true c16
              try have c16b2 : (9223372036854775807 < 8 + t121.size) = False := eq_false (Nat.not_lt.2 c16)
              simp only [Option.some.injEq, Prod.mk.injEq] at H
              obtain ⟨rfl, rfl⟩ := H
              go_enter Try.func15, Try.ntmps15
              go_wp2_with (first | ((with_reducible refine gate_callee (f := 19) rfl ?_); refine goesL_ (some 9) rfl rfl Try.func19 (by kernel_rfl) rfl #[.string a0, .string (⟨#[47]⟩ : ByteArray)] rfl (by (try simp only [List.map_toArray, List.map_cons, List.map_nil]); first | done | rfl | (simp only [List.length_drop, List.length_take]; rfl)) ?_; (with_reducible refine (reference_zzCut.calls k a0 (⟨#[47]⟩ : ByteArray) t120 t121 true _ A2.out).mono ?_); rintro e w' ⟨rfl, ⟨nd, rfl⟩⟩; refine ⟨_, rfl, ?_⟩) | (go_at_call 18; (with_reducible refine (reference_zzContainsRune.calls t121 47 false _ A13.out).mono ?_); rintro e w17 ⟨rfl, hb⟩; have n0_ := Aside0.mk (below_step (by repeat (first | (with_reducible first | exact HB.out | apply below_alloc | apply pw_below_drewN | apply below_drew1) | exact HB.out)) hb); clear HB; have HB := n0_; clear n0_; (try clear hb); (try clear hb2); (try clear hk); (try clear hi)))
              go_ret2
              exact ⟨by first | rfl | (simp [errW_none, errW_some] <;> rfl) | (simp [*, errW_none, errW_some] <;> rfl), by repeat (first | (with_reducible first | exact HB.out | apply below_alloc | apply pw_below_drewN | apply below_drew1) | exact HB.out)⟩
            · rw [if_neg c16] at H
              exact absurd H (by simp)
        · exact absurd rfl c12
      · rw [if_neg c11] at H
        have c11b0 : (t120.toList == ([105, 110, 100, 101, 120, 46, 100, 111, 99, 107, 101, 114, 46, 105, 111] : List UInt8)) = false := beq_eq_false_iff_ne.mpr c11
        have c11b1 : (t120.toList != ([105, 110, 100, 101, 120, 46, 100, 111, 99, 107, 101, 114, 46, 105, 111] : List UInt8)) = true := bne_iff_ne.mpr c11
        replace H := Option.bind_eq_some_iff.mp H
        obtain ⟨t125, A180, H⟩ := H
        replace H : (if t125 = true then (if t120.toList = ([100, 111, 99, 107, 101, 114, 46, 105, 111] : List UInt8) then ((reference_zzContainsRune.f t121 47).bind fun t126 => (if t126 = true then (some (t120, t121)) else (if 8 + t121.size ≤ 9223372036854775807 then (some (t120, (⟨#[108, 105, 98, 114, 97, 114, 121, 47]⟩ : ByteArray) ++ t121)) else (none)))) else (some (t120, t121))) else ((reference_zzLower.f t120).bind fun t127 => (if t127.toList = t120.toList then (if ([100, 111, 99, 107, 101, 114, 46, 105, 111] : List UInt8) = ([100, 111, 99, 107, 101, 114, 46, 105, 111] : List UInt8) then ((reference_zzContainsRune.f a0 47).bind fun t128 => (if t128 = true then (some ((⟨#[100, 111, 99, 107, 101, 114, 46, 105, 111]⟩ : ByteArray), a0)) else (if 8 + a0.size ≤ 9223372036854775807 then (some ((⟨#[100, 111, 99, 107, 101, 114, 46, 105, 111]⟩ : ByteArray), (⟨#[108, 105, 98, 114, 97, 114, 121, 47]⟩ : ByteArray) ++ a0)) else (none)))) else (some ((⟨#[100, 111, 99, 107, 101, 114, 46, 105, 111]⟩ : ByteArray), a0))) else (if t120.toList = ([100, 111, 99, 107, 101, 114, 46, 105, 111] : List UInt8) then ((reference_zzContainsRune.f t121 47).bind fun t129 => (if t129 = true then (some (t120, t121)) else (if 8 + t121.size ≤ 9223372036854775807 then (some (t120, (⟨#[108, 105, 98, 114, 97, 114, 121, 47]⟩ : ByteArray) ++ t121)) else (none)))) else (some (t120, t121)))))) = some (r1, r2) := H
        have A18 := Aside0.mk A180
        clear A180
        by_cases c19 : t125 = true
        · subst c19
          have H1 : (if t120.toList = ([100, 111, 99, 107, 101, 114, 46, 105, 111] : List UInt8) then ((reference_zzContainsRune.f t121 47).bind fun t126 => (if t126 = true then (some (t120, t121)) else (if 8 + t121.size ≤ 9223372036854775807 then (some (t120, (⟨#[108, 105, 98, 114, 97, 114, 121, 47]⟩ : ByteArray) ++ t121)) else (none)))) else (some (t120, t121))) = some (r1, r2) := by rw [if_pos rfl] at H; exact H
          clear H
          have H := H1
          clear H1
          by_cases c20 : t120.toList = ([100, 111, 99, 107, 101, 114, 46, 105, 111] : List UInt8)
          · rw [if_pos c20] at H
            have c20b0 : (t120.toList == ([100, 111, 99, 107, 101, 114, 46, 105, 111] : List UInt8)) = true := beq_iff_eq.mpr c20
            have c20b1 : (t120.toList != ([100, 111, 99, 107, 101, 114, 46, 105, 111] : List UInt8)) = false := bne_eq_false_iff_eq.mpr c20
            clear c20
            replace H := Option.bind_eq_some_iff.mp H
            obtain ⟨t126, A210, H⟩ := H
            replace H : (if t126 = true then (some (t120, t121)) else (if 8 + t121.size ≤ 9223372036854775807 then (some (t120, (⟨#[108, 105, 98, 114, 97, 114, 121, 47]⟩ : ByteArray) ++ t121)) else (none))) = some (r1, r2) := H
            have A21 := Aside0.mk A210
            clear A210
            by_cases c22 : t126 = true
            · subst c22
              have H1 : (some (t120, t121)) = some (r1, r2) := by rw [if_pos rfl] at H; exact H
              clear H
              have H := H1
              clear H1
              simp only [Option.some.injEq, Prod.mk.injEq] at H
              obtain ⟨rfl, rfl⟩ := H
              go_enter Try.func15, Try.ntmps15
              go_wp2_with (first | ((with_reducible refine gate_callee (f := 19) rfl ?_); refine goesL_ (some 9) rfl rfl Try.func19 (by kernel_rfl) rfl #[.string a0, .string (⟨#[47]⟩ : ByteArray)] rfl (by (try simp only [List.map_toArray, List.map_cons, List.map_nil]); first | done | rfl | (simp only [List.length_drop, List.length_take]; rfl)) ?_; (with_reducible refine (reference_zzCut.calls k a0 (⟨#[47]⟩ : ByteArray) t120 t121 true _ A2.out).mono ?_); rintro e w' ⟨rfl, ⟨nd, rfl⟩⟩; refine ⟨_, rfl, ?_⟩) | ((with_reducible refine gate_callee (f := 20) rfl ?_); refine goesL_ (some 29) rfl rfl Try.func20 (by kernel_rfl) rfl #[.string t120, .string (⟨#[46, 58]⟩ : ByteArray)] rfl (by (try simp only [List.map_toArray, List.map_cons, List.map_nil]); first | done | rfl | (simp only [List.length_drop, List.length_take]; rfl)) ?_; (with_reducible refine (reference_zzContainsAny.calls t120 (⟨#[46, 58]⟩ : ByteArray) true _ A18.out).mono ?_); rintro e w23 ⟨rfl, hb⟩; refine ⟨_, rfl, ?_⟩; have n0_ := Aside0.mk (below_step (by repeat (first | (with_reducible first | exact HB.out | apply below_alloc | apply pw_below_drewN | apply below_drew1) | exact HB.out)) hb); clear HB; have HB := n0_; clear n0_; (try clear hb); (try clear hb2); (try clear hk); (try clear hi)) | (go_at_call 18; (with_reducible refine (reference_zzContainsRune.calls t121 47 true _ A21.out).mono ?_); rintro e w24 ⟨rfl, hb⟩; have n0_ := Aside0.mk (below_step (by repeat (first | (with_reducible first | exact HB.out | apply below_alloc | apply pw_below_drewN | apply below_drew1) | exact HB.out)) hb); clear HB; have HB := n0_; clear n0_; (try clear hb); (try clear hb2); (try clear hk); (try clear hi)))
              go_ret2
              exact ⟨by first | rfl | (simp [errW_none, errW_some] <;> rfl) | (simp [*, errW_none, errW_some] <;> rfl), by repeat (first | (with_reducible first | exact HB.out | apply below_alloc | apply pw_below_drewN | apply below_drew1) | exact HB.out)⟩
            · replace c22 := Bool.eq_false_iff.mpr c22
              subst c22
              have H1 : (if 8 + t121.size ≤ 9223372036854775807 then (some (t120, (⟨#[108, 105, 98, 114, 97, 114, 121, 47]⟩ : ByteArray) ++ t121)) else (none)) = some (r1, r2) := by rw [if_neg (show ¬ (false = true) by decide)] at H; exact H
              clear H
              have H := H1
              clear H1
              by_cases c25 : 8 + t121.size ≤ 9223372036854775807
              · rw [if_pos c25] at H
                have c25b0 := eq_true c25
                have c25b1 : decide (8 + t121.size ≤ 9223372036854775807) = true := decide_eq_true c25
                try have c25b2 : (9223372036854775807 < 8 + t121.size) = False := eq_false (Nat.not_lt.2 c25)
                simp only [Option.some.injEq, Prod.mk.injEq] at H
                obtain ⟨rfl, rfl⟩ := H
                go_enter Try.func15, Try.ntmps15
                go_wp2_with (first | ((with_reducible refine gate_callee (f := 19) rfl ?_); refine goesL_ (some 9) rfl rfl Try.func19 (by kernel_rfl) rfl #[.string a0, .string (⟨#[47]⟩ : ByteArray)] rfl (by (try simp only [List.map_toArray, List.map_cons, List.map_nil]); first | done | rfl | (simp only [List.length_drop, List.length_take]; rfl)) ?_; (with_reducible refine (reference_zzCut.calls k a0 (⟨#[47]⟩ : ByteArray) t120 t121 true _ A2.out).mono ?_); rintro e w' ⟨rfl, ⟨nd, rfl⟩⟩; refine ⟨_, rfl, ?_⟩) | ((with_reducible refine gate_callee (f := 20) rfl ?_); refine goesL_ (some 29) rfl rfl Try.func20 (by kernel_rfl) rfl #[.string t120, .string (⟨#[46, 58]⟩ : ByteArray)] rfl (by (try simp only [List.map_toArray, List.map_cons, List.map_nil]); first | done | rfl | (simp only [List.length_drop, List.length_take]; rfl)) ?_; (with_reducible refine (reference_zzContainsAny.calls t120 (⟨#[46, 58]⟩ : ByteArray) true _ A18.out).mono ?_); rintro e w26 ⟨rfl, hb⟩; refine ⟨_, rfl, ?_⟩; have n0_ := Aside0.mk (below_step (by repeat (first | (with_reducible first | exact HB.out | apply below_alloc | apply pw_below_drewN | apply below_drew1) | exact HB.out)) hb); clear HB; have HB := n0_; clear n0_; (try clear hb); (try clear hb2); (try clear hk); (try clear hi)) | (go_at_call 18; (with_reducible refine (reference_zzContainsRune.calls t121 47 false _ A21.out).mono ?_); rintro e w27 ⟨rfl, hb⟩; have n0_ := Aside0.mk (below_step (by repeat (first | (with_reducible first | exact HB.out | apply below_alloc | apply pw_below_drewN | apply below_drew1) | exact HB.out)) hb); clear HB; have HB := n0_; clear n0_; (try clear hb); (try clear hb2); (try clear hk); (try clear hi)))
                go_ret2
                exact ⟨by first | rfl | (simp [errW_none, errW_some] <;> rfl) | (simp [*, errW_none, errW_some] <;> rfl), by repeat (first | (with_reducible first | exact HB.out | apply below_alloc | apply pw_below_drewN | apply below_drew1) | exact HB.out)⟩
              · rw [if_neg c25] at H
                exact absurd H (by simp)
          · rw [if_neg c20] at H
            have c20b0 : (t120.toList == ([100, 111, 99, 107, 101, 114, 46, 105, 111] : List UInt8)) = false := beq_eq_false_iff_ne.mpr c20
            have c20b1 : (t120.toList != ([100, 111, 99, 107, 101, 114, 46, 105, 111] : List UInt8)) = true := bne_iff_ne.mpr c20
            simp only [Option.some.injEq, Prod.mk.injEq] at H
            obtain ⟨rfl, rfl⟩ := H
            go_enter Try.func15, Try.ntmps15
            go_wp2_with (first | ((with_reducible refine gate_callee (f := 19) rfl ?_); refine goesL_ (some 9) rfl rfl Try.func19 (by kernel_rfl) rfl #[.string a0, .string (⟨#[47]⟩ : ByteArray)] rfl (by (try simp only [List.map_toArray, List.map_cons, List.map_nil]); first | done | rfl | (simp only [List.length_drop, List.length_take]; rfl)) ?_; (with_reducible refine (reference_zzCut.calls k a0 (⟨#[47]⟩ : ByteArray) t120 t121 true _ A2.out).mono ?_); rintro e w' ⟨rfl, ⟨nd, rfl⟩⟩; refine ⟨_, rfl, ?_⟩) | ((with_reducible refine gate_callee (f := 20) rfl ?_); refine goesL_ (some 29) rfl rfl Try.func20 (by kernel_rfl) rfl #[.string t120, .string (⟨#[46, 58]⟩ : ByteArray)] rfl (by (try simp only [List.map_toArray, List.map_cons, List.map_nil]); first | done | rfl | (simp only [List.length_drop, List.length_take]; rfl)) ?_; (with_reducible refine (reference_zzContainsAny.calls t120 (⟨#[46, 58]⟩ : ByteArray) true _ A18.out).mono ?_); rintro e w28 ⟨rfl, hb⟩; refine ⟨_, rfl, ?_⟩; have n0_ := Aside0.mk (below_step (by repeat (first | (with_reducible first | exact HB.out | apply below_alloc | apply pw_below_drewN | apply below_drew1) | exact HB.out)) hb); clear HB; have HB := n0_; clear n0_; (try clear hb); (try clear hb2); (try clear hk); (try clear hi)))
            go_ret2
            exact ⟨by first | rfl | (simp [errW_none, errW_some] <;> rfl) | (simp [*, errW_none, errW_some] <;> rfl), by repeat (first | (with_reducible first | exact HB.out | apply below_alloc | apply pw_below_drewN | apply below_drew1) | exact HB.out)⟩
        · replace c19 := Bool.eq_false_iff.mpr c19
          subst c19
          have H1 : ((reference_zzLower.f t120).bind fun t127 => (if t127.toList = t120.toList then (if ([100, 111, 99, 107, 101, 114, 46, 105, 111] : List UInt8) = ([100, 111, 99, 107, 101, 114, 46, 105, 111] : List UInt8) then ((reference_zzContainsRune.f a0 47).bind fun t128 => (if t128 = true then (some ((⟨#[100, 111, 99, 107, 101, 114, 46, 105, 111]⟩ : ByteArray), a0)) else (if 8 + a0.size ≤ 9223372036854775807 then (some ((⟨#[100, 111, 99, 107, 101, 114, 46, 105, 111]⟩ : ByteArray), (⟨#[108, 105, 98, 114, 97, 114, 121, 47]⟩ : ByteArray) ++ a0)) else (none)))) else (some ((⟨#[100, 111, 99, 107, 101, 114, 46, 105, 111]⟩ : ByteArray), a0))) else (if t120.toList = ([100, 111, 99, 107, 101, 114, 46, 105, 111] : List UInt8) then ((reference_zzContainsRune.f t121 47).bind fun t129 => (if t129 = true then (some (t120, t121)) else (if 8 + t121.size ≤ 9223372036854775807 then (some (t120, (⟨#[108, 105, 98, 114, 97, 114, 121, 47]⟩ : ByteArray) ++ t121)) else (none)))) else (some (t120, t121))))) = some (r1, r2) := by rw [if_neg (show ¬ (false = true) by decide)] at H; exact H
          clear H
          have H := H1
          clear H1
          replace H := Option.bind_eq_some_iff.mp H
          obtain ⟨t127, A290, H⟩ := H
          replace H : (if t127.toList = t120.toList then (if ([100, 111, 99, 107, 101, 114, 46, 105, 111] : List UInt8) = ([100, 111, 99, 107, 101, 114, 46, 105, 111] : List UInt8) then ((reference_zzContainsRune.f a0 47).bind fun t128 => (if t128 = true then (some ((⟨#[100, 111, 99, 107, 101, 114, 46, 105, 111]⟩ : ByteArray), a0)) else (if 8 + a0.size ≤ 9223372036854775807 then (some ((⟨#[100, 111, 99, 107, 101, 114, 46, 105, 111]⟩ : ByteArray), (⟨#[108, 105, 98, 114, 97, 114, 121, 47]⟩ : ByteArray) ++ a0)) else (none)))) else (some ((⟨#[100, 111, 99, 107, 101, 114, 46, 105, 111]⟩ : ByteArray), a0))) else (if t120.toList = ([100, 111, 99, 107, 101, 114, 46, 105, 111] : List UInt8) then ((reference_zzContainsRune.f t121 47).bind fun t129 => (if t129 = true then (some (t120, t121)) else (if 8 + t121.size ≤ 9223372036854775807 then (some (t120, (⟨#[108, 105, 98, 114, 97, 114, 121, 47]⟩ : ByteArray) ++ t121)) else (none)))) else (some (t120, t121)))) = some (r1, r2) := H
          have A29 := Aside0.mk A290
          clear A290
          by_cases c30 : t127.toList = t120.toList
          · rw [if_pos c30] at H
            have c30b0 : (t127.toList == t120.toList) = true := beq_iff_eq.mpr c30
            have c30b1 : (t127.toList != t120.toList) = false := bne_eq_false_iff_eq.mpr c30
            clear c30
            by_cases c31 : ([100, 111, 99, 107, 101, 114, 46, 105, 111] : List UInt8) = ([100, 111, 99, 107, 101, 114, 46, 105, 111] : List UInt8)
            · rw [if_pos c31] at H
              have c31b0 : (([100, 111, 99, 107, 101, 114, 46, 105, 111] : List UInt8) == ([100, 111, 99, 107, 101, 114, 46, 105, 111] : List UInt8)) = true := beq_iff_eq.mpr c31
              have c31b1 : (([100, 111, 99, 107, 101, 114, 46, 105, 111] : List UInt8) != ([100, 111, 99, 107, 101, 114, 46, 105, 111] : List UInt8)) = false := bne_eq_false_iff_eq.mpr c31
              clear c31
              replace H := Option.bind_eq_some_iff.mp H
              obtain ⟨t128, A320, H⟩ := H
              replace H : (if t128 = true then (some ((⟨#[100, 111, 99, 107, 101, 114, 46, 105, 111]⟩ : ByteArray), a0)) else (if 8 + a0.size ≤ 9223372036854775807 then (some ((⟨#[100, 111, 99, 107, 101, 114, 46, 105, 111]⟩ : ByteArray), (⟨#[108, 105, 98, 114, 97, 114, 121, 47]⟩ : ByteArray) ++ a0)) else (none))) = some (r1, r2) := H
              have A32 := Aside0.mk A320
              clear A320
              by_cases c33 : t128 = true
              · subst c33
                have H1 : (some ((⟨#[100, 111, 99, 107, 101, 114, 46, 105, 111]⟩ : ByteArray), a0)) = some (r1, r2) := by rw [if_pos rfl] at H; exact H
                clear H
                have H := H1
                clear H1
                simp only [Option.some.injEq, Prod.mk.injEq] at H
                obtain ⟨rfl, rfl⟩ := H
                go_enter Try.func15, Try.ntmps15
                go_wp2_with (first | ((with_reducible refine gate_callee (f := 19) rfl ?_); refine goesL_ (some 9) rfl rfl Try.func19 (by kernel_rfl) rfl #[.string a0, .string (⟨#[47]⟩ : ByteArray)] rfl (by (try simp only [List.map_toArray, List.map_cons, List.map_nil]); first | done | rfl | (simp only [List.length_drop, List.length_take]; rfl)) ?_; (with_reducible refine (reference_zzCut.calls k a0 (⟨#[47]⟩ : ByteArray) t120 t121 true _ A2.out).mono ?_); rintro e w' ⟨rfl, ⟨nd, rfl⟩⟩; refine ⟨_, rfl, ?_⟩) | ((with_reducible refine gate_callee (f := 20) rfl ?_); refine goesL_ (some 29) rfl rfl Try.func20 (by kernel_rfl) rfl #[.string t120, .string (⟨#[46, 58]⟩ : ByteArray)] rfl (by (try simp only [List.map_toArray, List.map_cons, List.map_nil]); first | done | rfl | (simp only [List.length_drop, List.length_take]; rfl)) ?_; (with_reducible refine (reference_zzContainsAny.calls t120 (⟨#[46, 58]⟩ : ByteArray) false _ A18.out).mono ?_); rintro e w34 ⟨rfl, hb⟩; refine ⟨_, rfl, ?_⟩; have n0_ := Aside0.mk (below_step (by repeat (first | (with_reducible first | exact HB.out | apply below_alloc | apply pw_below_drewN | apply below_drew1) | exact HB.out)) hb); clear HB; have HB := n0_; clear n0_; (try clear hb); (try clear hb2); (try clear hk); (try clear hi)) | ((with_reducible refine gate_callee (f := 21) rfl ?_); refine goesL_ (some 34) rfl rfl Try.func21 (by kernel_rfl) rfl #[.string t120] rfl (by (try simp only [List.map_toArray, List.map_cons, List.map_nil]); first | done | rfl | (simp only [List.length_drop, List.length_take]; rfl)) ?_; (with_reducible refine (reference_zzLower.calls t120 t127 _ A29.out).mono ?_); rintro e w35 ⟨rfl, hb⟩; refine ⟨_, rfl, ?_⟩; have n0_ := Aside0.mk (below_step (by repeat (first | (with_reducible first | exact HB.out | apply below_alloc | apply pw_below_drewN | apply below_drew1) | exact HB.out)) hb); clear HB; have HB := n0_; clear n0_; (try clear hb); (try clear hb2); (try clear hk); (try clear hi)) | (go_at_call 18; (with_reducible refine (reference_zzContainsRune.calls a0 47 true _ A32.out).mono ?_); rintro e w36 ⟨rfl, hb⟩; have n0_ := Aside0.mk (below_step (by repeat (first | (with_reducible first | exact HB.out | apply below_alloc | apply pw_below_drewN | apply below_drew1) | exact HB.out)) hb); clear HB; have HB := n0_; clear n0_; (try clear hb); (try clear hb2); (try clear hk); (try clear hi)))
                go_ret2
                exact ⟨by first | rfl | (simp [errW_none, errW_some] <;> rfl) | (simp [*, errW_none, errW_some] <;> rfl), by repeat (first | (with_reducible first | exact HB.out | apply below_alloc | apply pw_below_drewN | apply below_drew1) | exact HB.out)⟩
              · replace c33 := Bool.eq_false_iff.mpr c33
                subst c33
                have H1 : (if 8 + a0.size ≤ 9223372036854775807 then (some ((⟨#[100, 111, 99, 107, 101, 114, 46, 105, 111]⟩ : ByteArray), (⟨#[108, 105, 98, 114, 97, 114, 121, 47]⟩ : ByteArray) ++ a0)) else (none)) = some (r1, r2) := by rw [if_neg (show ¬ (false = true) by decide)] at H; exact H
                clear H
                have H := H1
                clear H1
                by_cases c37 : 8 + a0.size ≤ 9223372036854775807
                · rw [if_pos c37] at H
                  have c37b0 := eq_true c37
                  have c37b1 : decide (8 + a0.size ≤ 9223372036854775807) = true := decide_eq_true c37
                  try have c37b2 : (9223372036854775807 < 8 + a0.size) = False := eq_false (Nat.not_lt.2 c37)
                  simp only [Option.some.injEq, Prod.mk.injEq] at H
                  obtain ⟨rfl, rfl⟩ := H
                  go_enter Try.func15, Try.ntmps15
                  go_wp2_with (first | ((with_reducible refine gate_callee (f := 19) rfl ?_); refine goesL_ (some 9) rfl rfl Try.func19 (by kernel_rfl) rfl #[.string a0, .string (⟨#[47]⟩ : ByteArray)] rfl (by (try simp only [List.map_toArray, List.map_cons, List.map_nil]); first | done | rfl | (simp only [List.length_drop, List.length_take]; rfl)) ?_; (with_reducible refine (reference_zzCut.calls k a0 (⟨#[47]⟩ : ByteArray) t120 t121 true _ A2.out).mono ?_); rintro e w' ⟨rfl, ⟨nd, rfl⟩⟩; refine ⟨_, rfl, ?_⟩) | ((with_reducible refine gate_callee (f := 20) rfl ?_); refine goesL_ (some 29) rfl rfl Try.func20 (by kernel_rfl) rfl #[.string t120, .string (⟨#[46, 58]⟩ : ByteArray)] rfl (by (try simp only [List.map_toArray, List.map_cons, List.map_nil]); first | done | rfl | (simp only [List.length_drop, List.length_take]; rfl)) ?_; (with_reducible refine (reference_zzContainsAny.calls t120 (⟨#[46, 58]⟩ : ByteArray) false _ A18.out).mono ?_); rintro e w38 ⟨rfl, hb⟩; refine ⟨_, rfl, ?_⟩; have n0_ := Aside0.mk (below_step (by repeat (first | (with_reducible first | exact HB.out | apply below_alloc | apply pw_below_drewN | apply below_drew1) | exact HB.out)) hb); clear HB; have HB := n0_; clear n0_; (try clear hb); (try clear hb2); (try clear hk); (try clear hi)) | ((with_reducible refine gate_callee (f := 21) rfl ?_); refine goesL_ (some 34) rfl rfl Try.func21 (by kernel_rfl) rfl #[.string t120] rfl (by (try simp only [List.map_toArray, List.map_cons, List.map_nil]); first | done | rfl | (simp only [List.length_drop, List.length_take]; rfl)) ?_; (with_reducible refine (reference_zzLower.calls t120 t127 _ A29.out).mono ?_); rintro e w39 ⟨rfl, hb⟩; refine ⟨_, rfl, ?_⟩; have n0_ := Aside0.mk (below_step (by repeat (first | (with_reducible first | exact HB.out | apply below_alloc | apply pw_below_drewN | apply below_drew1) | exact HB.out)) hb); clear HB; have HB := n0_; clear n0_; (try clear hb); (try clear hb2); (try clear hk); (try clear hi)) | (go_at_call 18; (with_reducible refine (reference_zzContainsRune.calls a0 47 false _ A32.out).mono ?_); rintro e w40 ⟨rfl, hb⟩; have n0_ := Aside0.mk (below_step (by repeat (first | (with_reducible first | exact HB.out | apply below_alloc | apply pw_below_drewN | apply below_drew1) | exact HB.out)) hb); clear HB; have HB := n0_; clear n0_; (try clear hb); (try clear hb2); (try clear hk); (try clear hi)))
                  go_ret2
                  exact ⟨by first | rfl | (simp [errW_none, errW_some] <;> rfl) | (simp [*, errW_none, errW_some] <;> rfl), by repeat (first | (with_reducible first | exact HB.out | apply below_alloc | apply pw_below_drewN | apply below_drew1) | exact HB.out)⟩
                · rw [if_neg c37] at H
                  exact absurd H (by simp)
            · exact absurd rfl c31
          · rw [if_neg c30] at H
            have c30b0 : (t127.toList == t120.toList) = false := beq_eq_false_iff_ne.mpr c30
            have c30b1 : (t127.toList != t120.toList) = true := bne_iff_ne.mpr c30
            by_cases c43 : t120.toList = ([100, 111, 99, 107, 101, 114, 46, 105, 111] : List UInt8)
            · rw [if_pos c43] at H
              have c43b0 : (t120.toList == ([100, 111, 99, 107, 101, 114, 46, 105, 111] : List UInt8)) = true := beq_iff_eq.mpr c43
              have c43b1 : (t120.toList != ([100, 111, 99, 107, 101, 114, 46, 105, 111] : List UInt8)) = false := bne_eq_false_iff_eq.mpr c43
              clear c43
              replace H := Option.bind_eq_some_iff.mp H
              obtain ⟨t129, A440, H⟩ := H
              replace H : (if t129 = true then (some (t120, t121)) else (if 8 + t121.size ≤ 9223372036854775807 then (some (t120, (⟨#[108, 105, 98, 114, 97, 114, 121, 47]⟩ : ByteArray) ++ t121)) else (none))) = some (r1, r2) := H
              have A44 := Aside0.mk A440
              clear A440
              by_cases c45 : t129 = true
              · subst c45
                have H1 : (some (t120, t121)) = some (r1, r2) := by rw [if_pos rfl] at H; exact H
                clear H
                have H := H1
                clear H1
                simp only [Option.some.injEq, Prod.mk.injEq] at H
                obtain ⟨rfl, rfl⟩ := H
                go_enter Try.func15, Try.ntmps15
                go_wp2_with (first | ((with_reducible refine gate_callee (f := 19) rfl ?_); refine goesL_ (some 9) rfl rfl Try.func19 (by kernel_rfl) rfl #[.string a0, .string (⟨#[47]⟩ : ByteArray)] rfl (by (try simp only [List.map_toArray, List.map_cons, List.map_nil]); first | done | rfl | (simp only [List.length_drop, List.length_take]; rfl)) ?_; (with_reducible refine (reference_zzCut.calls k a0 (⟨#[47]⟩ : ByteArray) t120 t121 true _ A2.out).mono ?_); rintro e w' ⟨rfl, ⟨nd, rfl⟩⟩; refine ⟨_, rfl, ?_⟩) | ((with_reducible refine gate_callee (f := 20) rfl ?_); refine goesL_ (some 29) rfl rfl Try.func20 (by kernel_rfl) rfl #[.string t120, .string (⟨#[46, 58]⟩ : ByteArray)] rfl (by (try simp only [List.map_toArray, List.map_cons, List.map_nil]); first | done | rfl | (simp only [List.length_drop, List.length_take]; rfl)) ?_; (with_reducible refine (reference_zzContainsAny.calls t120 (⟨#[46, 58]⟩ : ByteArray) false _ A18.out).mono ?_); rintro e w46 ⟨rfl, hb⟩; refine ⟨_, rfl, ?_⟩; have n0_ := Aside0.mk (below_step (by repeat (first | (with_reducible first | exact HB.out | apply below_alloc | apply pw_below_drewN | apply below_drew1) | exact HB.out)) hb); clear HB; have HB := n0_; clear n0_; (try clear hb); (try clear hb2); (try clear hk); (try clear hi)) | ((with_reducible refine gate_callee (f := 21) rfl ?_); refine goesL_ (some 34) rfl rfl Try.func21 (by kernel_rfl) rfl #[.string t120] rfl (by (try simp only [List.map_toArray, List.map_cons, List.map_nil]); first | done | rfl | (simp only [List.length_drop, List.length_take]; rfl)) ?_; (with_reducible refine (reference_zzLower.calls t120 t127 _ A29.out).mono ?_); rintro e w47 ⟨rfl, hb⟩; refine ⟨_, rfl, ?_⟩; have n0_ := Aside0.mk (below_step (by repeat (first | (with_reducible first | exact HB.out | apply below_alloc | apply pw_below_drewN | apply below_drew1) | exact HB.out)) hb); clear HB; have HB := n0_; clear n0_; (try clear hb); (try clear hb2); (try clear hk); (try clear hi)) | (go_at_call 18; (with_reducible refine (reference_zzContainsRune.calls t121 47 true _ A44.out).mono ?_); rintro e w48 ⟨rfl, hb⟩; have n0_ := Aside0.mk (below_step (by repeat (first | (with_reducible first | exact HB.out | apply below_alloc | apply pw_below_drewN | apply below_drew1) | exact HB.out)) hb); clear HB; have HB := n0_; clear n0_; (try clear hb); (try clear hb2); (try clear hk); (try clear hi)))
                go_ret2
                exact ⟨by first | rfl | (simp [errW_none, errW_some] <;> rfl) | (simp [*, errW_none, errW_some] <;> rfl), by repeat (first | (with_reducible first | exact HB.out | apply below_alloc | apply pw_below_drewN | apply below_drew1) | exact HB.out)⟩
              · replace c45 := Bool.eq_false_iff.mpr c45
                subst c45
                have H1 : (if 8 + t121.size ≤ 9223372036854775807 then (some (t120, (⟨#[108, 105, 98, 114, 97, 114, 121, 47]⟩ : ByteArray) ++ t121)) else (none)) = some (r1, r2) := by rw [if_neg (show ¬ (false = true) by decide)] at H; exact H
                clear H
                have H := H1
                clear H1
                by_cases c49 : 8 + t121.size ≤ 9223372036854775807
                · rw [if_pos c49] at H
                  have c49b0 := eq_true c49
                  have c49b1 : decide (8 + t121.size ≤ 9223372036854775807) = true := decide_eq_true c49
                  try have c49b2 : (9223372036854775807 < 8 + t121.size) = False := eq_false (Nat.not_lt.2 c49)
                  simp only [Option.some.injEq, Prod.mk.injEq] at H
                  obtain ⟨rfl, rfl⟩ := H
                  go_enter Try.func15, Try.ntmps15
                  go_wp2_with (first | ((with_reducible refine gate_callee (f := 19) rfl ?_); refine goesL_ (some 9) rfl rfl Try.func19 (by kernel_rfl) rfl #[.string a0, .string (⟨#[47]⟩ : ByteArray)] rfl (by (try simp only [List.map_toArray, List.map_cons, List.map_nil]); first | done | rfl | (simp only [List.length_drop, List.length_take]; rfl)) ?_; (with_reducible refine (reference_zzCut.calls k a0 (⟨#[47]⟩ : ByteArray) t120 t121 true _ A2.out).mono ?_); rintro e w' ⟨rfl, ⟨nd, rfl⟩⟩; refine ⟨_, rfl, ?_⟩) | ((with_reducible refine gate_callee (f := 20) rfl ?_); refine goesL_ (some 29) rfl rfl Try.func20 (by kernel_rfl) rfl #[.string t120, .string (⟨#[46, 58]⟩ : ByteArray)] rfl (by (try simp only [List.map_toArray, List.map_cons, List.map_nil]); first | done | rfl | (simp only [List.length_drop, List.length_take]; rfl)) ?_; (with_reducible refine (reference_zzContainsAny.calls t120 (⟨#[46, 58]⟩ : ByteArray) false _ A18.out).mono ?_); rintro e w50 ⟨rfl, hb⟩; refine ⟨_, rfl, ?_⟩; have n0_ := Aside0.mk (below_step (by repeat (first | (with_reducible first | exact HB.out | apply below_alloc | apply pw_below_drewN | apply below_drew1) | exact HB.out)) hb); clear HB; have HB := n0_; clear n0_; (try clear hb); (try clear hb2); (try clear hk); (try clear hi)) | ((with_reducible refine gate_callee (f := 21) rfl ?_); refine goesL_ (some 34) rfl rfl Try.func21 (by kernel_rfl) rfl #[.string t120] rfl (by (try simp only [List.map_toArray, List.map_cons, List.map_nil]); first | done | rfl | (simp only [List.length_drop, List.length_take]; rfl)) ?_; (with_reducible refine (reference_zzLower.calls t120 t127 _ A29.out).mono ?_); rintro e w51 ⟨rfl, hb⟩; refine ⟨_, rfl, ?_⟩; have n0_ := Aside0.mk (below_step (by repeat (first | (with_reducible first | exact HB.out | apply below_alloc | apply pw_below_drewN | apply below_drew1) | exact HB.out)) hb); clear HB; have HB := n0_; clear n0_; (try clear hb); (try clear hb2); (try clear hk); (try clear hi)) | (go_at_call 18; (with_reducible refine (reference_zzContainsRune.calls t121 47 false _ A44.out).mono ?_); rintro e w52 ⟨rfl, hb⟩; have n0_ := Aside0.mk (below_step (by repeat (first | (with_reducible first | exact HB.out | apply below_alloc | apply pw_below_drewN | apply below_drew1) | exact HB.out)) hb); clear HB; have HB := n0_; clear n0_; (try clear hb); (try clear hb2); (try clear hk); (try clear hi)))
                  go_ret2
                  exact ⟨by first | rfl | (simp [errW_none, errW_some] <;> rfl) | (simp [*, errW_none, errW_some] <;> rfl), by repeat (first | (with_reducible first | exact HB.out | apply below_alloc | apply pw_below_drewN | apply below_drew1) | exact HB.out)⟩
                · rw [if_neg c49] at H
                  exact absurd H (by simp)
            · rw [if_neg c43] at H
              have c43b0 : (t120.toList == ([100, 111, 99, 107, 101, 114, 46, 105, 111] : List UInt8)) = false := beq_eq_false_iff_ne.mpr c43
              have c43b1 : (t120.toList != ([100, 111, 99, 107, 101, 114, 46, 105, 111] : List UInt8)) = true := bne_iff_ne.mpr c43
              simp only [Option.some.injEq, Prod.mk.injEq] at H
              obtain ⟨rfl, rfl⟩ := H
              go_enter Try.func15, Try.ntmps15
              go_wp2_with (first | ((with_reducible refine gate_callee (f := 19) rfl ?_); refine goesL_ (some 9) rfl rfl Try.func19 (by kernel_rfl) rfl #[.string a0, .string (⟨#[47]⟩ : ByteArray)] rfl (by (try simp only [List.map_toArray, List.map_cons, List.map_nil]); first | done | rfl | (simp only [List.length_drop, List.length_take]; rfl)) ?_; (with_reducible refine (reference_zzCut.calls k a0 (⟨#[47]⟩ : ByteArray) t120 t121 true _ A2.out).mono ?_); rintro e w' ⟨rfl, ⟨nd, rfl⟩⟩; refine ⟨_, rfl, ?_⟩) | ((with_reducible refine gate_callee (f := 20) rfl ?_); refine goesL_ (some 29) rfl rfl Try.func20 (by kernel_rfl) rfl #[.string t120, .string (⟨#[46, 58]⟩ : ByteArray)] rfl (by (try simp only [List.map_toArray, List.map_cons, List.map_nil]); first | done | rfl | (simp only [List.length_drop, List.length_take]; rfl)) ?_; (with_reducible refine (reference_zzContainsAny.calls t120 (⟨#[46, 58]⟩ : ByteArray) false _ A18.out).mono ?_); rintro e w53 ⟨rfl, hb⟩; refine ⟨_, rfl, ?_⟩; have n0_ := Aside0.mk (below_step (by repeat (first | (with_reducible first | exact HB.out | apply below_alloc | apply pw_below_drewN | apply below_drew1) | exact HB.out)) hb); clear HB; have HB := n0_; clear n0_; (try clear hb); (try clear hb2); (try clear hk); (try clear hi)) | ((with_reducible refine gate_callee (f := 21) rfl ?_); refine goesL_ (some 34) rfl rfl Try.func21 (by kernel_rfl) rfl #[.string t120] rfl (by (try simp only [List.map_toArray, List.map_cons, List.map_nil]); first | done | rfl | (simp only [List.length_drop, List.length_take]; rfl)) ?_; (with_reducible refine (reference_zzLower.calls t120 t127 _ A29.out).mono ?_); rintro e w54 ⟨rfl, hb⟩; refine ⟨_, rfl, ?_⟩; have n0_ := Aside0.mk (below_step (by repeat (first | (with_reducible first | exact HB.out | apply below_alloc | apply pw_below_drewN | apply below_drew1) | exact HB.out)) hb); clear HB; have HB := n0_; clear n0_; (try clear hb); (try clear hb2); (try clear hk); (try clear hi)))
              go_ret2
              exact ⟨by first | rfl | (simp [errW_none, errW_some] <;> rfl) | (simp [*, errW_none, errW_some] <;> rfl), by repeat (first | (with_reducible first | exact HB.out | apply below_alloc | apply pw_below_drewN | apply below_drew1) | exact HB.out)⟩
  · replace c3 := Bool.eq_false_iff.mpr c3
    subst c3
    have H1 : (if 8 + a0.size ≤ 9223372036854775807 then (some ((⟨#[100, 111, 99, 107, 101, 114, 46, 105, 111]⟩ : ByteArray), (⟨#[108, 105, 98, 114, 97, 114, 121, 47]⟩ : ByteArray) ++ a0)) else (none)) = some (r1, r2) := by rw [if_neg (show ¬ (false = true) by decide)] at H; exact H
    clear H
    have H := H1
    clear H1
    by_cases c55 : 8 + a0.size ≤ 9223372036854775807
    · rw [if_pos c55] at H
      have c55b0 := eq_true c55
      have c55b1 : decide (8 + a0.size ≤ 9223372036854775807) = true := decide_eq_true c55
      try have c55b2 : (9223372036854775807 < 8 + a0.size) = False := eq_false (Nat.not_lt.2 c55)
      simp only [Option.some.injEq, Prod.mk.injEq] at H
      obtain ⟨rfl, rfl⟩ := H
      go_enter Try.func15, Try.ntmps15
      go_wp2_with (first | ((with_reducible refine gate_callee (f := 19) rfl ?_); refine goesL_ (some 9) rfl rfl Try.func19 (by kernel_rfl) rfl #[.string a0, .string (⟨#[47]⟩ : ByteArray)] rfl (by (try simp only [List.map_toArray, List.map_cons, List.map_nil]); first | done | rfl | (simp only [List.length_drop, List.length_take]; rfl)) ?_; (with_reducible refine (reference_zzCut.calls k a0 (⟨#[47]⟩ : ByteArray) t120 t121 false _ A2.out).mono ?_); rintro e w' ⟨rfl, ⟨nd, rfl⟩⟩; refine ⟨_, rfl, ?_⟩))
      go_ret2
      exact ⟨by first | rfl | (simp [errW_none, errW_some] <;> rfl) | (simp [*, errW_none, errW_some] <;> rfl), by repeat (first | (with_reducible first | exact HB.out | apply below_alloc | apply pw_below_drewN | apply below_drew1) | exact HB.out)⟩
    · rw [if_neg c55] at H
      exact absurd H (by simp)

/-! ### reference_ZZSplitDocker: function 13 -/
def reference_ZZSplitDocker.f (k : Nat) (a0 : ByteArray) : Option (ByteArray × ByteArray) := (reference_splitDockerDomain.f k a0).bind fun bt130 => (some (bt130.1, bt130.2))
theorem reference_ZZSplitDocker.mono : ∀ a0 k, LeO (reference_ZZSplitDocker.f k a0) (reference_ZZSplitDocker.f (k + 1) a0) := by
  intro a0 k
  unfold reference_ZZSplitDocker.f
  repeat' first
      | (with_reducible exact reference_splitDockerDomain.mono _ _)
      | (with_reducible exact LeO.refl _)
      | (with_reducible exact LeO.none _)
      | (with_reducible refine LeO.ite ?_ ?_)
      | (with_reducible refine LeO.bind ?_ (fun _ => ?_))
      | exact reference_splitDockerDomain.mono _ _
      | exact LeO.none _
      | refine LeO.ite ?_ ?_
      | refine LeO.bind ?_ (fun _ => ?_)
set_option maxHeartbeats 8000000 in
set_option maxRecDepth 100000 in
theorem reference_ZZSplitDocker.calls (k : Nat) (a0 : ByteArray) (r1 : ByteArray) (r2 : ByteArray) (w : World) (h : reference_ZZSplitDocker.f k a0 = some (r1, r2)) :
    Calls Try.prog 13 #[.string a0] w fun e w' => e = .returned (.tuple #[.string r1, .string r2]) ∧ Below w.heap.size w w' := by
  have HB := Aside0.mk (Below.refl w.heap.size w)
  have H : ((reference_splitDockerDomain.f k a0).bind fun bt130 => (some (bt130.1, bt130.2))) = some (r1, r2) := h
  clear h
  replace H := Option.bind_eq_some_iff.mp H
  obtain ⟨⟨t130, t131⟩, A20, H⟩ := H
  replace H : (some (t130, t131)) = some (r1, r2) := H
  have A2 := Aside0.mk A20
  clear A20
  simp only [Option.some.injEq, Prod.mk.injEq] at H
  obtain ⟨rfl, rfl⟩ := H
  go_enter Try.func13, Try.ntmps13
  go_wp2_with (first | ((with_reducible refine gate_callee (f := 15) rfl ?_); refine goesL_ (some 5) rfl rfl Try.func15 (by kernel_rfl) rfl #[.string a0] rfl (by (try simp only [List.map_toArray, List.map_cons, List.map_nil]); first | done | rfl | (simp only [List.length_drop, List.length_take]; rfl)) ?_; (with_reducible refine (reference_splitDockerDomain.calls k a0 t130 t131 _ A2.out).mono ?_); rintro e w3 ⟨rfl, hb⟩; refine ⟨_, rfl, ?_⟩; have n0_ := Aside0.mk (below_step (by repeat (first | (with_reducible first | exact HB.out | apply below_alloc | apply pw_below_drewN | apply below_drew1) | exact HB.out)) hb); clear HB; have HB := n0_; clear n0_; (try clear hb); (try clear hb2); (try clear hk); (try clear hi)))
  go_ret2
  exact ⟨by first | rfl | (simp [errW_none, errW_some] <;> rfl) | (simp [*, errW_none, errW_some] <;> rfl), by repeat (first | (with_reducible first | exact HB.out | apply below_alloc | apply pw_below_drewN | apply below_drew1) | exact HB.out)⟩

/-! ### impl_RefSplitDocker: function 8 -/
def impl_RefSplitDocker.f (k : Nat) (a0 : ByteArray) : Option (ByteArray × ByteArray) := (reference_ZZSplitDocker.f k a0).bind fun bt132 => (some (bt132.1, bt132.2))
theorem impl_RefSplitDocker.mono : ∀ a0 k, LeO (impl_RefSplitDocker.f k a0) (impl_RefSplitDocker.f (k + 1) a0) := by
  intro a0 k
  unfold impl_RefSplitDocker.f
  repeat' first
      | (with_reducible exact reference_ZZSplitDocker.mono _ _)
      | (with_reducible exact LeO.refl _)
      | (with_reducible exact LeO.none _)
      | (with_reducible refine LeO.ite ?_ ?_)
      | (with_reducible refine LeO.bind ?_ (fun _ => ?_))
      | exact reference_ZZSplitDocker.mono _ _
      | exact LeO.none _
      | refine LeO.ite ?_ ?_
      | refine LeO.bind ?_ (fun _ => ?_)
set_option maxHeartbeats 8000000 in
set_option maxRecDepth 100000 in
theorem impl_RefSplitDocker.calls (k : Nat) (a0 : ByteArray) (r1 : ByteArray) (r2 : ByteArray) (w : World) (h : impl_RefSplitDocker.f k a0 = some (r1, r2)) :
    Calls Try.prog 8 #[.string a0] w fun e w' => e = .returned (.tuple #[.string r1, .string r2]) ∧ Below w.heap.size w w' := by
  have HB := Aside0.mk (Below.refl w.heap.size w)
  have H : ((reference_ZZSplitDocker.f k a0).bind fun bt132 => (some (bt132.1, bt132.2))) = some (r1, r2) := h
  clear h
  replace H := Option.bind_eq_some_iff.mp H
  obtain ⟨⟨t132, t133⟩, A20, H⟩ := H
  replace H : (some (t132, t133)) = some (r1, r2) := H
  have A2 := Aside0.mk A20
  clear A20
  simp only [Option.some.injEq, Prod.mk.injEq] at H
  obtain ⟨rfl, rfl⟩ := H
  go_enter Try.func8, Try.ntmps8
  go_wp2_with (first | ((with_reducible refine gate_callee (f := 13) rfl ?_); refine goesL_ (some 5) rfl rfl Try.func13 (by kernel_rfl) rfl #[.string a0] rfl (by (try simp only [List.map_toArray, List.map_cons, List.map_nil]); first | done | rfl | (simp only [List.length_drop, List.length_take]; rfl)) ?_; (with_reducible refine (reference_ZZSplitDocker.calls k a0 t132 t133 _ A2.out).mono ?_); rintro e w3 ⟨rfl, hb⟩; refine ⟨_, rfl, ?_⟩; have n0_ := Aside0.mk (below_step (by repeat (first | (with_reducible first | exact HB.out | apply below_alloc | apply pw_below_drewN | apply below_drew1) | exact HB.out)) hb); clear HB; have HB := n0_; clear n0_; (try clear hb); (try clear hb2); (try clear hk); (try clear hi)))
  go_ret2
  exact ⟨by first | rfl | (simp [errW_none, errW_some] <;> rfl) | (simp [*, errW_none, errW_some] <;> rfl), by repeat (first | (with_reducible first | exact HB.out | apply below_alloc | apply pw_below_drewN | apply below_drew1) | exact HB.out)⟩

end Go.Proofs.Ytgbmhkmhpmkadaa.QW
