-- written by a program of mine (wip/tools/myprint.py) for this claim. Not trusted: Lean checks it.
import Derived.Test.YtdomidlpkffigaaDoorQGx0
import Derived.Test.YtdomidlpkffigaaDoorQGx1
import Derived.Test.YtdomidlpkffigaaDoorQGx2
namespace Go.Proofs.YtdomidlpkffigaaDoor.QG
open Go.RowKit Go.Proofs.YtdomidlpkffigaaDoorW.PrintWords Go.Proofs.YtdomidlpkffigaaDoorW.PrintLast Go.Proofs.YtdomidlpkffigaaDoorW.PrintMore
attribute [local go_sem] max2_int min2_int max_two min_two max_three min_three max_four min_four   -- for this text's walks alone
set_option linter.unusedVariables false
set_option linter.unusedSimpArgs false

/-! ### spec_ValidPre: function 39 -/
def spec_ValidPre.l0 : Nat → List ByteArray → Int → Int → Option (Bool)
  | 0, _, _, _ => none
  | k + 1, x6, x7, x8 => if x8 < x7 then (if 0 ≤ x8 then (if x8 < (x6.length : Int) then ((spec_ValidIdent.f k (rdOf ByteArray.empty x6 x8)).bind fun t119 => (if t119 = true then ((spec_Digits.f k (rdOf ByteArray.empty x6 x8)).bind fun t120 => (if t120 = true then (if ((rdOf ByteArray.empty x6 x8).size : Int) > 1 then (if 0 < ((rdOf ByteArray.empty x6 x8).size : Int) then (if (bt (rdOf ByteArray.empty x6 x8) 0) = 48 then (some false) else (spec_ValidPre.l0 k x6 x7 (wrap64 (x8 + 1)))) else (none)) else (spec_ValidPre.l0 k x6 x7 (wrap64 (x8 + 1)))) else (spec_ValidPre.l0 k x6 x7 (wrap64 (x8 + 1))))) else (some false))) else (none)) else (none)) else (some true)
def spec_ValidPre.f (k : Nat) (a0 : ByteArray) : Option (Bool) := (spec_Identifiers.f k a0).bind fun t115 => (spec_ValidPre.l0 k t115 (t115.length : Int) 0)
theorem spec_ValidPre.mono_l : ∀ k, (∀ y0 y1 y2, LeO (spec_ValidPre.l0 k y0 y1 y2) (spec_ValidPre.l0 (k + 1) y0 y1 y2))
  | 0 => fun _ _ _ r h => by simp [spec_ValidPre.l0] at h
  | k + 1 => by
    have ih0 := spec_ValidPre.mono_l k
    · intro y0 y1 y2
      unfold spec_ValidPre.l0
      repeat' first
      | (with_reducible exact ih0 _ _ _)
      | (with_reducible exact spec_Digits.mono _ _)
      | (with_reducible exact spec_Identifiers.mono _ _)
      | (with_reducible exact spec_ValidIdent.mono _ _)
      | (with_reducible exact LeO.refl _)
      | (with_reducible exact LeO.none _)
      | (with_reducible refine LeO.ite ?_ ?_)
      | (with_reducible refine LeO.bind ?_ (fun _ => ?_))
      | exact ih0 _ _ _
      | exact spec_Digits.mono _ _
      | exact spec_Identifiers.mono _ _
      | exact spec_ValidIdent.mono _ _
      | exact LeO.none _
      | refine LeO.ite ?_ ?_
      | refine LeO.bind ?_ (fun _ => ?_)
theorem spec_ValidPre.mono : ∀ a0 k, LeO (spec_ValidPre.f k a0) (spec_ValidPre.f (k + 1) a0) := by
  intro a0 k
  have ih0 := spec_ValidPre.mono_l k
  unfold spec_ValidPre.f
  repeat' first
      | (with_reducible exact ih0 _ _ _)
      | (with_reducible exact spec_Digits.mono _ _)
      | (with_reducible exact spec_Identifiers.mono _ _)
      | (with_reducible exact spec_ValidIdent.mono _ _)
      | (with_reducible exact LeO.refl _)
      | (with_reducible exact LeO.none _)
      | (with_reducible refine LeO.ite ?_ ?_)
      | (with_reducible refine LeO.bind ?_ (fun _ => ?_))
      | exact ih0 _ _ _
      | exact spec_Digits.mono _ _
      | exact spec_Identifiers.mono _ _
      | exact spec_ValidIdent.mono _ _
      | exact LeO.none _
      | refine LeO.ite ?_ ?_
      | refine LeO.bind ?_ (fun _ => ?_)
set_option maxHeartbeats 8000000 in
set_option maxRecDepth 100000 in
theorem spec_ValidPre.calls (k : Nat) (a0 : ByteArray) (r : Bool) (w : World) (h : spec_ValidPre.f k a0 = some r) :
    Calls Tryd.prog 39 #[.string a0] w fun e w' => e = .returned (.bool r) ∧ Below w.heap.size w w' := by
  have HB := Aside0.mk (Below.refl w.heap.size w)
  have H : ((spec_Identifiers.f k a0).bind fun t115 => (spec_ValidPre.l0 k t115 (t115.length : Int) 0)) = some r := h
  clear h
  replace H := Option.bind_eq_some_iff.mp H
  obtain ⟨t115, A20, H⟩ := H
  replace H : (spec_ValidPre.l0 k t115 (t115.length : Int) 0) = some r := H
  have A2 := Aside0.mk A20
  clear A20
  have H' := Aside0.mk H
  clear H
  go_enter Tryd.func39, Tryd.ntmps39
  go_wp2_with (first | ((with_reducible refine gate_callee (f := 21) rfl ?_); refine goesL_ (some 6) rfl rfl Tryd.func21 (by kernel_rfl) rfl #[.string a0] rfl (by (try simp only [List.map_toArray, List.map_cons, List.map_nil]); first | done | rfl | (simp only [List.length_drop, List.length_take]; rfl)) ?_; (with_reducible refine (spec_Identifiers.calls k a0 t115 _ A2.out).mono ?_); rintro e w3 ⟨v116, rfl, ho0, hb⟩; refine ⟨_, rfl, ?_⟩; have n0_ := Aside0.mk (Kd.R_lower ho0 (below_size (by repeat (first | (with_reducible first | exact HB.out | apply below_alloc | apply pw_below_drewN | apply below_drew1) | exact HB.out)))); have n1_ := Aside0.mk (below_step (by repeat (first | (with_reducible first | exact HB.out | apply below_alloc | apply pw_below_drewN | apply below_drew1) | exact HB.out)) hb); clear HB; have HO117 := n0_; have HB := n1_; clear n0_ n1_; (try clear hb); (try clear hb2); (try clear hk); (try clear hi); (try clear ho0); obtain ⟨Ao4, co4, eo4⟩ := Kd.R_slice HO117.out; subst eo4))
  go_loopg [8] k (fun kq v8 w' => ∃ (x8_1 : Int), v8 = .int .i64 x8_1 ∧ Aside0 (spec_ValidPre.l0 kq t115 (t115.length : Int) x8_1 = some r) ∧ Aside0 (kq ≤ k) ∧ Aside0 (Kd.R Kd.string 9 w' w.heap.size (fun _ => True) (.slice Ao4 t115.length co4) t115) ∧ Aside0 (Below w.heap.size w w'))
  case atStart => exact ⟨(0), (by first | rfl | (simp; done) | (simp [*]; done) | (simp [nil_bne]; done)), H', ⟨Nat.le_refl _⟩, ⟨by (with_reducible repeat (first | apply Kd.R_alloc | apply Kd.R_drewN | apply Kd.R_drew)); exact HO117.out⟩, ⟨by repeat (first | (with_reducible first | exact HB.out | apply below_alloc | apply pw_below_drewN | apply below_drew1) | exact HB.out)⟩⟩
  case round =>
    clear H'
    try clear c2
    try clear p2
    try clear c3
    obtain ⟨x8_1, rfl, HA, HK1, HO_6, HB⟩ := hrel
    cases gk with
    | zero => exact absurd HA.out (by simp [spec_ValidPre.l0])
    | succ k1 =>
      have H := HA.out
      clear HA
      simp only [spec_ValidPre.l0] at H
      by_cases c5 : x8_1 < (t115.length : Int)
      · rw [if_pos c5] at H
        have c5b0 : decide (x8_1 < (t115.length : Int)) = true := decide_eq_true c5
        clear c5
        by_cases c6 : 0 ≤ x8_1
        · rw [if_pos c6] at H
          have c6b0 : decide (0 ≤ x8_1) = true := decide_eq_true c6
          clear c6
          by_cases c7 : x8_1 < (t115.length : Int)
          · rw [if_pos c7] at H
            have c7b0 : decide (x8_1 < (t115.length : Int)) = true := decide_eq_true c7
            clear c7
            replace H := Option.bind_eq_some_iff.mp H
            obtain ⟨t119, A80, H⟩ := H
            replace H : (if t119 = true then ((spec_Digits.f k1 (rdOf ByteArray.empty t115 x8_1)).bind fun t120 => (if t120 = true then (if ((rdOf ByteArray.empty t115 x8_1).size : Int) > 1 then (if 0 < ((rdOf ByteArray.empty t115 x8_1).size : Int) then (if (bt (rdOf ByteArray.empty t115 x8_1) 0) = 48 then (some false) else (spec_ValidPre.l0 k1 t115 (t115.length : Int) (wrap64 (x8_1 + 1)))) else (none)) else (spec_ValidPre.l0 k1 t115 (t115.length : Int) (wrap64 (x8_1 + 1)))) else (spec_ValidPre.l0 k1 t115 (t115.length : Int) (wrap64 (x8_1 + 1))))) else (some false)) = some r := H
            have A8 := Aside0.mk A80
            clear A80
            by_cases c9 : t119 = true
            · subst c9
              have H1 : ((spec_Digits.f k1 (rdOf ByteArray.empty t115 x8_1)).bind fun t120 => (if t120 = true then (if ((rdOf ByteArray.empty t115 x8_1).size : Int) > 1 then (if 0 < ((rdOf ByteArray.empty t115 x8_1).size : Int) then (if (bt (rdOf ByteArray.empty t115 x8_1) 0) = 48 then (some false) else (spec_ValidPre.l0 k1 t115 (t115.length : Int) (wrap64 (x8_1 + 1)))) else (none)) else (spec_ValidPre.l0 k1 t115 (t115.length : Int) (wrap64 (x8_1 + 1)))) else (spec_ValidPre.l0 k1 t115 (t115.length : Int) (wrap64 (x8_1 + 1))))) = some r := by rw [if_pos rfl] at H; exact H
              clear H
              have H := H1
              clear H1
              replace H := Option.bind_eq_some_iff.mp H
              obtain ⟨t120, A100, H⟩ := H
              replace H : (if t120 = true then (if ((rdOf ByteArray.empty t115 x8_1).size : Int) > 1 then (if 0 < ((rdOf ByteArray.empty t115 x8_1).size : Int) then (if (bt (rdOf ByteArray.empty t115 x8_1) 0) = 48 then (some false) else (spec_ValidPre.l0 k1 t115 (t115.length : Int) (wrap64 (x8_1 + 1)))) else (none)) else (spec_ValidPre.l0 k1 t115 (t115.length : Int) (wrap64 (x8_1 + 1)))) else (spec_ValidPre.l0 k1 t115 (t115.length : Int) (wrap64 (x8_1 + 1)))) = some r := H
              have A10 := Aside0.mk A100
              clear A100
              by_cases c11 : t120 = true
              · subst c11
                have H1 : (if ((rdOf ByteArray.empty t115 x8_1).size : Int) > 1 then (if 0 < ((rdOf ByteArray.empty t115 x8_1).size : Int) then (if (bt (rdOf ByteArray.empty t115 x8_1) 0) = 48 then (some false) else (spec_ValidPre.l0 k1 t115 (t115.length : Int) (wrap64 (x8_1 + 1)))) else (none)) else (spec_ValidPre.l0 k1 t115 (t115.length : Int) (wrap64 (x8_1 + 1)))) = some r := by rw [if_pos rfl] at H; exact H
                clear H
                have H := H1
                clear H1
                by_cases c12 : ((rdOf ByteArray.empty t115 x8_1).size : Int) > 1
                · rw [if_pos c12] at H
                  have c12b0 : decide (1 < ((rdOf ByteArray.empty t115 x8_1).size : Int)) = true := decide_eq_true c12
                  have c12b1 : decide (1 < (rdOf ByteArray.empty t115 x8_1).size) = true := decide_eq_true (by omega)
                  clear c12
                  by_cases c13 : 0 < ((rdOf ByteArray.empty t115 x8_1).size : Int)
                  · rw [if_pos c13] at H
                    have c13b0 : decide (0 < ((rdOf ByteArray.empty t115 x8_1).size : Int)) = true := decide_eq_true c13
                    have c13b1 : decide (0 < (rdOf ByteArray.empty t115 x8_1).size) = true := decide_eq_true (by omega)
                    clear c13
                    by_cases c15 : (bt (rdOf ByteArray.empty t115 x8_1) 0) = 48
                    · rw [if_pos c15] at H
                      have c15b0 : ((bt (rdOf ByteArray.empty t115 x8_1) 0) == 48) = true := beq_iff_eq.mpr c15
                      have c15b1 : ((bt (rdOf ByteArray.empty t115 x8_1) 0) != 48) = false := bne_eq_false_iff_eq.mpr c15
                      clear c15
                      obtain rfl := Option.some.inj H
                      have p118 : 0 ≤ (x8_1 : Int) := of_decide_eq_true (by first | (with_reducible assumption) | assumption)
                      have q118 : x8_1 < (t115.length : Int) := of_decide_eq_true (by first | (with_reducible assumption) | assumption)
                      obtain ⟨ad118, e118, hx118_0⟩ := Kd.at_string (Kd.R_reads' HO_6.out).2.2 x8_1 p118 q118
                      cases e118
                      replace p118 := eq_true p118
                      replace q118 := eq_true q118
                      go_wp2_with (first | ((with_reducible refine gate_callee (f := 50) rfl ?_); refine goesL_ (some 13) rfl rfl Tryd.func50 (by kernel_rfl) rfl #[.string (rdOf ByteArray.empty t115 x8_1)] rfl (by (try simp only [List.map_toArray, List.map_cons, List.map_nil]); first | done | rfl | (simp only [List.length_drop, List.length_take]; rfl)) ?_; (with_reducible refine (spec_ValidIdent.calls k1 (rdOf ByteArray.empty t115 x8_1) true _ A8.out).mono ?_); rintro e w' ⟨rfl, ⟨nd, rfl⟩⟩; refine ⟨_, rfl, ?_⟩) | (go_at_call 40; (with_reducible refine (spec_Digits.calls k1 (rdOf ByteArray.empty t115 x8_1) true _ A10.out).mono ?_); rintro e w' ⟨rfl, ⟨nd, rfl⟩⟩; have p14 : 0 ≤ (0 : Int) := (by omega); have q14 : 0 < (rdOf ByteArray.empty t115 x8_1).size := (by have : (0 : Int) < ((rdOf ByteArray.empty t115 x8_1).size : Int) := of_decide_eq_true (by first | (with_reducible assumption) | assumption); omega); have hx14 : ∀ h : 0 < (rdOf ByteArray.empty t115 x8_1).size, (((rdOf ByteArray.empty t115 x8_1)[0]'h).toNat : Int) = bt (rdOf ByteArray.empty t115 x8_1) 0 := bt_at (rdOf ByteArray.empty t115 x8_1) 0; clear p14; have qi14 : (0 < ((rdOf ByteArray.empty t115 x8_1).size : Int)) = True := eq_true (of_decide_eq_true (by first | (with_reducible assumption) | assumption)); replace q14 := eq_true q14))
                      go_ret
                      exact ⟨by first | rfl | (simp [errW_none, errW_some] <;> rfl) | (simp [*, errW_none, errW_some] <;> rfl), by repeat (first | (with_reducible first | exact HB.out | apply below_alloc | apply pw_below_drewN | apply below_drew1) | exact HB.out)⟩
                    · rw [if_neg c15] at H
                      have c15b0 : ((bt (rdOf ByteArray.empty t115 x8_1) 0) == 48) = false := beq_eq_false_iff_ne.mpr c15
                      have c15b1 : ((bt (rdOf ByteArray.empty t115 x8_1) 0) != 48) = true := bne_iff_ne.mpr c15
                      have H' := Aside0.mk H
                      clear H
                      have p118 : 0 ≤ (x8_1 : Int) := of_decide_eq_true (by first | (with_reducible assumption) | assumption)
                      have q118 : x8_1 < (t115.length : Int) := of_decide_eq_true (by first | (with_reducible assumption) | assumption)
                      obtain ⟨ad118, e118, hx118_0⟩ := Kd.at_string (Kd.R_reads' HO_6.out).2.2 x8_1 p118 q118
                      cases e118
                      replace p118 := eq_true p118
                      replace q118 := eq_true q118
                      go_wp2_with (first | ((with_reducible refine gate_callee (f := 50) rfl ?_); refine goesL_ (some 13) rfl rfl Tryd.func50 (by kernel_rfl) rfl #[.string (rdOf ByteArray.empty t115 x8_1)] rfl (by (try simp only [List.map_toArray, List.map_cons, List.map_nil]); first | done | rfl | (simp only [List.length_drop, List.length_take]; rfl)) ?_; (with_reducible refine (spec_ValidIdent.calls k1 (rdOf ByteArray.empty t115 x8_1) true _ A8.out).mono ?_); rintro e w' ⟨rfl, ⟨nd, rfl⟩⟩; refine ⟨_, rfl, ?_⟩) | (go_at_call 40; (with_reducible refine (spec_Digits.calls k1 (rdOf ByteArray.empty t115 x8_1) true _ A10.out).mono ?_); rintro e w' ⟨rfl, ⟨nd, rfl⟩⟩; have p14 : 0 ≤ (0 : Int) := (by omega); have q14 : 0 < (rdOf ByteArray.empty t115 x8_1).size := (by have : (0 : Int) < ((rdOf ByteArray.empty t115 x8_1).size : Int) := of_decide_eq_true (by first | (with_reducible assumption) | assumption); omega); have hx14 : ∀ h : 0 < (rdOf ByteArray.empty t115 x8_1).size, (((rdOf ByteArray.empty t115 x8_1)[0]'h).toNat : Int) = bt (rdOf ByteArray.empty t115 x8_1) 0 := bt_at (rdOf ByteArray.empty t115 x8_1) 0; clear p14; have qi14 : (0 < ((rdOf ByteArray.empty t115 x8_1).size : Int)) = True := eq_true (of_decide_eq_true (by first | (with_reducible assumption) | assumption)); replace q14 := eq_true q14))
                      go_roundg k1
                      case measure => have := HK1.out; omega
                      case rel => exact ⟨(wrap64 (x8_1 + 1)), (by first | rfl | (simp; done) | (simp [*]; done) | (simp [nil_bne]; done)), H', ⟨by have := HK1.out; omega⟩, ⟨by (with_reducible repeat (first | apply Kd.R_alloc | apply Kd.R_drewN | apply Kd.R_drew)); exact HO_6.out⟩, ⟨by repeat (first | (with_reducible first | exact HB.out | apply below_alloc | apply pw_below_drewN | apply below_drew1) | exact HB.out)⟩⟩
                  · rw [if_neg c13] at H
                    exact absurd H (by simp)
                · rw [if_neg c12] at H
                  have c12b0 : decide (1 < ((rdOf ByteArray.empty t115 x8_1).size : Int)) = false := decide_eq_false c12
                  have c12b1 : decide (1 < (rdOf ByteArray.empty t115 x8_1).size) = false := decide_eq_false (by omega)
                  clear c12
                  have H' := Aside0.mk H
                  clear H
                  have p118 : 0 ≤ (x8_1 : Int) := of_decide_eq_true (by first | (with_reducible assumption) | assumption)
                  have q118 : x8_1 < (t115.length : Int) := of_decide_eq_true (by first | (with_reducible assumption) | assumption)
                  obtain ⟨ad118, e118, hx118_0⟩ := Kd.at_string (Kd.R_reads' HO_6.out).2.2 x8_1 p118 q118
                  cases e118
                  replace p118 := eq_true p118
                  replace q118 := eq_true q118
                  go_wp2_with (first | ((with_reducible refine gate_callee (f := 50) rfl ?_); refine goesL_ (some 13) rfl rfl Tryd.func50 (by kernel_rfl) rfl #[.string (rdOf ByteArray.empty t115 x8_1)] rfl (by (try simp only [List.map_toArray, List.map_cons, List.map_nil]); first | done | rfl | (simp only [List.length_drop, List.length_take]; rfl)) ?_; (with_reducible refine (spec_ValidIdent.calls k1 (rdOf ByteArray.empty t115 x8_1) true _ A8.out).mono ?_); rintro e w' ⟨rfl, ⟨nd, rfl⟩⟩; refine ⟨_, rfl, ?_⟩) | (go_at_call 40; (with_reducible refine (spec_Digits.calls k1 (rdOf ByteArray.empty t115 x8_1) true _ A10.out).mono ?_); rintro e w' ⟨rfl, ⟨nd, rfl⟩⟩))
                  go_roundg k1
                  case measure => have := HK1.out; omega
                  case rel => exact ⟨(wrap64 (x8_1 + 1)), (by first | rfl | (simp; done) | (simp [*]; done) | (simp [nil_bne]; done)), H', ⟨by have := HK1.out; omega⟩, ⟨by (with_reducible repeat (first | apply Kd.R_alloc | apply Kd.R_drewN | apply Kd.R_drew)); exact HO_6.out⟩, ⟨by repeat (first | (with_reducible first | exact HB.out | apply below_alloc | apply pw_below_drewN | apply below_drew1) | exact HB.out)⟩⟩
              · replace c11 := Bool.eq_false_iff.mpr c11
                subst c11
                have H1 : (spec_ValidPre.l0 k1 t115 (t115.length : Int) (wrap64 (x8_1 + 1))) = some r := by rw [if_neg (show ¬ (false = true) by decide)] at H; exact H
                clear H
                have H := H1
                clear H1
                have H' := Aside0.mk H
                clear H
                have p118 : 0 ≤ (x8_1 : Int) := of_decide_eq_true (by first | (with_reducible assumption) | assumption)
                have q118 : x8_1 < (t115.length : Int) := of_decide_eq_true (by first | (with_reducible assumption) | assumption)
                obtain ⟨ad118, e118, hx118_0⟩ := Kd.at_string (Kd.R_reads' HO_6.out).2.2 x8_1 p118 q118
                cases e118
                replace p118 := eq_true p118
                replace q118 := eq_true q118
                go_wp2_with (first | ((with_reducible refine gate_callee (f := 50) rfl ?_); refine goesL_ (some 13) rfl rfl Tryd.func50 (by kernel_rfl) rfl #[.string (rdOf ByteArray.empty t115 x8_1)] rfl (by (try simp only [List.map_toArray, List.map_cons, List.map_nil]); first | done | rfl | (simp only [List.length_drop, List.length_take]; rfl)) ?_; (with_reducible refine (spec_ValidIdent.calls k1 (rdOf ByteArray.empty t115 x8_1) true _ A8.out).mono ?_); rintro e w' ⟨rfl, ⟨nd, rfl⟩⟩; refine ⟨_, rfl, ?_⟩) | (go_at_call 40; (with_reducible refine (spec_Digits.calls k1 (rdOf ByteArray.empty t115 x8_1) false _ A10.out).mono ?_); rintro e w' ⟨rfl, ⟨nd, rfl⟩⟩))
                go_roundg k1
                case measure => have := HK1.out; omega
                case rel => exact ⟨(wrap64 (x8_1 + 1)), (by first | rfl | (simp; done) | (simp [*]; done) | (simp [nil_bne]; done)), H', ⟨by have := HK1.out; omega⟩, ⟨by (with_reducible repeat (first | apply Kd.R_alloc | apply Kd.R_drewN | apply Kd.R_drew)); exact HO_6.out⟩, ⟨by repeat (first | (with_reducible first | exact HB.out | apply below_alloc | apply pw_below_drewN | apply below_drew1) | exact HB.out)⟩⟩
            · replace c9 := Bool.eq_false_iff.mpr c9
              subst c9
              have H1 : (some false) = some r := by rw [if_neg (show ¬ (false = true) by decide)] at H; exact H
              clear H
              have H := H1
              clear H1
              obtain rfl := Option.some.inj H
              have p118 : 0 ≤ (x8_1 : Int) := of_decide_eq_true (by first | (with_reducible assumption) | assumption)
              have q118 : x8_1 < (t115.length : Int) := of_decide_eq_true (by first | (with_reducible assumption) | assumption)
              obtain ⟨ad118, e118, hx118_0⟩ := Kd.at_string (Kd.R_reads' HO_6.out).2.2 x8_1 p118 q118
              cases e118
              replace p118 := eq_true p118
              replace q118 := eq_true q118
              go_wp2_with (first | ((with_reducible refine gate_callee (f := 50) rfl ?_); refine goesL_ (some 13) rfl rfl Tryd.func50 (by kernel_rfl) rfl #[.string (rdOf ByteArray.empty t115 x8_1)] rfl (by (try simp only [List.map_toArray, List.map_cons, List.map_nil]); first | done | rfl | (simp only [List.length_drop, List.length_take]; rfl)) ?_; (with_reducible refine (spec_ValidIdent.calls k1 (rdOf ByteArray.empty t115 x8_1) false _ A8.out).mono ?_); rintro e w' ⟨rfl, ⟨nd, rfl⟩⟩; refine ⟨_, rfl, ?_⟩))
              go_ret
              exact ⟨by first | rfl | (simp [errW_none, errW_some] <;> rfl) | (simp [*, errW_none, errW_some] <;> rfl), by repeat (first | (with_reducible first | exact HB.out | apply below_alloc | apply pw_below_drewN | apply below_drew1) | exact HB.out)⟩
          · rw [if_neg c7] at H
            exact absurd H (by simp)
        · rw [if_neg c6] at H
          exact absurd H (by simp)
      · rw [if_neg c5] at H
        have c5b0 : decide (x8_1 < (t115.length : Int)) = false := decide_eq_false c5
        clear c5
        obtain rfl := Option.some.inj H
        go_wp2
        go_ret
        exact ⟨by first | rfl | (simp [errW_none, errW_some] <;> rfl) | (simp [*, errW_none, errW_some] <;> rfl), by repeat (first | (with_reducible first | exact HB.out | apply below_alloc | apply pw_below_drewN | apply below_drew1) | exact HB.out)⟩

/-! ### spec_tails: function 20 -/
def spec_tails.f (k : Nat) (a0 : ByteArray) : Option (ByteArray × ByteArray × ByteArray × Bool) := (spec_cutAt.f k a0 43).bind fun bt121 => ((spec_cutAt.f k bt121.1 45).bind fun bt124 => (if bt121.2.2 = true then ((spec_ValidMeta.f k bt121.2.1).bind fun t127 => (if t127 = true then (if bt124.2.2 = true then ((spec_ValidPre.f k bt124.2.1).bind fun t128 => (some (bt124.1, bt124.2.1, bt121.2.1, t128))) else (some (bt124.1, bt124.2.1, bt121.2.1, true))) else (some (bt124.1, bt124.2.1, bt121.2.1, false)))) else (if bt124.2.2 = true then ((spec_ValidPre.f k bt124.2.1).bind fun t129 => (some (bt124.1, bt124.2.1, bt121.2.1, t129))) else (some (bt124.1, bt124.2.1, bt121.2.1, true)))))
theorem spec_tails.mono : ∀ a0 k, LeO (spec_tails.f k a0) (spec_tails.f (k + 1) a0) := by
  intro a0 k
  unfold spec_tails.f
  repeat' first
      | (with_reducible exact spec_ValidMeta.mono _ _)
      | (with_reducible exact spec_ValidPre.mono _ _)
      | (with_reducible exact spec_cutAt.mono _ _ _)
      | (with_reducible exact LeO.refl _)
      | (with_reducible exact LeO.none _)
      | (with_reducible refine LeO.ite ?_ ?_)
      | (with_reducible refine LeO.bind ?_ (fun _ => ?_))
      | exact spec_ValidMeta.mono _ _
      | exact spec_ValidPre.mono _ _
      | exact spec_cutAt.mono _ _ _
      | exact LeO.none _
      | refine LeO.ite ?_ ?_
      | refine LeO.bind ?_ (fun _ => ?_)
set_option maxHeartbeats 8000000 in
set_option maxRecDepth 100000 in
theorem spec_tails.calls (k : Nat) (a0 : ByteArray) (r1 : ByteArray) (r2 : ByteArray) (r3 : ByteArray) (r4 : Bool) (w : World) (h : spec_tails.f k a0 = some (r1, r2, r3, r4)) :
    Calls Tryd.prog 20 #[.string a0] w fun e w' => e = .returned (.tuple #[.string r1, .string r2, .string r3, .bool r4]) ∧ Below w.heap.size w w' := by
  have HB := Aside0.mk (Below.refl w.heap.size w)
  have H : ((spec_cutAt.f k a0 43).bind fun bt121 => ((spec_cutAt.f k bt121.1 45).bind fun bt124 => (if bt121.2.2 = true then ((spec_ValidMeta.f k bt121.2.1).bind fun t127 => (if t127 = true then (if bt124.2.2 = true then ((spec_ValidPre.f k bt124.2.1).bind fun t128 => (some (bt124.1, bt124.2.1, bt121.2.1, t128))) else (some (bt124.1, bt124.2.1, bt121.2.1, true))) else (some (bt124.1, bt124.2.1, bt121.2.1, false)))) else (if bt124.2.2 = true then ((spec_ValidPre.f k bt124.2.1).bind fun t129 => (some (bt124.1, bt124.2.1, bt121.2.1, t129))) else (some (bt124.1, bt124.2.1, bt121.2.1, true)))))) = some (r1, r2, r3, r4) := h
  clear h
  replace H := Option.bind_eq_some_iff.mp H
  obtain ⟨⟨t121, t122, t123⟩, A20, H⟩ := H
  replace H : ((spec_cutAt.f k t121 45).bind fun bt124 => (if t123 = true then ((spec_ValidMeta.f k t122).bind fun t127 => (if t127 = true then (if bt124.2.2 = true then ((spec_ValidPre.f k bt124.2.1).bind fun t128 => (some (bt124.1, bt124.2.1, t122, t128))) else (some (bt124.1, bt124.2.1, t122, true))) else (some (bt124.1, bt124.2.1, t122, false)))) else (if bt124.2.2 = true then ((spec_ValidPre.f k bt124.2.1).bind fun t129 => (some (bt124.1, bt124.2.1, t122, t129))) else (some (bt124.1, bt124.2.1, t122, true))))) = some (r1, r2, r3, r4) := H
  have A2 := Aside0.mk A20
  clear A20
  replace H := Option.bind_eq_some_iff.mp H
  obtain ⟨⟨t124, t125, t126⟩, A30, H⟩ := H
  replace H : (if t123 = true then ((spec_ValidMeta.f k t122).bind fun t127 => (if t127 = true then (if t126 = true then ((spec_ValidPre.f k t125).bind fun t128 => (some (t124, t125, t122, t128))) else (some (t124, t125, t122, true))) else (some (t124, t125, t122, false)))) else (if t126 = true then ((spec_ValidPre.f k t125).bind fun t129 => (some (t124, t125, t122, t129))) else (some (t124, t125, t122, true)))) = some (r1, r2, r3, r4) := H
  have A3 := Aside0.mk A30
  clear A30
  by_cases c4 : t123 = true
  · subst c4
    have H1 : ((spec_ValidMeta.f k t122).bind fun t127 => (if t127 = true then (if t126 = true then ((spec_ValidPre.f k t125).bind fun t128 => (some (t124, t125, t122, t128))) else (some (t124, t125, t122, true))) else (some (t124, t125, t122, false)))) = some (r1, r2, r3, r4) := by rw [if_pos rfl] at H; exact H
    clear H
    have H := H1
    clear H1
    replace H := Option.bind_eq_some_iff.mp H
    obtain ⟨t127, A50, H⟩ := H
    replace H : (if t127 = true then (if t126 = true then ((spec_ValidPre.f k t125).bind fun t128 => (some (t124, t125, t122, t128))) else (some (t124, t125, t122, true))) else (some (t124, t125, t122, false))) = some (r1, r2, r3, r4) := H
    have A5 := Aside0.mk A50
    clear A50
    by_cases c6 : t127 = true
    · subst c6
      have H1 : (if t126 = true then ((spec_ValidPre.f k t125).bind fun t128 => (some (t124, t125, t122, t128))) else (some (t124, t125, t122, true))) = some (r1, r2, r3, r4) := by rw [if_pos rfl] at H; exact H
      clear H
      have H := H1
      clear H1
      by_cases c7 : t126 = true
      · subst c7
        have H1 : ((spec_ValidPre.f k t125).bind fun t128 => (some (t124, t125, t122, t128))) = some (r1, r2, r3, r4) := by rw [if_pos rfl] at H; exact H
        clear H
        have H := H1
        clear H1
        replace H := Option.bind_eq_some_iff.mp H
        obtain ⟨t128, A80, H⟩ := H
        replace H : (some (t124, t125, t122, t128)) = some (r1, r2, r3, r4) := H
        have A8 := Aside0.mk A80
        clear A80
        simp only [Option.some.injEq, Prod.mk.injEq] at H
        obtain ⟨rfl, rfl, rfl, rfl⟩ := H
        go_enter Tryd.func20, Tryd.ntmps20
        go_wp2_with (first | ((with_reducible refine gate_callee (f := 37) rfl ?_); refine goesL_ (some 10) rfl rfl Tryd.func37 (by kernel_rfl) rfl #[.string a0, .int .u8 43] rfl (by (try simp only [List.map_toArray, List.map_cons, List.map_nil]); first | done | rfl | (simp only [List.length_drop, List.length_take]; rfl)) ?_; (with_reducible refine (spec_cutAt.calls k a0 43 t121 t122 true _ A2.out).mono ?_); rintro e w' ⟨rfl, ⟨nd, rfl⟩⟩; refine ⟨_, rfl, ?_⟩) | ((with_reducible refine gate_callee (f := 37) rfl ?_); refine goesL_ (some 16) rfl rfl Tryd.func37 (by kernel_rfl) rfl #[.string t121, .int .u8 45] rfl (by (try simp only [List.map_toArray, List.map_cons, List.map_nil]); first | done | rfl | (simp only [List.length_drop, List.length_take]; rfl)) ?_; (with_reducible refine (spec_cutAt.calls k t121 45 t124 t125 true _ A3.out).mono ?_); rintro e w' ⟨rfl, ⟨nd, rfl⟩⟩; refine ⟨_, rfl, ?_⟩) | (go_at_call 38; (with_reducible refine (spec_ValidMeta.calls k t122 true _ A5.out).mono ?_); rintro e w9 ⟨rfl, hb⟩; have n0_ := Aside0.mk (below_step (by repeat (first | (with_reducible first | exact HB.out | apply below_alloc | apply pw_below_drewN | apply below_drew1) | exact HB.out)) hb); clear HB; have HB := n0_; clear n0_; (try clear hb); (try clear hb2); (try clear hk); (try clear hi)) | (go_at_call 39; (with_reducible refine (spec_ValidPre.calls k t125 t128 _ A8.out).mono ?_); rintro e w10 ⟨rfl, hb⟩; have n0_ := Aside0.mk (below_step (by repeat (first | (with_reducible first | exact HB.out | apply below_alloc | apply pw_below_drewN | apply below_drew1) | exact HB.out)) hb); clear HB; have HB := n0_; clear n0_; (try clear hb); (try clear hb2); (try clear hk); (try clear hi)))
        refine bodyPost_ret (results_list (rs := [.tmp 2, .tmp 3, .tmp 4, .tmp 5]) rfl (by simp) (.tmp (.tmp (.tmp (.tmp .nil))))) rfl ?_
        exact ⟨by first | rfl | (simp [errW_none, errW_some] <;> rfl) | (simp [*, errW_none, errW_some] <;> rfl), by repeat (first | (with_reducible first | exact HB.out | apply below_alloc | apply pw_below_drewN | apply below_drew1) | exact HB.out)⟩
      · replace c7 := Bool.eq_false_iff.mpr c7
        subst c7
        have H1 : (some (t124, t125, t122, true)) = some (r1, r2, r3, r4) := by rw [if_neg (show ¬ (false = true) by decide)] at H; exact H
        clear H
        have H := H1
        clear H1
        simp only [Option.some.injEq, Prod.mk.injEq] at H
        obtain ⟨rfl, rfl, rfl, rfl⟩ := H
        go_enter Tryd.func20, Tryd.ntmps20
        go_wp2_with (first | ((with_reducible refine gate_callee (f := 37) rfl ?_); refine goesL_ (some 10) rfl rfl Tryd.func37 (by kernel_rfl) rfl #[.string a0, .int .u8 43] rfl (by (try simp only [List.map_toArray, List.map_cons, List.map_nil]); first | done | rfl | (simp only [List.length_drop, List.length_take]; rfl)) ?_; (with_reducible refine (spec_cutAt.calls k a0 43 t121 t122 true _ A2.out).mono ?_); rintro e w' ⟨rfl, ⟨nd, rfl⟩⟩; refine ⟨_, rfl, ?_⟩) | ((with_reducible refine gate_callee (f := 37) rfl ?_); refine goesL_ (some 16) rfl rfl Tryd.func37 (by kernel_rfl) rfl #[.string t121, .int .u8 45] rfl (by (try simp only [List.map_toArray, List.map_cons, List.map_nil]); first | done | rfl | (simp only [List.length_drop, List.length_take]; rfl)) ?_; (with_reducible refine (spec_cutAt.calls k t121 45 t124 t125 false _ A3.out).mono ?_); rintro e w' ⟨rfl, ⟨nd, rfl⟩⟩; refine ⟨_, rfl, ?_⟩) | (go_at_call 38; (with_reducible refine (spec_ValidMeta.calls k t122 true _ A5.out).mono ?_); rintro e w11 ⟨rfl, hb⟩; have n0_ := Aside0.mk (below_step (by repeat (first | (with_reducible first | exact HB.out | apply below_alloc | apply pw_below_drewN | apply below_drew1) | exact HB.out)) hb); clear HB; have HB := n0_; clear n0_; (try clear hb); (try clear hb2); (try clear hk); (try clear hi)))
        refine bodyPost_ret (results_list (rs := [.tmp 2, .tmp 3, .tmp 4, .tmp 5]) rfl (by simp) (.tmp (.tmp (.tmp (.tmp .nil))))) rfl ?_
        exact ⟨by first | rfl | (simp [errW_none, errW_some] <;> rfl) | (simp [*, errW_none, errW_some] <;> rfl), by repeat (first | (with_reducible first | exact HB.out | apply below_alloc | apply pw_below_drewN | apply below_drew1) | exact HB.out)⟩
    · replace c6 := Bool.eq_false_iff.mpr c6
      subst c6
      have H1 : (some (t124, t125, t122, false)) = some (r1, r2, r3, r4) := by rw [if_neg (show ¬ (false = true) by decide)] at H; exact H
      clear H
      have H := H1
      clear H1
      simp only [Option.some.injEq, Prod.mk.injEq] at H
      obtain ⟨rfl, rfl, rfl, rfl⟩ := H
      go_enter Tryd.func20, Tryd.ntmps20
      go_wp2_with (first | ((with_reducible refine gate_callee (f := 37) rfl ?_); refine goesL_ (some 10) rfl rfl Tryd.func37 (by kernel_rfl) rfl #[.string a0, .int .u8 43] rfl (by (try simp only [List.map_toArray, List.map_cons, List.map_nil]); first | done | rfl | (simp only [List.length_drop, List.length_take]; rfl)) ?_; (with_reducible refine (spec_cutAt.calls k a0 43 t121 t122 true _ A2.out).mono ?_); rintro e w' ⟨rfl, ⟨nd, rfl⟩⟩; refine ⟨_, rfl, ?_⟩) | ((with_reducible refine gate_callee (f := 37) rfl ?_); refine goesL_ (some 16) rfl rfl Tryd.func37 (by kernel_rfl) rfl #[.string t121, .int .u8 45] rfl (by (try simp only [List.map_toArray, List.map_cons, List.map_nil]); first | done | rfl | (simp only [List.length_drop, List.length_take]; rfl)) ?_; (with_reducible refine (spec_cutAt.calls k t121 45 t124 t125 t126 _ A3.out).mono ?_); rintro e w' ⟨rfl, ⟨nd, rfl⟩⟩; refine ⟨_, rfl, ?_⟩) | (go_at_call 38; (with_reducible refine (spec_ValidMeta.calls k t122 false _ A5.out).mono ?_); rintro e w12 ⟨rfl, hb⟩; have n0_ := Aside0.mk (below_step (by repeat (first | (with_reducible first | exact HB.out | apply below_alloc | apply pw_below_drewN | apply below_drew1) | exact HB.out)) hb); clear HB; have HB := n0_; clear n0_; (try clear hb); (try clear hb2); (try clear hk); (try clear hi)))
      refine bodyPost_ret (results_list (rs := [.tmp 2, .tmp 3, .tmp 4, .tmp 5]) rfl (by simp) (.tmp (.tmp (.tmp (.tmp .nil))))) rfl ?_
      exact ⟨by first | rfl | (simp [errW_none, errW_some] <;> rfl) | (simp [*, errW_none, errW_some] <;> rfl), by repeat (first | (with_reducible first | exact HB.out | apply below_alloc | apply pw_below_drewN | apply below_drew1) | exact HB.out)⟩
  · replace c4 := Bool.eq_false_iff.mpr c4
    subst c4
    have H1 : (if t126 = true then ((spec_ValidPre.f k t125).bind fun t129 => (some (t124, t125, t122, t129))) else (some (t124, t125, t122, true))) = some (r1, r2, r3, r4) := by rw [if_neg (show ¬ (false = true) by decide)] at H; exact H
    clear H
    have H := H1
    clear H1
    by_cases c13 : t126 = true
    · subst c13
      have H1 : ((spec_ValidPre.f k t125).bind fun t129 => (some (t124, t125, t122, t129))) = some (r1, r2, r3, r4) := by rw [if_pos rfl] at H; exact H
      clear H
      have H := H1
      clear H1
      replace H := Option.bind_eq_some_iff.mp H
      obtain ⟨t129, A140, H⟩ := H
      replace H : (some (t124, t125, t122, t129)) = some (r1, r2, r3, r4) := H
      have A14 := Aside0.mk A140
      clear A140
      simp only [Option.some.injEq, Prod.mk.injEq] at H
      obtain ⟨rfl, rfl, rfl, rfl⟩ := H
      go_enter Tryd.func20, Tryd.ntmps20
      go_wp2_with (first | ((with_reducible refine gate_callee (f := 37) rfl ?_); refine goesL_ (some 10) rfl rfl Tryd.func37 (by kernel_rfl) rfl #[.string a0, .int .u8 43] rfl (by (try simp only [List.map_toArray, List.map_cons, List.map_nil]); first | done | rfl | (simp only [List.length_drop, List.length_take]; rfl)) ?_; (with_reducible refine (spec_cutAt.calls k a0 43 t121 t122 false _ A2.out).mono ?_); rintro e w' ⟨rfl, ⟨nd, rfl⟩⟩; refine ⟨_, rfl, ?_⟩) | ((with_reducible refine gate_callee (f := 37) rfl ?_); refine goesL_ (some 16) rfl rfl Tryd.func37 (by kernel_rfl) rfl #[.string t121, .int .u8 45] rfl (by (try simp only [List.map_toArray, List.map_cons, List.map_nil]); first | done | rfl | (simp only [List.length_drop, List.length_take]; rfl)) ?_; (with_reducible refine (spec_cutAt.calls k t121 45 t124 t125 true _ A3.out).mono ?_); rintro e w' ⟨rfl, ⟨nd, rfl⟩⟩; refine ⟨_, rfl, ?_⟩) | (go_at_call 39; (with_reducible refine (spec_ValidPre.calls k t125 t129 _ A14.out).mono ?_); rintro e w15 ⟨rfl, hb⟩; have n0_ := Aside0.mk (below_step (by repeat (first | (with_reducible first | exact HB.out | apply below_alloc | apply pw_below_drewN | apply below_drew1) | exact HB.out)) hb); clear HB; have HB := n0_; clear n0_; (try clear hb); (try clear hb2); (try clear hk); (try clear hi)))
      refine bodyPost_ret (results_list (rs := [.tmp 2, .tmp 3, .tmp 4, .tmp 5]) rfl (by simp) (.tmp (.tmp (.tmp (.tmp .nil))))) rfl ?_
      exact ⟨by first | rfl | (simp [errW_none, errW_some] <;> rfl) | (simp [*, errW_none, errW_some] <;> rfl), by repeat (first | (with_reducible first | exact HB.out | apply below_alloc | apply pw_below_drewN | apply below_drew1) | exact HB.out)⟩
    · replace c13 := Bool.eq_false_iff.mpr c13
      subst c13
      have H1 : (some (t124, t125, t122, true)) = some (r1, r2, r3, r4) := by rw [if_neg (show ¬ (false = true) by decide)] at H; exact H
      clear H
      have H := H1
      clear H1
      simp only [Option.some.injEq, Prod.mk.injEq] at H
      obtain ⟨rfl, rfl, rfl, rfl⟩ := H
      go_enter Tryd.func20, Tryd.ntmps20
      go_wp2_with (first | ((with_reducible refine gate_callee (f := 37) rfl ?_); refine goesL_ (some 10) rfl rfl Tryd.func37 (by kernel_rfl) rfl #[.string a0, .int .u8 43] rfl (by (try simp only [List.map_toArray, List.map_cons, List.map_nil]); first | done | rfl | (simp only [List.length_drop, List.length_take]; rfl)) ?_; (with_reducible refine (spec_cutAt.calls k a0 43 t121 t122 false _ A2.out).mono ?_); rintro e w' ⟨rfl, ⟨nd, rfl⟩⟩; refine ⟨_, rfl, ?_⟩) | ((with_reducible refine gate_callee (f := 37) rfl ?_); refine goesL_ (some 16) rfl rfl Tryd.func37 (by kernel_rfl) rfl #[.string t121, .int .u8 45] rfl (by (try simp only [List.map_toArray, List.map_cons, List.map_nil]); first | done | rfl | (simp only [List.length_drop, List.length_take]; rfl)) ?_; (with_reducible refine (spec_cutAt.calls k t121 45 t124 t125 false _ A3.out).mono ?_); rintro e w' ⟨rfl, ⟨nd, rfl⟩⟩; refine ⟨_, rfl, ?_⟩))
      refine bodyPost_ret (results_list (rs := [.tmp 2, .tmp 3, .tmp 4, .tmp 5]) rfl (by simp) (.tmp (.tmp (.tmp (.tmp .nil))))) rfl ?_
      exact ⟨by first | rfl | (simp [errW_none, errW_some] <;> rfl) | (simp [*, errW_none, errW_some] <;> rfl), by repeat (first | (with_reducible first | exact HB.out | apply below_alloc | apply pw_below_drewN | apply below_drew1) | exact HB.out)⟩

/-! ### spec_Number: function 22 -/
def spec_Number.l0 : Nat → ByteArray → Int → Int → Option (Int × Bool)
  | 0, _, _, _ => none
  | k + 1, x0, x4, x5 => if x5 < (x0.size : Int) then (if 0 ≤ x5 then (if x4 > ((18446744073709551615 - (((bt x0 x5) - 48) % 256)) / 10) then (some (0, false)) else (spec_Number.l0 k x0 (IntKind.u64.wrap ((IntKind.u64.wrap (x4 * 10)) + (((bt x0 x5) - 48) % 256))) (wrap64 (x5 + 1)))) else (none)) else (some (x4, true))
def spec_Number.f (k : Nat) (a0 : ByteArray) : Option (Int × Bool) := (spec_Digits.f k a0).bind fun t130 => (if t130 = true then (spec_Number.l0 k a0 0 0) else (some (0, false)))
theorem spec_Number.mono_l : ∀ k, (∀ y0 y1 y2, LeO (spec_Number.l0 k y0 y1 y2) (spec_Number.l0 (k + 1) y0 y1 y2))
  | 0 => fun _ _ _ r h => by simp [spec_Number.l0] at h
  | k + 1 => by
    have ih0 := spec_Number.mono_l k
    · intro y0 y1 y2
      unfold spec_Number.l0
      repeat' first
      | (with_reducible exact ih0 _ _ _)
      | (with_reducible exact spec_Digits.mono _ _)
      | (with_reducible exact LeO.refl _)
      | (with_reducible exact LeO.none _)
      | (with_reducible refine LeO.ite ?_ ?_)
      | (with_reducible refine LeO.bind ?_ (fun _ => ?_))
      | exact ih0 _ _ _
      | exact spec_Digits.mono _ _
      | exact LeO.none _
      | refine LeO.ite ?_ ?_
      | refine LeO.bind ?_ (fun _ => ?_)
theorem spec_Number.mono : ∀ a0 k, LeO (spec_Number.f k a0) (spec_Number.f (k + 1) a0) := by
  intro a0 k
  have ih0 := spec_Number.mono_l k
  unfold spec_Number.f
  repeat' first
      | (with_reducible exact ih0 _ _ _)
      | (with_reducible exact spec_Digits.mono _ _)
      | (with_reducible exact LeO.refl _)
      | (with_reducible exact LeO.none _)
      | (with_reducible refine LeO.ite ?_ ?_)
      | (with_reducible refine LeO.bind ?_ (fun _ => ?_))
      | exact ih0 _ _ _
      | exact spec_Digits.mono _ _
      | exact LeO.none _
      | refine LeO.ite ?_ ?_
      | refine LeO.bind ?_ (fun _ => ?_)
set_option maxHeartbeats 8000000 in
set_option maxRecDepth 100000 in
theorem spec_Number.calls (k : Nat) (a0 : ByteArray) (r1 : Int) (r2 : Bool) (w : World) (h : spec_Number.f k a0 = some (r1, r2)) :
    Calls Tryd.prog 22 #[.string a0] w fun e w' => e = .returned (.tuple #[.int .u64 r1, .bool r2]) ∧ Drawn0 w w' := by
  have H : ((spec_Digits.f k a0).bind fun t130 => (if t130 = true then (spec_Number.l0 k a0 0 0) else (some (0, false)))) = some (r1, r2) := h
  clear h
  replace H := Option.bind_eq_some_iff.mp H
  obtain ⟨t130, A20, H⟩ := H
  replace H : (if t130 = true then (spec_Number.l0 k a0 0 0) else (some (0, false))) = some (r1, r2) := H
  have A2 := Aside0.mk A20
  clear A20
  by_cases c3 : t130 = true
  · subst c3
    have H1 : (spec_Number.l0 k a0 0 0) = some (r1, r2) := by rw [if_pos rfl] at H; exact H
    clear H
    have H := H1
    clear H1
    have H' := Aside0.mk H
    clear H
    go_enter Tryd.func22, Tryd.ntmps22
    go_wp2_with (first | ((with_reducible refine gate_callee (f := 40) rfl ?_); refine goesL_ (some 8) rfl rfl Tryd.func40 (by kernel_rfl) rfl #[.string a0] rfl (by (try simp only [List.map_toArray, List.map_cons, List.map_nil]); first | done | rfl | (simp only [List.length_drop, List.length_take]; rfl)) ?_; (with_reducible refine (spec_Digits.calls k a0 true _ A2.out).mono ?_); rintro e w' ⟨rfl, ⟨nd, rfl⟩⟩; refine ⟨_, rfl, ?_⟩))
    go_loopg [4, 5] k (fun kq v4 v5 w' => ∃ (x4_1 : Int) (x5_1 : Int), v4 = .int .u64 x4_1 ∧ v5 = .int .i64 x5_1 ∧ Aside0 (spec_Number.l0 kq a0 x4_1 x5_1 = some (r1, r2)) ∧ Aside0 (kq ≤ k) ∧ Drawn0 w w')
    case atStart => exact ⟨(0), (0), (by first | rfl | (simp; done) | (simp [*]; done) | (simp [nil_bne]; done)), (by first | rfl | (simp; done) | (simp [*]; done) | (simp [nil_bne]; done)), H', ⟨Nat.le_refl _⟩, by repeat (first | exact Drawn0.refl _ | apply Drawn0.step)⟩
    case round =>
      clear H'
      try clear c2
      try clear p2
      try clear c3
      obtain ⟨x4_1, x5_1, rfl, rfl, HA, HK1, ⟨m1, rfl⟩⟩ := hrel
      cases gk with
      | zero => exact absurd HA.out (by simp [spec_Number.l0])
      | succ k1 =>
        have H := HA.out
        clear HA
        simp only [spec_Number.l0] at H
        by_cases c4 : x5_1 < (a0.size : Int)
        · rw [if_pos c4] at H
          have c4b0 : decide (x5_1 < (a0.size : Int)) = true := decide_eq_true c4
          clear c4
          by_cases c5 : 0 ≤ x5_1
          · rw [if_pos c5] at H
            have c5b0 : decide (0 ≤ x5_1) = true := decide_eq_true c5
            clear c5
            by_cases c7 : x4_1 > ((18446744073709551615 - (((bt a0 x5_1) - 48) % 256)) / 10)
            · rw [if_pos c7] at H
              have c7b0 : decide (((18446744073709551615 - (((bt a0 x5_1) - 48) % 256)) / 10) < x4_1) = true := decide_eq_true c7
              clear c7
              simp only [Option.some.injEq, Prod.mk.injEq] at H
              obtain ⟨rfl, rfl⟩ := H
              have p6 : 0 ≤ (x5_1 : Int) := of_decide_eq_true (by first | (with_reducible assumption) | assumption)
              have q6 : x5_1 < (a0.size : Int) := of_decide_eq_true (by first | (with_reducible assumption) | assumption)
              have hx6 := bt_at a0 x5_1
              replace p6 := eq_true p6
              replace q6 := eq_true q6
              go_wp2
              go_ret2
              exact ⟨by first | rfl | (simp; done) | (simp [*]; done) | (simp [nil_bne]; done), by repeat (first | exact Drawn0.refl _ | apply Drawn0.step)⟩
            · rw [if_neg c7] at H
              have c7b0 : decide (((18446744073709551615 - (((bt a0 x5_1) - 48) % 256)) / 10) < x4_1) = false := decide_eq_false c7
              clear c7
              have H' := Aside0.mk H
              clear H
              have p6 : 0 ≤ (x5_1 : Int) := of_decide_eq_true (by first | (with_reducible assumption) | assumption)
              have q6 : x5_1 < (a0.size : Int) := of_decide_eq_true (by first | (with_reducible assumption) | assumption)
              have hx6 := bt_at a0 x5_1
              replace p6 := eq_true p6
              replace q6 := eq_true q6
              go_wp2
              go_roundg k1
              case measure => have := HK1.out; omega
              case rel => exact ⟨(IntKind.u64.wrap ((IntKind.u64.wrap (x4_1 * 10)) + (((bt a0 x5_1) - 48) % 256))), (wrap64 (x5_1 + 1)), (by first | rfl | (simp; done) | (simp [*]; done) | (simp [nil_bne]; done)), (by first | rfl | (simp; done) | (simp [*]; done) | (simp [nil_bne]; done)), H', ⟨by have := HK1.out; omega⟩, by repeat (first | exact Drawn0.refl _ | apply Drawn0.step)⟩
          · rw [if_neg c5] at H
            exact absurd H (by simp)
        · rw [if_neg c4] at H
          have c4b0 : decide (x5_1 < (a0.size : Int)) = false := decide_eq_false c4
          clear c4
          simp only [Option.some.injEq, Prod.mk.injEq] at H
          obtain ⟨rfl, rfl⟩ := H
          go_wp2
          go_ret2
          exact ⟨by first | rfl | (simp; done) | (simp [*]; done) | (simp [nil_bne]; done), by repeat (first | exact Drawn0.refl _ | apply Drawn0.step)⟩
  · replace c3 := Bool.eq_false_iff.mpr c3
    subst c3
    have H1 : (some (0, false)) = some (r1, r2) := by rw [if_neg (show ¬ (false = true) by decide)] at H; exact H
    clear H
    have H := H1
    clear H1
    simp only [Option.some.injEq, Prod.mk.injEq] at H
    obtain ⟨rfl, rfl⟩ := H
    go_enter Tryd.func22, Tryd.ntmps22
    go_wp2_with (first | ((with_reducible refine gate_callee (f := 40) rfl ?_); refine goesL_ (some 8) rfl rfl Tryd.func40 (by kernel_rfl) rfl #[.string a0] rfl (by (try simp only [List.map_toArray, List.map_cons, List.map_nil]); first | done | rfl | (simp only [List.length_drop, List.length_take]; rfl)) ?_; (with_reducible refine (spec_Digits.calls k a0 false _ A2.out).mono ?_); rintro e w' ⟨rfl, ⟨nd, rfl⟩⟩; refine ⟨_, rfl, ?_⟩))
    go_ret2
    exact ⟨by first | rfl | (simp; done) | (simp [*]; done) | (simp [nil_bne]; done), by repeat (first | exact Drawn0.refl _ | apply Drawn0.step)⟩

end Go.Proofs.YtdomidlpkffigaaDoor.QG
