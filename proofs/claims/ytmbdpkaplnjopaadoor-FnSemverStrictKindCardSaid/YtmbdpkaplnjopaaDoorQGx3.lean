-- written by a program of mine (wip/tools/myprint.py) for this claim. Not trusted: Lean checks it.
import Derived.Test.YtmbdpkaplnjopaaDoorQGx0
import Derived.Test.YtmbdpkaplnjopaaDoorQGx1
import Derived.Test.YtmbdpkaplnjopaaDoorQGx2
namespace Go.Proofs.YtmbdpkaplnjopaaDoor.QG
open Go.RowKit Go.Proofs.YtmbdpkaplnjopaaDoorW.PrintWords Go.Proofs.YtmbdpkaplnjopaaDoorW.PrintLast Go.Proofs.YtmbdpkaplnjopaaDoorW.PrintMore
attribute [local go_sem] max2_int min2_int max_two min_two max_three min_three max_four min_four   -- for this text's walks alone
set_option linter.unusedVariables false
set_option linter.unusedSimpArgs false

/-! ### spec_PreKind: function 12 -/
mutual
def spec_PreKind.l0 : Nat → List ByteArray → Int → Int → Option (Int)
  | 0, _, _, _ => none
  | k + 1, x6, x7, x8 => if x8 < x7 then (if 0 ≤ x8 then (if x8 < (x6.length : Int) then ((spec_Digits.f k (rdOf ByteArray.empty x6 x8)).bind fun t119 => (if t119 = true then (if ((rdOf ByteArray.empty x6 x8).size : Int) > 1 then (if 0 < ((rdOf ByteArray.empty x6 x8).size : Int) then (spec_PreKind.j1 k (rdOf ByteArray.empty x6 x8) x6 x7 x8 ((bt (rdOf ByteArray.empty x6 x8) 0) == 48)) else (none)) else (spec_PreKind.j1 k (rdOf ByteArray.empty x6 x8) x6 x7 x8 false)) else (spec_PreKind.j1 k (rdOf ByteArray.empty x6 x8) x6 x7 x8 false))) else (none)) else (none)) else (some 0)
def spec_PreKind.j1 : Nat → ByteArray → List ByteArray → Int → Int → Bool → Option (Int)
  | 0, _, _, _, _, _ => none
  | k + 1, x4, x6, x7, x8, x12 => if x12 = true then (some 4) else ((spec_ValidIdent.f k x4).bind fun t120 => (if t120 = true then (spec_PreKind.l0 k x6 x7 (wrap64 (x8 + 1))) else (some 5)))
end
def spec_PreKind.f (k : Nat) (a0 : ByteArray) : Option (Int) := (spec_Identifiers.f k a0).bind fun t115 => (spec_PreKind.l0 k t115 (t115.length : Int) 0)
theorem spec_PreKind.mono_l : ∀ k, (∀ y0 y1 y2, LeO (spec_PreKind.l0 k y0 y1 y2) (spec_PreKind.l0 (k + 1) y0 y1 y2)) ∧ (∀ y0 y1 y2 y3 y4, LeO (spec_PreKind.j1 k y0 y1 y2 y3 y4) (spec_PreKind.j1 (k + 1) y0 y1 y2 y3 y4))
  | 0 => ⟨fun _ _ _ r h => by simp [spec_PreKind.l0] at h, fun _ _ _ _ _ r h => by simp [spec_PreKind.j1] at h⟩
  | k + 1 => by
    obtain ⟨ih0, ih1⟩ := spec_PreKind.mono_l k
    refine ⟨?_, ?_⟩
    · intro y0 y1 y2
      unfold spec_PreKind.l0
      repeat' first
      | (with_reducible exact ih0 _ _ _)
      | (with_reducible exact ih1 _ _ _ _ _)
      | (with_reducible exact spec_Digits.mono _ _)
      | (with_reducible exact spec_Identifiers.mono _ _)
      | (with_reducible exact spec_ValidIdent.mono _ _)
      | (with_reducible exact LeO.refl _)
      | (with_reducible exact LeO.none _)
      | (with_reducible refine LeO.ite ?_ ?_)
      | (with_reducible refine LeO.bind ?_ (fun _ => ?_))
      | exact ih0 _ _ _
      | exact ih1 _ _ _ _ _
      | exact spec_Digits.mono _ _
      | exact spec_Identifiers.mono _ _
      | exact spec_ValidIdent.mono _ _
      | exact LeO.none _
      | refine LeO.ite ?_ ?_
      | refine LeO.bind ?_ (fun _ => ?_)
    · intro y0 y1 y2 y3 y4
      unfold spec_PreKind.j1
      repeat' first
      | (with_reducible exact ih0 _ _ _)
      | (with_reducible exact ih1 _ _ _ _ _)
      | (with_reducible exact spec_Digits.mono _ _)
      | (with_reducible exact spec_Identifiers.mono _ _)
      | (with_reducible exact spec_ValidIdent.mono _ _)
      | (with_reducible exact LeO.refl _)
      | (with_reducible exact LeO.none _)
      | (with_reducible refine LeO.ite ?_ ?_)
      | (with_reducible refine LeO.bind ?_ (fun _ => ?_))
      | exact ih0 _ _ _
      | exact ih1 _ _ _ _ _
      | exact spec_Digits.mono _ _
      | exact spec_Identifiers.mono _ _
      | exact spec_ValidIdent.mono _ _
      | exact LeO.none _
      | refine LeO.ite ?_ ?_
      | refine LeO.bind ?_ (fun _ => ?_)
theorem spec_PreKind.mono : ∀ a0 k, LeO (spec_PreKind.f k a0) (spec_PreKind.f (k + 1) a0) := by
  intro a0 k
  obtain ⟨ih0, ih1⟩ := spec_PreKind.mono_l k
  unfold spec_PreKind.f
  repeat' first
      | (with_reducible exact ih0 _ _ _)
      | (with_reducible exact ih1 _ _ _ _ _)
      | (with_reducible exact spec_Digits.mono _ _)
      | (with_reducible exact spec_Identifiers.mono _ _)
      | (with_reducible exact spec_ValidIdent.mono _ _)
      | (with_reducible exact LeO.refl _)
      | (with_reducible exact LeO.none _)
      | (with_reducible refine LeO.ite ?_ ?_)
      | (with_reducible refine LeO.bind ?_ (fun _ => ?_))
      | exact ih0 _ _ _
      | exact ih1 _ _ _ _ _
      | exact spec_Digits.mono _ _
      | exact spec_Identifiers.mono _ _
      | exact spec_ValidIdent.mono _ _
      | exact LeO.none _
      | refine LeO.ite ?_ ?_
      | refine LeO.bind ?_ (fun _ => ?_)
set_option maxHeartbeats 8000000 in
set_option maxRecDepth 100000 in
theorem spec_PreKind.calls (k : Nat) (a0 : ByteArray) (r : Int) (w : World) (h : spec_PreKind.f k a0 = some r) :
    Calls Tryd.prog 12 #[.string a0] w fun e w' => e = .returned (.int .i64 r) ∧ Below w.heap.size w w' := by
  have HB := Aside0.mk (Below.refl w.heap.size w)
  have H : ((spec_Identifiers.f k a0).bind fun t115 => (spec_PreKind.l0 k t115 (t115.length : Int) 0)) = some r := h
  clear h
  replace H := Option.bind_eq_some_iff.mp H
  obtain ⟨t115, A20, H⟩ := H
  replace H : (spec_PreKind.l0 k t115 (t115.length : Int) 0) = some r := H
  have A2 := Aside0.mk A20
  clear A20
  have H' := Aside0.mk H
  clear H
  go_enter Tryd.func12, Tryd.ntmps12
  go_wp2_with (first | ((with_reducible refine gate_callee (f := 22) rfl ?_); refine goesL_ (some 6) rfl rfl Tryd.func22 (by kernel_rfl) rfl #[.string a0] rfl (by (try simp only [List.map_toArray, List.map_cons, List.map_nil]); first | done | rfl | (simp only [List.length_drop, List.length_take]; rfl)) ?_; (with_reducible refine (spec_Identifiers.calls k a0 t115 _ A2.out).mono ?_); rintro e w3 ⟨v116, rfl, ho0, hb⟩; refine ⟨_, rfl, ?_⟩; have n0_ := Aside0.mk (Kd.R_lower ho0 (below_size (by repeat (first | (with_reducible first | exact HB.out | apply below_alloc | apply pw_below_drewN | apply below_drew1) | exact HB.out)))); have n1_ := Aside0.mk (below_step (by repeat (first | (with_reducible first | exact HB.out | apply below_alloc | apply pw_below_drewN | apply below_drew1) | exact HB.out)) hb); clear HB; have HO117 := n0_; have HB := n1_; clear n0_ n1_; (try clear hb); (try clear hb2); (try clear hk); (try clear hi); (try clear ho0); obtain ⟨Ao4, co4, eo4⟩ := Kd.R_slice HO117.out; subst eo4))
  go_loopg [8] k (fun kq v8 w' => ∃ (x8_1 : Int), v8 = .int .i64 x8_1 ∧ Aside0 (spec_PreKind.l0 kq t115 (t115.length : Int) x8_1 = some r) ∧ Aside0 (kq ≤ k) ∧ Aside0 (Kd.R Kd.string 9 w' w.heap.size (fun _ => True) (.slice Ao4 t115.length co4) t115) ∧ Aside0 (Below w.heap.size w w'))
  case atStart => exact ⟨(0), (by first | rfl | (simp; done) | (simp [*]; done) | (simp [nil_bne]; done)), H', ⟨Nat.le_refl _⟩, ⟨by (with_reducible repeat (first | apply Kd.R_alloc | apply Kd.R_drewN | apply Kd.R_drew)); exact HO117.out⟩, ⟨by repeat (first | (with_reducible first | exact HB.out | apply below_alloc | apply pw_below_drewN | apply below_drew1) | exact HB.out)⟩⟩
  case round =>
    clear H'
    try clear c1
    try clear c2
    try clear p2
    obtain ⟨x8_1, rfl, HA, HK1, HO_6, HB⟩ := hrel
    cases gk with
    | zero => exact absurd HA.out (by simp [spec_PreKind.l0])
    | succ k1 =>
      have H := HA.out
      clear HA
      simp only [spec_PreKind.l0] at H
      by_cases c5 : x8_1 < (t115.length : Int)
      · rw [if_pos c5] at H
        have c5b0 : decide (x8_1 < (t115.length : Int)) = true := decide_eq_true c5
        clear c5
        by_cases c6 : 0 ≤ x8_1
        · rw [if_pos c6] at H
          have c6b0 : decide (0 ≤ x8_1) = true := decide_eq_true c6
          clear c6
          by_cases c7 : x8_1 < (t115.length : Int)
          · rw [if_pos c7] at H
            have c7b0 : decide (x8_1 < (t115.length : Int)) = true := decide_eq_true c7
            clear c7
            have HC8 := Aside0.mk H
            clear H
            have p118 : 0 ≤ (x8_1 : Int) := of_decide_eq_true (by first | (with_reducible assumption) | assumption)
            have q118 : x8_1 < (t115.length : Int) := of_decide_eq_true (by first | (with_reducible assumption) | assumption)
            obtain ⟨ad118, e118, hx118_0⟩ := Kd.at_string (Kd.R_reads' HO_6.out).2.2 x8_1 p118 q118
            cases e118
            replace p118 := eq_true p118
            replace q118 := eq_true q118
            go_upto_region 4 with (fail)
            go_cut [12] (fun v12 wc => ∃ (kq : Nat) (x12_7 : Bool), v12 = .bool x12_7 ∧ Aside0 (spec_PreKind.j1 kq (rdOf ByteArray.empty t115 x8_1) t115 (t115.length : Int) x8_1 x12_7 = some r) ∧ Aside0 (kq ≤ k1) ∧ Aside0 (Kd.R Kd.string 9 wc w.heap.size (fun _ => True) (.slice (some ad118) t115.length co4) t115) ∧ Aside0 (Below w.heap.size w wc))
            case first =>
              have H := HC8.out
              clear HC8
              replace H := Option.bind_eq_some_iff.mp H
              obtain ⟨t119, A90, H⟩ := H
              replace H : (if t119 = true then (if ((rdOf ByteArray.empty t115 x8_1).size : Int) > 1 then (if 0 < ((rdOf ByteArray.empty t115 x8_1).size : Int) then (spec_PreKind.j1 k1 (rdOf ByteArray.empty t115 x8_1) t115 (t115.length : Int) x8_1 ((bt (rdOf ByteArray.empty t115 x8_1) 0) == 48)) else (none)) else (spec_PreKind.j1 k1 (rdOf ByteArray.empty t115 x8_1) t115 (t115.length : Int) x8_1 false)) else (spec_PreKind.j1 k1 (rdOf ByteArray.empty t115 x8_1) t115 (t115.length : Int) x8_1 false)) = some r := H
              have A9 := Aside0.mk A90
              clear A90
              by_cases c10 : t119 = true
              · subst c10
                have H1 : (if ((rdOf ByteArray.empty t115 x8_1).size : Int) > 1 then (if 0 < ((rdOf ByteArray.empty t115 x8_1).size : Int) then (spec_PreKind.j1 k1 (rdOf ByteArray.empty t115 x8_1) t115 (t115.length : Int) x8_1 ((bt (rdOf ByteArray.empty t115 x8_1) 0) == 48)) else (none)) else (spec_PreKind.j1 k1 (rdOf ByteArray.empty t115 x8_1) t115 (t115.length : Int) x8_1 false)) = some r := by rw [if_pos rfl] at H; exact H
                clear H
                have H := H1
                clear H1
                by_cases c11 : ((rdOf ByteArray.empty t115 x8_1).size : Int) > 1
                · rw [if_pos c11] at H
                  have c11b0 : decide (1 < ((rdOf ByteArray.empty t115 x8_1).size : Int)) = true := decide_eq_true c11
                  have c11b1 : decide (1 < (rdOf ByteArray.empty t115 x8_1).size) = true := decide_eq_true (by omega)
                  clear c11
                  (first | rw [c11b0] | (simp only [i64_w, i32_w]; rw [c11b0]) | rw [c11b1] | skip)
                  by_cases c12 : 0 < ((rdOf ByteArray.empty t115 x8_1).size : Int)
                  · rw [if_pos c12] at H
                    have c12b0 : decide (0 < ((rdOf ByteArray.empty t115 x8_1).size : Int)) = true := decide_eq_true c12
                    have c12b1 : decide (0 < (rdOf ByteArray.empty t115 x8_1).size) = true := decide_eq_true (by omega)
                    clear c12
                    have H' := Aside0.mk H
                    clear H
                    go_wp2_with (first | ((with_reducible refine gate_callee (f := 24) rfl ?_); refine goesL_ (some 14) rfl rfl Tryd.func24 (by kernel_rfl) rfl #[.string (rdOf ByteArray.empty t115 x8_1)] rfl (by (try simp only [List.map_toArray, List.map_cons, List.map_nil]); first | done | rfl | (simp only [List.length_drop, List.length_take]; rfl)) ?_; (with_reducible refine (spec_Digits.calls k1 (rdOf ByteArray.empty t115 x8_1) true _ A9.out).mono ?_); rintro e w' ⟨rfl, ⟨nd, rfl⟩⟩; refine ⟨_, rfl, ?_⟩; have p13 : 0 ≤ (0 : Int) := (by omega); have q13 : 0 < (rdOf ByteArray.empty t115 x8_1).size := (by have : (0 : Int) < ((rdOf ByteArray.empty t115 x8_1).size : Int) := of_decide_eq_true (by first | (with_reducible assumption) | assumption); omega); have hx13 : ∀ h : 0 < (rdOf ByteArray.empty t115 x8_1).size, (((rdOf ByteArray.empty t115 x8_1)[0]'h).toNat : Int) = bt (rdOf ByteArray.empty t115 x8_1) 0 := bt_at (rdOf ByteArray.empty t115 x8_1) 0; clear p13; have qi13 : (0 < ((rdOf ByteArray.empty t115 x8_1).size : Int)) = True := eq_true (of_decide_eq_true (by first | (with_reducible assumption) | assumption)); replace q13 := eq_true q13))
                    go_meet
                    case rel => exact ⟨_, (((bt (rdOf ByteArray.empty t115 x8_1) 0) == 48)), (by first | rfl | (simp; done) | (simp [*]; done) | (simp [nil_bne]; done)), H', ⟨by have := HK1.out; first | omega | exact Nat.le_refl _⟩, ⟨by (with_reducible repeat (first | apply Kd.R_alloc | apply Kd.R_drewN | apply Kd.R_drew)); exact HO_6.out⟩, ⟨by repeat (first | (with_reducible first | exact HB.out | apply below_alloc | apply pw_below_drewN | apply below_drew1) | exact HB.out)⟩⟩
                  · rw [if_neg c12] at H
                    exact absurd H (by simp)
                · rw [if_neg c11] at H
                  have c11b0 : decide (1 < ((rdOf ByteArray.empty t115 x8_1).size : Int)) = false := decide_eq_false c11
                  have c11b1 : decide (1 < (rdOf ByteArray.empty t115 x8_1).size) = false := decide_eq_false (by omega)
                  clear c11
                  (first | rw [c11b0] | (simp only [i64_w, i32_w]; rw [c11b0]) | rw [c11b1] | skip)
                  have H' := Aside0.mk H
                  clear H
                  go_wp2_with (first | ((with_reducible refine gate_callee (f := 24) rfl ?_); refine goesL_ (some 14) rfl rfl Tryd.func24 (by kernel_rfl) rfl #[.string (rdOf ByteArray.empty t115 x8_1)] rfl (by (try simp only [List.map_toArray, List.map_cons, List.map_nil]); first | done | rfl | (simp only [List.length_drop, List.length_take]; rfl)) ?_; (with_reducible refine (spec_Digits.calls k1 (rdOf ByteArray.empty t115 x8_1) true _ A9.out).mono ?_); rintro e w' ⟨rfl, ⟨nd, rfl⟩⟩; refine ⟨_, rfl, ?_⟩))
                  go_meet
                  case rel => exact ⟨_, (false), (by first | rfl | (simp; done) | (simp [*]; done) | (simp [nil_bne]; done)), H', ⟨by have := HK1.out; first | omega | exact Nat.le_refl _⟩, ⟨by (with_reducible repeat (first | apply Kd.R_alloc | apply Kd.R_drewN | apply Kd.R_drew)); exact HO_6.out⟩, ⟨by repeat (first | (with_reducible first | exact HB.out | apply below_alloc | apply pw_below_drewN | apply below_drew1) | exact HB.out)⟩⟩
              · replace c10 := Bool.eq_false_iff.mpr c10
                subst c10
                have H1 : (spec_PreKind.j1 k1 (rdOf ByteArray.empty t115 x8_1) t115 (t115.length : Int) x8_1 false) = some r := by rw [if_neg (show ¬ (false = true) by decide)] at H; exact H
                clear H
                have H := H1
                clear H1
                have H' := Aside0.mk H
                clear H
                go_wp2_with (first | ((with_reducible refine gate_callee (f := 24) rfl ?_); refine goesL_ (some 14) rfl rfl Tryd.func24 (by kernel_rfl) rfl #[.string (rdOf ByteArray.empty t115 x8_1)] rfl (by (try simp only [List.map_toArray, List.map_cons, List.map_nil]); first | done | rfl | (simp only [List.length_drop, List.length_take]; rfl)) ?_; (with_reducible refine (spec_Digits.calls k1 (rdOf ByteArray.empty t115 x8_1) false _ A9.out).mono ?_); rintro e w' ⟨rfl, ⟨nd, rfl⟩⟩; refine ⟨_, rfl, ?_⟩))
                go_meet
                case rel => exact ⟨_, (false), (by first | rfl | (simp; done) | (simp [*]; done) | (simp [nil_bne]; done)), H', ⟨by have := HK1.out; first | omega | exact Nat.le_refl _⟩, ⟨by (with_reducible repeat (first | apply Kd.R_alloc | apply Kd.R_drewN | apply Kd.R_drew)); exact HO_6.out⟩, ⟨by repeat (first | (with_reducible first | exact HB.out | apply below_alloc | apply pw_below_drewN | apply below_drew1) | exact HB.out)⟩⟩
            case rest =>
              clear HC8
              try clear c1
              try clear p1
              try clear q1
              try clear hx1
              try clear qi1
              try clear c2
              try clear p2
              try clear c5
              try clear c5b0
              try clear c6
              try clear c6b0
              try clear c7
              try clear c7b0
              try clear c10
              try clear c11
              try clear c11b0
              try clear c11b1
              try clear p11
              try clear q11
              try clear hx11
              try clear c12
              try clear c12b0
              try clear c12b1
              try clear p13
              try clear q13
              try clear hx13
              try clear qi13
              try clear hx118_0
              try clear p118
              try clear p13
              try clear p2
              try clear q118
              try clear q13
              obtain ⟨kq, x12_7, rfl, HA, HJ7, HO_6, HB⟩ := hcut
              cases kq with
              | zero => exact absurd HA.out (by simp [spec_PreKind.j1])
              | succ kj7 =>
                have H := HA.out
                clear HA
                simp only [spec_PreKind.j1] at H
                by_cases c14 : x12_7 = true
                · subst c14
                  have H1 : (some 4) = some r := by rw [if_pos rfl] at H; exact H
                  clear H
                  have H := H1
                  clear H1
                  obtain rfl := Option.some.inj H
                  go_wp2
                  go_ret
                  exact ⟨by first | rfl | (simp [errW_none, errW_some] <;> rfl) | (simp [*, errW_none, errW_some] <;> rfl), by repeat (first | (with_reducible first | exact HB.out | apply below_alloc | apply pw_below_drewN | apply below_drew1) | exact HB.out)⟩
                · replace c14 := Bool.eq_false_iff.mpr c14
                  subst c14
                  have H1 : ((spec_ValidIdent.f kj7 (rdOf ByteArray.empty t115 x8_1)).bind fun t120 => (if t120 = true then (spec_PreKind.l0 kj7 t115 (t115.length : Int) (wrap64 (x8_1 + 1))) else (some 5))) = some r := by rw [if_neg (show ¬ (false = true) by decide)] at H; exact H
                  clear H
                  have H := H1
                  clear H1
                  replace H := Option.bind_eq_some_iff.mp H
                  obtain ⟨t120, A150, H⟩ := H
                  replace H : (if t120 = true then (spec_PreKind.l0 kj7 t115 (t115.length : Int) (wrap64 (x8_1 + 1))) else (some 5)) = some r := H
                  have A15 := Aside0.mk A150
                  clear A150
                  by_cases c16 : t120 = true
                  · subst c16
                    have H1 : (spec_PreKind.l0 kj7 t115 (t115.length : Int) (wrap64 (x8_1 + 1))) = some r := by rw [if_pos rfl] at H; exact H
                    clear H
                    have H := H1
                    clear H1
                    have H' := Aside0.mk H
                    clear H
                    go_wp2_with (first | ((with_reducible refine gate_callee (f := 23) rfl ?_); refine goesL_ (some 27) rfl rfl Tryd.func23 (by kernel_rfl) rfl #[.string (rdOf ByteArray.empty t115 x8_1)] rfl (by (try simp only [List.map_toArray, List.map_cons, List.map_nil]); first | done | rfl | (simp only [List.length_drop, List.length_take]; rfl)) ?_; (with_reducible refine (spec_ValidIdent.calls kj7 (rdOf ByteArray.empty t115 x8_1) true _ A15.out).mono ?_); rintro e w' ⟨rfl, ⟨nd, rfl⟩⟩; refine ⟨_, rfl, ?_⟩))
                    go_roundg kj7
                    case measure => have := HK1.out; have := HJ7.out; omega
                    case rel => exact ⟨(wrap64 (x8_1 + 1)), (by first | rfl | (simp; done) | (simp [*]; done) | (simp [nil_bne]; done)), H', ⟨by have := HK1.out; have := HJ7.out; omega⟩, ⟨by (with_reducible repeat (first | apply Kd.R_alloc | apply Kd.R_drewN | apply Kd.R_drew)); exact HO_6.out⟩, ⟨by repeat (first | (with_reducible first | exact HB.out | apply below_alloc | apply pw_below_drewN | apply below_drew1) | exact HB.out)⟩⟩
                  · replace c16 := Bool.eq_false_iff.mpr c16
                    subst c16
                    have H1 : (some 5) = some r := by rw [if_neg (show ¬ (false = true) by decide)] at H; exact H
                    clear H
                    have H := H1
                    clear H1
                    obtain rfl := Option.some.inj H
                    go_wp2_with (first | ((with_reducible refine gate_callee (f := 23) rfl ?_); refine goesL_ (some 27) rfl rfl Tryd.func23 (by kernel_rfl) rfl #[.string (rdOf ByteArray.empty t115 x8_1)] rfl (by (try simp only [List.map_toArray, List.map_cons, List.map_nil]); first | done | rfl | (simp only [List.length_drop, List.length_take]; rfl)) ?_; (with_reducible refine (spec_ValidIdent.calls kj7 (rdOf ByteArray.empty t115 x8_1) false _ A15.out).mono ?_); rintro e w' ⟨rfl, ⟨nd, rfl⟩⟩; refine ⟨_, rfl, ?_⟩))
                    go_ret
                    exact ⟨by first | rfl | (simp [errW_none, errW_some] <;> rfl) | (simp [*, errW_none, errW_some] <;> rfl), by repeat (first | (with_reducible first | exact HB.out | apply below_alloc | apply pw_below_drewN | apply below_drew1) | exact HB.out)⟩
          · rw [if_neg c7] at H
            exact absurd H (by simp)
        · rw [if_neg c6] at H
          exact absurd H (by simp)
      · rw [if_neg c5] at H
        have c5b0 : decide (x8_1 < (t115.length : Int)) = false := decide_eq_false c5
        clear c5
        obtain rfl := Option.some.inj H
        go_wp2
        go_ret
        exact ⟨by first | rfl | (simp [errW_none, errW_some] <;> rfl) | (simp [*, errW_none, errW_some] <;> rfl), by repeat (first | (with_reducible first | exact HB.out | apply below_alloc | apply pw_below_drewN | apply below_drew1) | exact HB.out)⟩

/-! ### spec_NumberKind: function 13 -/
def spec_NumberKind.f (k : Nat) (a0 : ByteArray) : Option (Int) := if a0.toList = ([] : List UInt8) then (some 0) else ((spec_Digits.f k a0).bind fun t121 => (if t121 = true then (if (a0.size : Int) > 1 then (if 0 < (a0.size : Int) then (if (bt a0 0) = 48 then (some 4) else (some 0)) else (none)) else (some 0)) else (some 3)))
theorem spec_NumberKind.mono : ∀ a0 k, LeO (spec_NumberKind.f k a0) (spec_NumberKind.f (k + 1) a0) := by
  intro a0 k
  unfold spec_NumberKind.f
  repeat' first
      | (with_reducible exact spec_Digits.mono _ _)
      | (with_reducible exact LeO.refl _)
      | (with_reducible exact LeO.none _)
      | (with_reducible refine LeO.ite ?_ ?_)
      | (with_reducible refine LeO.bind ?_ (fun _ => ?_))
      | exact spec_Digits.mono _ _
      | exact LeO.none _
      | refine LeO.ite ?_ ?_
      | refine LeO.bind ?_ (fun _ => ?_)
set_option maxHeartbeats 8000000 in
set_option maxRecDepth 100000 in
theorem spec_NumberKind.calls (k : Nat) (a0 : ByteArray) (r : Int) (w : World) (h : spec_NumberKind.f k a0 = some r) :
    Calls Tryd.prog 13 #[.string a0] w fun e w' => e = .returned (.int .i64 r) ∧ Drawn0 w w' := by
  have H : (if a0.toList = ([] : List UInt8) then (some 0) else ((spec_Digits.f k a0).bind fun t121 => (if t121 = true then (if (a0.size : Int) > 1 then (if 0 < (a0.size : Int) then (if (bt a0 0) = 48 then (some 4) else (some 0)) else (none)) else (some 0)) else (some 3)))) = some r := h
  clear h
  by_cases c2 : a0.toList = ([] : List UInt8)
  · rw [if_pos c2] at H
    have c2b0 : (a0.toList == ([] : List UInt8)) = true := beq_iff_eq.mpr c2
    have c2b1 : (a0.toList != ([] : List UInt8)) = false := bne_eq_false_iff_eq.mpr c2
    (try (have c2b2 : a0.toList.isEmpty = true := by simpa using c2))
    (try (have c2b3 : (!a0.toList.isEmpty) = false := by simpa using c2))
    clear c2
    obtain rfl := Option.some.inj H
    go_enter Tryd.func13, Tryd.ntmps13
    go_wp2
    go_ret
    exact ⟨by first | rfl | (simp; done) | (simp [*]; done) | (simp [nil_bne]; done), by repeat (first | exact Drawn0.refl _ | apply Drawn0.step)⟩
  · rw [if_neg c2] at H
    have c2b0 : (a0.toList == ([] : List UInt8)) = false := beq_eq_false_iff_ne.mpr c2
    have c2b1 : (a0.toList != ([] : List UInt8)) = true := bne_iff_ne.mpr c2
    (try (have c2b2 : a0.toList.isEmpty = false := by simpa using c2))
    (try (have c2b3 : (!a0.toList.isEmpty) = true := by simpa using c2))
    replace H := Option.bind_eq_some_iff.mp H
    obtain ⟨t121, A30, H⟩ := H
    replace H : (if t121 = true then (if (a0.size : Int) > 1 then (if 0 < (a0.size : Int) then (if (bt a0 0) = 48 then (some 4) else (some 0)) else (none)) else (some 0)) else (some 3)) = some r := H
    have A3 := Aside0.mk A30
    clear A30
    by_cases c4 : t121 = true
    · subst c4
      have H1 : (if (a0.size : Int) > 1 then (if 0 < (a0.size : Int) then (if (bt a0 0) = 48 then (some 4) else (some 0)) else (none)) else (some 0)) = some r := by rw [if_pos rfl] at H; exact H
      clear H
      have H := H1
      clear H1
      by_cases c5 : (a0.size : Int) > 1
      · rw [if_pos c5] at H
        have c5b0 : decide (1 < (a0.size : Int)) = true := decide_eq_true c5
        have c5b1 : decide (1 < a0.size) = true := decide_eq_true (by omega)
        clear c5
        by_cases c6 : 0 < (a0.size : Int)
        · rw [if_pos c6] at H
          have c6b0 : decide (0 < (a0.size : Int)) = true := decide_eq_true c6
          have c6b1 : decide (0 < a0.size) = true := decide_eq_true (by omega)
          clear c6
          by_cases c8 : (bt a0 0) = 48
          · rw [if_pos c8] at H
            have c8b0 : ((bt a0 0) == 48) = true := beq_iff_eq.mpr c8
            have c8b1 : ((bt a0 0) != 48) = false := bne_eq_false_iff_eq.mpr c8
            clear c8
            obtain rfl := Option.some.inj H
            go_enter Tryd.func13, Tryd.ntmps13
            go_wp2_with (first | ((with_reducible refine gate_callee (f := 24) rfl ?_); refine goesL_ (some 8) rfl rfl Tryd.func24 (by kernel_rfl) rfl #[.string a0] rfl (by (try simp only [List.map_toArray, List.map_cons, List.map_nil]); first | done | rfl | (simp only [List.length_drop, List.length_take]; rfl)) ?_; (with_reducible refine (spec_Digits.calls k a0 true _ A3.out).mono ?_); rintro e w' ⟨rfl, ⟨nd, rfl⟩⟩; refine ⟨_, rfl, ?_⟩; have p7 : 0 ≤ (0 : Int) := (by omega); have q7 : 0 < a0.size := (by have : (0 : Int) < (a0.size : Int) := of_decide_eq_true (by first | (with_reducible assumption) | assumption); omega); have hx7 : ∀ h : 0 < a0.size, ((a0[0]'h).toNat : Int) = bt a0 0 := bt_at a0 0; clear p7; have qi7 : (0 < (a0.size : Int)) = True := eq_true (of_decide_eq_true (by first | (with_reducible assumption) | assumption)); replace q7 := eq_true q7))
            go_ret
            exact ⟨by first | rfl | (simp; done) | (simp [*]; done) | (simp [nil_bne]; done), by repeat (first | exact Drawn0.refl _ | apply Drawn0.step)⟩
          · rw [if_neg c8] at H
            have c8b0 : ((bt a0 0) == 48) = false := beq_eq_false_iff_ne.mpr c8
            have c8b1 : ((bt a0 0) != 48) = true := bne_iff_ne.mpr c8
            obtain rfl := Option.some.inj H
            go_enter Tryd.func13, Tryd.ntmps13
            go_wp2_with (first | ((with_reducible refine gate_callee (f := 24) rfl ?_); refine goesL_ (some 8) rfl rfl Tryd.func24 (by kernel_rfl) rfl #[.string a0] rfl (by (try simp only [List.map_toArray, List.map_cons, List.map_nil]); first | done | rfl | (simp only [List.length_drop, List.length_take]; rfl)) ?_; (with_reducible refine (spec_Digits.calls k a0 true _ A3.out).mono ?_); rintro e w' ⟨rfl, ⟨nd, rfl⟩⟩; refine ⟨_, rfl, ?_⟩; have p7 : 0 ≤ (0 : Int) := (by omega); have q7 : 0 < a0.size := (by have : (0 : Int) < (a0.size : Int) := of_decide_eq_true (by first | (with_reducible assumption) | assumption); omega); have hx7 : ∀ h : 0 < a0.size, ((a0[0]'h).toNat : Int) = bt a0 0 := bt_at a0 0; clear p7; have qi7 : (0 < (a0.size : Int)) = True := eq_true (of_decide_eq_true (by first | (with_reducible assumption) | assumption)); replace q7 := eq_true q7))
            go_ret
            exact ⟨by first | rfl | (simp; done) | (simp [*]; done) | (simp [nil_bne]; done), by repeat (first | exact Drawn0.refl _ | apply Drawn0.step)⟩
        · rw [if_neg c6] at H
          exact absurd H (by simp)
      · rw [if_neg c5] at H
        have c5b0 : decide (1 < (a0.size : Int)) = false := decide_eq_false c5
        have c5b1 : decide (1 < a0.size) = false := decide_eq_false (by omega)
        clear c5
        obtain rfl := Option.some.inj H
        go_enter Tryd.func13, Tryd.ntmps13
        go_wp2_with (first | ((with_reducible refine gate_callee (f := 24) rfl ?_); refine goesL_ (some 8) rfl rfl Tryd.func24 (by kernel_rfl) rfl #[.string a0] rfl (by (try simp only [List.map_toArray, List.map_cons, List.map_nil]); first | done | rfl | (simp only [List.length_drop, List.length_take]; rfl)) ?_; (with_reducible refine (spec_Digits.calls k a0 true _ A3.out).mono ?_); rintro e w' ⟨rfl, ⟨nd, rfl⟩⟩; refine ⟨_, rfl, ?_⟩))
        go_ret
        exact ⟨by first | rfl | (simp; done) | (simp [*]; done) | (simp [nil_bne]; done), by repeat (first | exact Drawn0.refl _ | apply Drawn0.step)⟩
    · replace c4 := Bool.eq_false_iff.mpr c4
      subst c4
      have H1 : (some 3) = some r := by rw [if_neg (show ¬ (false = true) by decide)] at H; exact H
      clear H
      have H := H1
      clear H1
      obtain rfl := Option.some.inj H
      go_enter Tryd.func13, Tryd.ntmps13
      go_wp2_with (first | ((with_reducible refine gate_callee (f := 24) rfl ?_); refine goesL_ (some 8) rfl rfl Tryd.func24 (by kernel_rfl) rfl #[.string a0] rfl (by (try simp only [List.map_toArray, List.map_cons, List.map_nil]); first | done | rfl | (simp only [List.length_drop, List.length_take]; rfl)) ?_; (with_reducible refine (spec_Digits.calls k a0 false _ A3.out).mono ?_); rintro e w' ⟨rfl, ⟨nd, rfl⟩⟩; refine ⟨_, rfl, ?_⟩))
      go_ret
      exact ⟨by first | rfl | (simp; done) | (simp [*]; done) | (simp [nil_bne]; done), by repeat (first | exact Drawn0.refl _ | apply Drawn0.step)⟩

end Go.Proofs.YtmbdpkaplnjopaaDoor.QG
