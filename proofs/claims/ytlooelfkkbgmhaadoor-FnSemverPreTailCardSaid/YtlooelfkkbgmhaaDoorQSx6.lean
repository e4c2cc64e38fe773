-- written by a program of mine (wip/tools/myprint.py) for this claim. Not trusted: Lean checks it.
import Derived.Test.YtlooelfkkbgmhaaDoorQSx0
import Derived.Test.YtlooelfkkbgmhaaDoorQSx2
import Derived.Test.YtlooelfkkbgmhaaDoorQSx3
import Derived.Test.YtlooelfkkbgmhaaDoorQSx4
import Derived.Test.YtlooelfkkbgmhaaDoorQSx5
namespace Go.Proofs.YtlooelfkkbgmhaaDoor.QS
open Go.RowKit Go.Proofs.YtlooelfkkbgmhaaDoorW.PrintWords Go.Proofs.YtlooelfkkbgmhaaDoorW.PrintLast Go.Proofs.YtlooelfkkbgmhaaDoorW.PrintMore
attribute [local go_sem] max2_int min2_int max_two min_two max_three min_three max_four min_four   -- for this text's walks alone
set_option linter.unusedVariables false
set_option linter.unusedSimpArgs false

/-! ### spec_SmallPre: function 71 -/
def spec_SmallPre.l0 : Nat → List ByteArray → Int → Int → Option (Bool)
  | 0, _, _, _ => none
  | k + 1, x6, x7, x8 => if x8 < x7 then (if 0 ≤ x8 then (if x8 < (x6.length : Int) then ((spec_Digits.f k (rdOf ByteArray.empty x6 x8)).bind fun t121 => (if t121 = true then (if ((rdOf ByteArray.empty x6 x8).size : Int) > 19 then (some false) else (spec_SmallPre.l0 k x6 x7 (wrap64 (x8 + 1)))) else (spec_SmallPre.l0 k x6 x7 (wrap64 (x8 + 1))))) else (none)) else (none)) else (some true)
def spec_SmallPre.f (k : Nat) (a0 : ByteArray) : Option (Bool) := (spec_Identifiers.f k a0).bind fun t117 => (spec_SmallPre.l0 k t117 (t117.length : Int) 0)
theorem spec_SmallPre.mono_l : ∀ k, (∀ y0 y1 y2, LeO (spec_SmallPre.l0 k y0 y1 y2) (spec_SmallPre.l0 (k + 1) y0 y1 y2))
  | 0 => fun _ _ _ r h => by simp [spec_SmallPre.l0] at h
  | k + 1 => by
    have ih0 := spec_SmallPre.mono_l k
    · intro y0 y1 y2
      unfold spec_SmallPre.l0
      repeat' first
      | (with_reducible exact ih0 _ _ _)
      | (with_reducible exact spec_Digits.mono _ _)
      | (with_reducible exact spec_Identifiers.mono _ _)
      | (with_reducible exact LeO.refl _)
      | (with_reducible exact LeO.none _)
      | (with_reducible refine LeO.ite ?_ ?_)
      | (with_reducible refine LeO.bind ?_ (fun _ => ?_))
      | exact ih0 _ _ _
      | exact spec_Digits.mono _ _
      | exact spec_Identifiers.mono _ _
      | exact LeO.none _
      | refine LeO.ite ?_ ?_
      | refine LeO.bind ?_ (fun _ => ?_)
theorem spec_SmallPre.mono : ∀ a0 k, LeO (spec_SmallPre.f k a0) (spec_SmallPre.f (k + 1) a0) := by
  intro a0 k
  have ih0 := spec_SmallPre.mono_l k
  unfold spec_SmallPre.f
  repeat' first
      | (with_reducible exact ih0 _ _ _)
      | (with_reducible exact spec_Digits.mono _ _)
      | (with_reducible exact spec_Identifiers.mono _ _)
      | (with_reducible exact LeO.refl _)
      | (with_reducible exact LeO.none _)
      | (with_reducible refine LeO.ite ?_ ?_)
      | (with_reducible refine LeO.bind ?_ (fun _ => ?_))
      | exact ih0 _ _ _
      | exact spec_Digits.mono _ _
      | exact spec_Identifiers.mono _ _
      | exact LeO.none _
      | refine LeO.ite ?_ ?_
      | refine LeO.bind ?_ (fun _ => ?_)
set_option maxHeartbeats 8000000 in
set_option maxRecDepth 100000 in
theorem spec_SmallPre.calls (k : Nat) (a0 : ByteArray) (r : Bool) (w : World) (h : spec_SmallPre.f k a0 = some r) :
    Calls Tryd.prog 71 #[.string a0] w fun e w' => e = .returned (.bool r) ∧ Below w.heap.size w w' := by
  have HB := Aside0.mk (Below.refl w.heap.size w)
  have H : ((spec_Identifiers.f k a0).bind fun t117 => (spec_SmallPre.l0 k t117 (t117.length : Int) 0)) = some r := h
  clear h
  replace H := Option.bind_eq_some_iff.mp H
  obtain ⟨t117, A20, H⟩ := H
  replace H : (spec_SmallPre.l0 k t117 (t117.length : Int) 0) = some r := H
  have A2 := Aside0.mk A20
  clear A20
  have H' := Aside0.mk H
  clear H
  go_enter Tryd.func71, Tryd.ntmps71
  go_wp2_with (first | ((with_reducible refine gate_callee (f := 117) rfl ?_); refine goesL_ (some 6) rfl rfl Tryd.func117 (by kernel_rfl) rfl #[.string a0] rfl (by (try simp only [List.map_toArray, List.map_cons, List.map_nil]); first | done | rfl | (simp only [List.length_drop, List.length_take]; rfl)) ?_; (with_reducible refine (spec_Identifiers.calls k a0 t117 _ A2.out).mono ?_); rintro e w3 ⟨v118, rfl, ho0, hb⟩; refine ⟨_, rfl, ?_⟩; have n0_ := Aside0.mk (Kd.R_lower ho0 (below_size (by repeat (first | (with_reducible first | exact HB.out | apply below_alloc | apply pw_below_drewN | apply below_drew1) | exact HB.out)))); have n1_ := Aside0.mk (below_step (by repeat (first | (with_reducible first | exact HB.out | apply below_alloc | apply pw_below_drewN | apply below_drew1) | exact HB.out)) hb); clear HB; have HO119 := n0_; have HB := n1_; clear n0_ n1_; (try clear hb); (try clear hb2); (try clear hk); (try clear hi); (try clear ho0); obtain ⟨Ao4, co4, eo4⟩ := Kd.R_slice HO119.out; subst eo4))
  go_loopg [8] k (fun kq v8 w' => ∃ (x8_1 : Int), v8 = .int .i64 x8_1 ∧ Aside0 (spec_SmallPre.l0 kq t117 (t117.length : Int) x8_1 = some r) ∧ Aside0 (kq ≤ k) ∧ Aside0 (Kd.R Kd.string 9 w' w.heap.size (fun _ => True) (.slice Ao4 t117.length co4) t117) ∧ Aside0 (Below w.heap.size w w'))
  case atStart => exact ⟨(0), (by first | rfl | (simp; done) | (simp [*]; done) | (simp [nil_bne]; done)), H', ⟨Nat.le_refl _⟩, ⟨by (with_reducible repeat (first | apply Kd.R_alloc | apply Kd.R_drewN | apply Kd.R_drew)); exact HO119.out⟩, ⟨by repeat (first | (with_reducible first | exact HB.out | apply below_alloc | apply pw_below_drewN | apply below_drew1) | exact HB.out)⟩⟩
  case round =>
    clear H'
    try clear c1
    try clear p2
    obtain ⟨x8_1, rfl, HA, HK1, HO_6, HB⟩ := hrel
    cases gk with
    | zero => exact absurd HA.out (by simp [spec_SmallPre.l0])
    | succ k1 =>
      have H := HA.out
      clear HA
      simp only [spec_SmallPre.l0] at H
      by_cases c5 : x8_1 < (t117.length : Int)
      · rw [if_pos c5] at H
        have c5b0 : decide (x8_1 < (t117.length : Int)) = true := decide_eq_true c5
        clear c5
        by_cases c6 : 0 ≤ x8_1
        · rw [if_pos c6] at H
          have c6b0 : decide (0 ≤ x8_1) = true := decide_eq_true c6
          clear c6
          by_cases c7 : x8_1 < (t117.length : Int)
          · rw [if_pos c7] at H
            have c7b0 : decide (x8_1 < (t117.length : Int)) = true := decide_eq_true c7
            clear c7
            replace H := Option.bind_eq_some_iff.mp H
            obtain ⟨t121, A80, H⟩ := H
            replace H : (if t121 = true then (if ((rdOf ByteArray.empty t117 x8_1).size : Int) > 19 then (some false) else (spec_SmallPre.l0 k1 t117 (t117.length : Int) (wrap64 (x8_1 + 1)))) else (spec_SmallPre.l0 k1 t117 (t117.length : Int) (wrap64 (x8_1 + 1)))) = some r := H
            have A8 := Aside0.mk A80
            clear A80
            by_cases c9 : t121 = true
            · subst c9
              have H1 : (if ((rdOf ByteArray.empty t117 x8_1).size : Int) > 19 then (some false) else (spec_SmallPre.l0 k1 t117 (t117.length : Int) (wrap64 (x8_1 + 1)))) = some r := by rw [if_pos rfl] at H; exact H
              clear H
              have H := H1
              clear H1
              by_cases c10 : ((rdOf ByteArray.empty t117 x8_1).size : Int) > 19
              · rw [if_pos c10] at H
                have c10b0 : decide (19 < ((rdOf ByteArray.empty t117 x8_1).size : Int)) = true := decide_eq_true c10
                have c10b1 : decide (19 < (rdOf ByteArray.empty t117 x8_1).size) = true := decide_eq_true (by omega)
                clear c10
                obtain rfl := Option.some.inj H
                have p120 : 0 ≤ (x8_1 : Int) := of_decide_eq_true (by first | (with_reducible assumption) | assumption)
                have q120 : x8_1 < (t117.length : Int) := of_decide_eq_true (by first | (with_reducible assumption) | assumption)
                obtain ⟨ad120, e120, hx120_0⟩ := Kd.at_string (Kd.R_reads' HO_6.out).2.2 x8_1 p120 q120
                cases e120
                replace p120 := eq_true p120
                replace q120 := eq_true q120
                go_wp2_with (first | ((with_reducible refine gate_callee (f := 73) rfl ?_); refine goesL_ (some 13) rfl rfl Tryd.func73 (by kernel_rfl) rfl #[.string (rdOf ByteArray.empty t117 x8_1)] rfl (by (try simp only [List.map_toArray, List.map_cons, List.map_nil]); first | done | rfl | (simp only [List.length_drop, List.length_take]; rfl)) ?_; (with_reducible refine (spec_Digits.calls k1 (rdOf ByteArray.empty t117 x8_1) true _ A8.out).mono ?_); rintro e w' ⟨rfl, ⟨nd, rfl⟩⟩; refine ⟨_, rfl, ?_⟩))
                go_ret
                exact ⟨by first | rfl | (simp [errW_none, errW_some] <;> rfl) | (simp [*, errW_none, errW_some] <;> rfl), by repeat (first | (with_reducible first | exact HB.out | apply below_alloc | apply pw_below_drewN | apply below_drew1) | exact HB.out)⟩
              · rw [if_neg c10] at H
                have c10b0 : decide (19 < ((rdOf ByteArray.empty t117 x8_1).size : Int)) = false := decide_eq_false c10
                have c10b1 : decide (19 < (rdOf ByteArray.empty t117 x8_1).size) = false := decide_eq_false (by omega)
                clear c10
                have H' := Aside0.mk H
                clear H
                have p120 : 0 ≤ (x8_1 : Int) := of_decide_eq_true (by first | (with_reducible assumption) | assumption)
                have q120 : x8_1 < (t117.length : Int) := of_decide_eq_true (by first | (with_reducible assumption) | assumption)
                obtain ⟨ad120, e120, hx120_0⟩ := Kd.at_string (Kd.R_reads' HO_6.out).2.2 x8_1 p120 q120
                cases e120
                replace p120 := eq_true p120
                replace q120 := eq_true q120
                go_wp2_with (first | ((with_reducible refine gate_callee (f := 73) rfl ?_); refine goesL_ (some 13) rfl rfl Tryd.func73 (by kernel_rfl) rfl #[.string (rdOf ByteArray.empty t117 x8_1)] rfl (by (try simp only [List.map_toArray, List.map_cons, List.map_nil]); first | done | rfl | (simp only [List.length_drop, List.length_take]; rfl)) ?_; (with_reducible refine (spec_Digits.calls k1 (rdOf ByteArray.empty t117 x8_1) true _ A8.out).mono ?_); rintro e w' ⟨rfl, ⟨nd, rfl⟩⟩; refine ⟨_, rfl, ?_⟩))
                go_roundg k1
                case measure => have := HK1.out; omega
                case rel => exact ⟨(wrap64 (x8_1 + 1)), (by first | rfl | (simp; done) | (simp [*]; done) | (simp [nil_bne]; done)), H', ⟨by have := HK1.out; omega⟩, ⟨by (with_reducible repeat (first | apply Kd.R_alloc | apply Kd.R_drewN | apply Kd.R_drew)); exact HO_6.out⟩, ⟨by repeat (first | (with_reducible first | exact HB.out | apply below_alloc | apply pw_below_drewN | apply below_drew1) | exact HB.out)⟩⟩
            · replace c9 := Bool.eq_false_iff.mpr c9
              subst c9
              have H1 : (spec_SmallPre.l0 k1 t117 (t117.length : Int) (wrap64 (x8_1 + 1))) = some r := by rw [if_neg (show ¬ (false = true) by decide)] at H; exact H
              clear H
              have H := H1
              clear H1
              have H' := Aside0.mk H
              clear H
              have p120 : 0 ≤ (x8_1 : Int) := of_decide_eq_true (by first | (with_reducible assumption) | assumption)
              have q120 : x8_1 < (t117.length : Int) := of_decide_eq_true (by first | (with_reducible assumption) | assumption)
              obtain ⟨ad120, e120, hx120_0⟩ := Kd.at_string (Kd.R_reads' HO_6.out).2.2 x8_1 p120 q120
              cases e120
              replace p120 := eq_true p120
              replace q120 := eq_true q120
              go_wp2_with (first | ((with_reducible refine gate_callee (f := 73) rfl ?_); refine goesL_ (some 13) rfl rfl Tryd.func73 (by kernel_rfl) rfl #[.string (rdOf ByteArray.empty t117 x8_1)] rfl (by (try simp only [List.map_toArray, List.map_cons, List.map_nil]); first | done | rfl | (simp only [List.length_drop, List.length_take]; rfl)) ?_; (with_reducible refine (spec_Digits.calls k1 (rdOf ByteArray.empty t117 x8_1) false _ A8.out).mono ?_); rintro e w' ⟨rfl, ⟨nd, rfl⟩⟩; refine ⟨_, rfl, ?_⟩))
              go_roundg k1
              case measure => have := HK1.out; omega
              case rel => exact ⟨(wrap64 (x8_1 + 1)), (by first | rfl | (simp; done) | (simp [*]; done) | (simp [nil_bne]; done)), H', ⟨by have := HK1.out; omega⟩, ⟨by (with_reducible repeat (first | apply Kd.R_alloc | apply Kd.R_drewN | apply Kd.R_drew)); exact HO_6.out⟩, ⟨by repeat (first | (with_reducible first | exact HB.out | apply below_alloc | apply pw_below_drewN | apply below_drew1) | exact HB.out)⟩⟩
          · rw [if_neg c7] at H
            exact absurd H (by simp)
        · rw [if_neg c6] at H
          exact absurd H (by simp)
      · rw [if_neg c5] at H
        have c5b0 : decide (x8_1 < (t117.length : Int)) = false := decide_eq_false c5
        clear c5
        obtain rfl := Option.some.inj H
        go_wp2
        go_ret
        exact ⟨by first | rfl | (simp [errW_none, errW_some] <;> rfl) | (simp [*, errW_none, errW_some] <;> rfl), by repeat (first | (with_reducible first | exact HB.out | apply below_alloc | apply pw_below_drewN | apply below_drew1) | exact HB.out)⟩

/-! ### laws_svIdent: function 22 -/
def laws_svIdent.f (k : Nat) (a0 : ByteArray) : Option (Bool) := (laws_svShort.f k (([a0] : List ByteArray))).bind fun t125 => (if t125 = true then ((spec_ValidIdent.f k a0).bind fun t126 => (if t126 = true then ((spec_ValidPre.f k a0).bind fun t127 => (if t127 = true then ((spec_SmallPre.f k a0).bind fun t128 => (some t128)) else (some false))) else (some false))) else (some false))
theorem laws_svIdent.mono : ∀ a0 k, LeO (laws_svIdent.f k a0) (laws_svIdent.f (k + 1) a0) := by
  intro a0 k
  unfold laws_svIdent.f
  repeat' first
      | (with_reducible exact laws_svShort.mono _ _)
      | (with_reducible exact spec_SmallPre.mono _ _)
      | (with_reducible exact spec_ValidIdent.mono _ _)
      | (with_reducible exact spec_ValidPre.mono _ _)
      | (with_reducible exact LeO.refl _)
      | (with_reducible exact LeO.none _)
      | (with_reducible refine LeO.ite ?_ ?_)
      | (with_reducible refine LeO.bind ?_ (fun _ => ?_))
      | exact laws_svShort.mono _ _
      | exact spec_SmallPre.mono _ _
      | exact spec_ValidIdent.mono _ _
      | exact spec_ValidPre.mono _ _
      | exact LeO.none _
      | refine LeO.ite ?_ ?_
      | refine LeO.bind ?_ (fun _ => ?_)
set_option maxHeartbeats 8000000 in
set_option maxRecDepth 100000 in
theorem laws_svIdent.calls (k : Nat) (a0 : ByteArray) (r : Bool) (w : World) (h : laws_svIdent.f k a0 = some r) :
    Calls Tryd.prog 22 #[.string a0] w fun e w' => e = .returned (.bool r) ∧ Below w.heap.size w w' := by
  have HB := Aside0.mk (Below.refl w.heap.size w)
  have H : ((laws_svShort.f k (([a0] : List ByteArray))).bind fun t125 => (if t125 = true then ((spec_ValidIdent.f k a0).bind fun t126 => (if t126 = true then ((spec_ValidPre.f k a0).bind fun t127 => (if t127 = true then ((spec_SmallPre.f k a0).bind fun t128 => (some t128)) else (some false))) else (some false))) else (some false))) = some r := h
  clear h
  obtain ⟨y122, hy122⟩ : ∃ y_ : List ByteArray, y_ = (([a0] : List ByteArray)) := ⟨_, rfl⟩
  replace H : ((laws_svShort.f k y122).bind fun t125 => (if t125 = true then ((spec_ValidIdent.f k a0).bind fun t126 => (if t126 = true then ((spec_ValidPre.f k a0).bind fun t127 => (if t127 = true then ((spec_SmallPre.f k a0).bind fun t128 => (some t128)) else (some false))) else (some false))) else (some false))) = some r := by first | (rw [hy122]; with_reducible exact H) | (have H2_ := (Option.bind_some _ _).symm.trans H; rw [hy122]; with_reducible exact H2_) | (have H2_ := (Option.bind_some _ _).symm.trans H; with_reducible exact H2_) | with_reducible exact H | (rw [hy122]; exact H) | exact H
  have Ny122 := Aside0.mk hy122
  clear hy122
  replace H := Option.bind_eq_some_iff.mp H
  obtain ⟨t125, A20, H⟩ := H
  replace H : (if t125 = true then ((spec_ValidIdent.f k a0).bind fun t126 => (if t126 = true then ((spec_ValidPre.f k a0).bind fun t127 => (if t127 = true then ((spec_SmallPre.f k a0).bind fun t128 => (some t128)) else (some false))) else (some false))) else (some false)) = some r := H
  have A2 := Aside0.mk A20
  clear A20
  by_cases c3 : t125 = true
  · subst c3
    have H1 : ((spec_ValidIdent.f k a0).bind fun t126 => (if t126 = true then ((spec_ValidPre.f k a0).bind fun t127 => (if t127 = true then ((spec_SmallPre.f k a0).bind fun t128 => (some t128)) else (some false))) else (some false))) = some r := by rw [if_pos rfl] at H; exact H
    clear H
    have H := H1
    clear H1
    replace H := Option.bind_eq_some_iff.mp H
    obtain ⟨t126, A40, H⟩ := H
    replace H : (if t126 = true then ((spec_ValidPre.f k a0).bind fun t127 => (if t127 = true then ((spec_SmallPre.f k a0).bind fun t128 => (some t128)) else (some false))) else (some false)) = some r := H
    have A4 := Aside0.mk A40
    clear A40
    by_cases c5 : t126 = true
    · subst c5
      have H1 : ((spec_ValidPre.f k a0).bind fun t127 => (if t127 = true then ((spec_SmallPre.f k a0).bind fun t128 => (some t128)) else (some false))) = some r := by rw [if_pos rfl] at H; exact H
      clear H
      have H := H1
      clear H1
      replace H := Option.bind_eq_some_iff.mp H
      obtain ⟨t127, A60, H⟩ := H
      replace H : (if t127 = true then ((spec_SmallPre.f k a0).bind fun t128 => (some t128)) else (some false)) = some r := H
      have A6 := Aside0.mk A60
      clear A60
      by_cases c7 : t127 = true
      · subst c7
        have H1 : ((spec_SmallPre.f k a0).bind fun t128 => (some t128)) = some r := by rw [if_pos rfl] at H; exact H
        clear H
        have H := H1
        clear H1
        replace H := Option.bind_eq_some_iff.mp H
        obtain ⟨t128, A80, H⟩ := H
        replace H : (some t128) = some r := H
        have A8 := Aside0.mk A80
        clear A80
        obtain rfl := Option.some.inj H
        go_enter Tryd.func22, Tryd.ntmps22
        go_wp2_with (first | ((with_reducible refine gate_dst (N := 4) rfl ?_); refine Kd.R_lit Kd.string _ 9 ?hg (N := 4) ?hd (xs := ([a0] : List ByteArray)) (inner := [.string a0]) (ok := fun _ => True) (okp := fun _ => True) ?hr ?hp (fun _ hk => hk) trivial (Below.refl _ _) (Nat.le_refl _) (by simp) ?_; (case hd => rfl); (case hg => rfl); (case hr => first | (go_simp; done) | (go_simp; rfl)); (case hp => exact (Reps.one (show Kd.M Kd.string _ _ _ a0 [.string a0] from rfl) (Reps.none _ _))); intro v123 w9 ho10 hb hg_ hnew_; clear hg_ hnew_; (first | rw [← Ny122.out] at ho10 | (simp only [Int.reduceToNat] at ho10; rw [← Ny122.out] at ho10)); have n0_ := Aside0.mk (Kd.R_lower ho10 (below_size (by repeat (first | (with_reducible first | exact HB.out | apply below_alloc | apply pw_below_drewN | apply below_drew1) | exact HB.out)))); have n1_ := Aside0.mk (below_step (by repeat (first | (with_reducible first | exact HB.out | apply below_alloc | apply pw_below_drewN | apply below_drew1) | exact HB.out)) hb); clear HB; have HO124 := n0_; have HB := n1_; clear n0_ n1_; clear hb ho10; obtain ⟨Ao11, co11, eo11⟩ := Kd.R_slice HO124.out; subst eo11) | ((with_reducible refine gate_callee (f := 64) rfl ?_); refine goesL_ (some 5) rfl rfl Tryd.func64 (by kernel_rfl) rfl #[.slice Ao11 y122.length co11] rfl (by (try simp only [List.map_toArray, List.map_cons, List.map_nil]); first | done | rfl | (simp only [List.length_drop, List.length_take]; rfl)) ?_; (with_reducible refine (laws_svShort.calls k _ _ y122 true _ ?side1 ?side2 A2.out).mono ?_); (case side1 => repeat (first | exact (Kd.R_reads' HO124.out).2.2 | (with_reducible refine Kd.C_alloc ?_ _) | (with_reducible refine Kd.C_drewN ?_ _) | (with_reducible refine Kd.C_drew ?_))); (case side2 => exact (Kd.R_reads' HO124.out).2.1); rintro e w' ⟨rfl, ⟨nd, rfl⟩⟩; refine ⟨_, rfl, ?_⟩) | (go_at_call 69; (with_reducible refine (spec_ValidIdent.calls k a0 true _ A4.out).mono ?_); rintro e w' ⟨rfl, ⟨nd, rfl⟩⟩) | (go_at_call 70; (with_reducible refine (spec_ValidPre.calls k a0 true _ A6.out).mono ?_); rintro e w12 ⟨rfl, hb⟩; have n0_ := Aside0.mk (Kd.R_below (by (with_reducible repeat (first | apply Kd.R_alloc | apply Kd.R_drewN | apply Kd.R_drew)); exact HO124.out) hb); have n1_ := Aside0.mk (below_step (by repeat (first | (with_reducible first | exact HB.out | apply below_alloc | apply pw_below_drewN | apply below_drew1) | exact HB.out)) hb); clear HO124; clear HB; have HO124 := n0_; have HB := n1_; clear n0_ n1_; (try clear hb); (try clear hb2); (try clear hk); (try clear hi)) | (go_at_call 71; (with_reducible refine (spec_SmallPre.calls k a0 t128 _ A8.out).mono ?_); rintro e w13 ⟨rfl, hb⟩; have n0_ := Aside0.mk (Kd.R_below (by (with_reducible repeat (first | apply Kd.R_alloc | apply Kd.R_drewN | apply Kd.R_drew)); exact HO124.out) hb); have n1_ := Aside0.mk (below_step (by repeat (first | (with_reducible first | exact HB.out | apply below_alloc | apply pw_below_drewN | apply below_drew1) | exact HB.out)) hb); clear HO124; clear HB; have HO124 := n0_; have HB := n1_; clear n0_ n1_; (try clear hb); (try clear hb2); (try clear hk); (try clear hi)))
        go_ret
        exact ⟨by first | rfl | (simp [errW_none, errW_some] <;> rfl) | (simp [*, errW_none, errW_some] <;> rfl), by repeat (first | (with_reducible first | exact HB.out | apply below_alloc | apply pw_below_drewN | apply below_drew1) | exact HB.out)⟩
      · replace c7 := Bool.eq_false_iff.mpr c7
        subst c7
        have H1 : (some false) = some r := by rw [if_neg (show ¬ (false = true) by decide)] at H; exact H
        clear H
        have H := H1
        clear H1
        obtain rfl := Option.some.inj H
        go_enter Tryd.func22, Tryd.ntmps22
        go_wp2_with (first | ((with_reducible refine gate_dst (N := 4) rfl ?_); refine Kd.R_lit Kd.string _ 9 ?hg (N := 4) ?hd (xs := ([a0] : List ByteArray)) (inner := [.string a0]) (ok := fun _ => True) (okp := fun _ => True) ?hr ?hp (fun _ hk => hk) trivial (Below.refl _ _) (Nat.le_refl _) (by simp) ?_; (case hd => rfl); (case hg => rfl); (case hr => first | (go_simp; done) | (go_simp; rfl)); (case hp => exact (Reps.one (show Kd.M Kd.string _ _ _ a0 [.string a0] from rfl) (Reps.none _ _))); intro v123 w14 ho15 hb hg_ hnew_; clear hg_ hnew_; (first | rw [← Ny122.out] at ho15 | (simp only [Int.reduceToNat] at ho15; rw [← Ny122.out] at ho15)); have n0_ := Aside0.mk (Kd.R_lower ho15 (below_size (by repeat (first | (with_reducible first | exact HB.out | apply below_alloc | apply pw_below_drewN | apply below_drew1) | exact HB.out)))); have n1_ := Aside0.mk (below_step (by repeat (first | (with_reducible first | exact HB.out | apply below_alloc | apply pw_below_drewN | apply below_drew1) | exact HB.out)) hb); clear HB; have HO124 := n0_; have HB := n1_; clear n0_ n1_; clear hb ho15; obtain ⟨Ao16, co16, eo16⟩ := Kd.R_slice HO124.out; subst eo16) | ((with_reducible refine gate_callee (f := 64) rfl ?_); refine goesL_ (some 5) rfl rfl Tryd.func64 (by kernel_rfl) rfl #[.slice Ao16 y122.length co16] rfl (by (try simp only [List.map_toArray, List.map_cons, List.map_nil]); first | done | rfl | (simp only [List.length_drop, List.length_take]; rfl)) ?_; (with_reducible refine (laws_svShort.calls k _ _ y122 true _ ?side1 ?side2 A2.out).mono ?_); (case side1 => repeat (first | exact (Kd.R_reads' HO124.out).2.2 | (with_reducible refine Kd.C_alloc ?_ _) | (with_reducible refine Kd.C_drewN ?_ _) | (with_reducible refine Kd.C_drew ?_))); (case side2 => exact (Kd.R_reads' HO124.out).2.1); rintro e w' ⟨rfl, ⟨nd, rfl⟩⟩; refine ⟨_, rfl, ?_⟩) | (go_at_call 69; (with_reducible refine (spec_ValidIdent.calls k a0 true _ A4.out).mono ?_); rintro e w' ⟨rfl, ⟨nd, rfl⟩⟩) | (go_at_call 70; (with_reducible refine (spec_ValidPre.calls k a0 false _ A6.out).mono ?_); rintro e w17 ⟨rfl, hb⟩; have n0_ := Aside0.mk (Kd.R_below (by (with_reducible repeat (first | apply Kd.R_alloc | apply Kd.R_drewN | apply Kd.R_drew)); exact HO124.out) hb); have n1_ := Aside0.mk (below_step (by repeat (first | (with_reducible first | exact HB.out | apply below_alloc | apply pw_below_drewN | apply below_drew1) | exact HB.out)) hb); clear HO124; clear HB; have HO124 := n0_; have HB := n1_; clear n0_ n1_; (try clear hb); (try clear hb2); (try clear hk); (try clear hi)))
        go_ret
        exact ⟨by first | rfl | (simp [errW_none, errW_some] <;> rfl) | (simp [*, errW_none, errW_some] <;> rfl), by repeat (first | (with_reducible first | exact HB.out | apply below_alloc | apply pw_below_drewN | apply below_drew1) | exact HB.out)⟩
    · replace c5 := Bool.eq_false_iff.mpr c5
      subst c5
      have H1 : (some false) = some r := by rw [if_neg (show ¬ (false = true) by decide)] at H; exact H
      clear H
      have H := H1
      clear H1
      obtain rfl := Option.some.inj H
      go_enter Tryd.func22, Tryd.ntmps22
      go_wp2_with (first | ((with_reducible refine gate_dst (N := 4) rfl ?_); refine Kd.R_lit Kd.string _ 9 ?hg (N := 4) ?hd (xs := ([a0] : List ByteArray)) (inner := [.string a0]) (ok := fun _ => True) (okp := fun _ => True) ?hr ?hp (fun _ hk => hk) trivial (Below.refl _ _) (Nat.le_refl _) (by simp) ?_; (case hd => rfl); (case hg => rfl); (case hr => first | (go_simp; done) | (go_simp; rfl)); (case hp => exact (Reps.one (show Kd.M Kd.string _ _ _ a0 [.string a0] from rfl) (Reps.none _ _))); intro v123 w18 ho19 hb hg_ hnew_; clear hg_ hnew_; (first | rw [← Ny122.out] at ho19 | (simp only [Int.reduceToNat] at ho19; rw [← Ny122.out] at ho19)); have n0_ := Aside0.mk (Kd.R_lower ho19 (below_size (by repeat (first | (with_reducible first | exact HB.out | apply below_alloc | apply pw_below_drewN | apply below_drew1) | exact HB.out)))); have n1_ := Aside0.mk (below_step (by repeat (first | (with_reducible first | exact HB.out | apply below_alloc | apply pw_below_drewN | apply below_drew1) | exact HB.out)) hb); clear HB; have HO124 := n0_; have HB := n1_; clear n0_ n1_; clear hb ho19; obtain ⟨Ao20, co20, eo20⟩ := Kd.R_slice HO124.out; subst eo20) | ((with_reducible refine gate_callee (f := 64) rfl ?_); refine goesL_ (some 5) rfl rfl Tryd.func64 (by kernel_rfl) rfl #[.slice Ao20 y122.length co20] rfl (by (try simp only [List.map_toArray, List.map_cons, List.map_nil]); first | done | rfl | (simp only [List.length_drop, List.length_take]; rfl)) ?_; (with_reducible refine (laws_svShort.calls k _ _ y122 true _ ?side1 ?side2 A2.out).mono ?_); (case side1 => repeat (first | exact (Kd.R_reads' HO124.out).2.2 | (with_reducible refine Kd.C_alloc ?_ _) | (with_reducible refine Kd.C_drewN ?_ _) | (with_reducible refine Kd.C_drew ?_))); (case side2 => exact (Kd.R_reads' HO124.out).2.1); rintro e w' ⟨rfl, ⟨nd, rfl⟩⟩; refine ⟨_, rfl, ?_⟩) | (go_at_call 69; (with_reducible refine (spec_ValidIdent.calls k a0 false _ A4.out).mono ?_); rintro e w' ⟨rfl, ⟨nd, rfl⟩⟩))
      go_ret
      exact ⟨by first | rfl | (simp [errW_none, errW_some] <;> rfl) | (simp [*, errW_none, errW_some] <;> rfl), by repeat (first | (with_reducible first | exact HB.out | apply below_alloc | apply pw_below_drewN | apply below_drew1) | exact HB.out)⟩
  · replace c3 := Bool.eq_false_iff.mpr c3
    subst c3
    have H1 : (some false) = some r := by rw [if_neg (show ¬ (false = true) by decide)] at H; exact H
    clear H
    have H := H1
    clear H1
    obtain rfl := Option.some.inj H
    go_enter Tryd.func22, Tryd.ntmps22
    go_wp2_with (first | ((with_reducible refine gate_dst (N := 4) rfl ?_); refine Kd.R_lit Kd.string _ 9 ?hg (N := 4) ?hd (xs := ([a0] : List ByteArray)) (inner := [.string a0]) (ok := fun _ => True) (okp := fun _ => True) ?hr ?hp (fun _ hk => hk) trivial (Below.refl _ _) (Nat.le_refl _) (by simp) ?_; (case hd => rfl); (case hg => rfl); (case hr => first | (go_simp; done) | (go_simp; rfl)); (case hp => exact (Reps.one (show Kd.M Kd.string _ _ _ a0 [.string a0] from rfl) (Reps.none _ _))); intro v123 w21 ho22 hb hg_ hnew_; clear hg_ hnew_; (first | rw [← Ny122.out] at ho22 | (simp only [Int.reduceToNat] at ho22; rw [← Ny122.out] at ho22)); have n0_ := Aside0.mk (Kd.R_lower ho22 (below_size (by repeat (first | (with_reducible first | exact HB.out | apply below_alloc | apply pw_below_drewN | apply below_drew1) | exact HB.out)))); have n1_ := Aside0.mk (below_step (by repeat (first | (with_reducible first | exact HB.out | apply below_alloc | apply pw_below_drewN | apply below_drew1) | exact HB.out)) hb); clear HB; have HO124 := n0_; have HB := n1_; clear n0_ n1_; clear hb ho22; obtain ⟨Ao23, co23, eo23⟩ := Kd.R_slice HO124.out; subst eo23) | ((with_reducible refine gate_callee (f := 64) rfl ?_); refine goesL_ (some 5) rfl rfl Tryd.func64 (by kernel_rfl) rfl #[.slice Ao23 y122.length co23] rfl (by (try simp only [List.map_toArray, List.map_cons, List.map_nil]); first | done | rfl | (simp only [List.length_drop, List.length_take]; rfl)) ?_; (with_reducible refine (laws_svShort.calls k _ _ y122 false _ ?side1 ?side2 A2.out).mono ?_); (case side1 => repeat (first | exact (Kd.R_reads' HO124.out).2.2 | (with_reducible refine Kd.C_alloc ?_ _) | (with_reducible refine Kd.C_drewN ?_ _) | (with_reducible refine Kd.C_drew ?_))); (case side2 => exact (Kd.R_reads' HO124.out).2.1); rintro e w' ⟨rfl, ⟨nd, rfl⟩⟩; refine ⟨_, rfl, ?_⟩))
    go_ret
    exact ⟨by first | rfl | (simp [errW_none, errW_some] <;> rfl) | (simp [*, errW_none, errW_some] <;> rfl), by repeat (first | (with_reducible first | exact HB.out | apply below_alloc | apply pw_below_drewN | apply below_drew1) | exact HB.out)⟩

-- GIVEN: function 23 (impl_ComparePart)

end Go.Proofs.YtlooelfkkbgmhaaDoor.QS
