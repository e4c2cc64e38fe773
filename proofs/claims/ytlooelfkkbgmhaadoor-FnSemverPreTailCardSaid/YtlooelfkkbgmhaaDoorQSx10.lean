-- written by a program of mine (wip/tools/myprint.py) for this claim. Not trusted: Lean checks it.
import Derived.Test.YtlooelfkkbgmhaaDoorQSx0
import Derived.Test.YtlooelfkkbgmhaaDoorQSx6
import Derived.Test.YtlooelfkkbgmhaaDoorQSx9
import Derived.Test.YtlooelfkkbgmhaaDoorQAx1
import Derived.Test.YtlooelfkkbgmhaaDoorQAx2
namespace Go.Proofs.YtlooelfkkbgmhaaDoor.QS
open Go.RowKit Go.Proofs.YtlooelfkkbgmhaaDoorW.PrintWords Go.Proofs.YtlooelfkkbgmhaaDoorW.PrintLast Go.Proofs.YtlooelfkkbgmhaaDoorW.PrintMore
attribute [local go_sem] max2_int min2_int max_two min_two max_three min_three max_four min_four   -- for this text's walks alone
set_option linter.unusedVariables false
set_option linter.unusedSimpArgs false

/-! ### laws_FnSemverPreTail: function 5 -/
mutual
def laws_FnSemverPreTail.j0 : Nat → ByteArray → ByteArray → ByteArray → ByteArray → Bool → Option (Bool)
  | 0, _, _, _, _, _ => none
  | k + 1, x0, x1, x2, x3, x27 => if x27 = true then (some true) else ((laws_svIdent.f k x0).bind fun t146 => (if t146 = true then ((laws_svIdent.f k x1).bind fun t147 => (if t147 = true then (if x0.toList = x1.toList then (laws_FnSemverPreTail.j1 k x0 x1 x2 x3 true) else ((laws_spPres.f k (([x2, x3] : List ByteArray))).bind fun t151 => (laws_FnSemverPreTail.j1 k x0 x1 x2 x3 (!t151)))) else (laws_FnSemverPreTail.j1 k x0 x1 x2 x3 true))) else (laws_FnSemverPreTail.j1 k x0 x1 x2 x3 true)))
def laws_FnSemverPreTail.j1 : Nat → ByteArray → ByteArray → ByteArray → ByteArray → Bool → Option (Bool)
  | 0, _, _, _, _, _ => none
  | k + 1, x0, x1, x2, x3, x47 => if x47 = true then (some true) else ((impl_ComparePart.f x0 x1).bind fun t152 => (if t152 = 0 then (some false) else (if x0.size + 1 ≤ 9223372036854775807 then (if (x0 ++ (⟨#[46]⟩ : ByteArray)).size + x2.size ≤ 9223372036854775807 then (if x1.size + 1 ≤ 9223372036854775807 then (if (x1 ++ (⟨#[46]⟩ : ByteArray)).size + x3.size ≤ 9223372036854775807 then ((impl_ComparePre.f k ((x0 ++ (⟨#[46]⟩ : ByteArray)) ++ x2) ((x1 ++ (⟨#[46]⟩ : ByteArray)) ++ x3)).bind fun t153 => (if t153 = t152 then ((impl_ComparePre.f k x0 ((x1 ++ (⟨#[46]⟩ : ByteArray)) ++ x3)).bind fun t154 => (if t154 = t152 then ((impl_ComparePre.f k ((x0 ++ (⟨#[46]⟩ : ByteArray)) ++ x2) x1).bind fun t155 => (some (t155 == t152))) else (some false))) else (some false))) else (none)) else (none)) else (none)) else (none))))
end
def laws_FnSemverPreTail.f (k : Nat) (a0 : ByteArray) (a1 : ByteArray) (a2 : ByteArray) (a3 : ByteArray) : Option (Bool) := if (a0.size : Int) > 2147483647 then (laws_FnSemverPreTail.j0 k a0 a1 a2 a3 true) else (if (a1.size : Int) > 2147483647 then (laws_FnSemverPreTail.j0 k a0 a1 a2 a3 true) else (if (a2.size : Int) > 2147483647 then (laws_FnSemverPreTail.j0 k a0 a1 a2 a3 true) else (laws_FnSemverPreTail.j0 k a0 a1 a2 a3 (decide ((a3.size : Int) > 2147483647)))))
theorem laws_FnSemverPreTail.mono_l : ∀ k, (∀ y0 y1 y2 y3 y4, LeO (laws_FnSemverPreTail.j0 k y0 y1 y2 y3 y4) (laws_FnSemverPreTail.j0 (k + 1) y0 y1 y2 y3 y4)) ∧ (∀ y0 y1 y2 y3 y4, LeO (laws_FnSemverPreTail.j1 k y0 y1 y2 y3 y4) (laws_FnSemverPreTail.j1 (k + 1) y0 y1 y2 y3 y4))
  | 0 => ⟨fun _ _ _ _ _ r h => by simp [laws_FnSemverPreTail.j0] at h, fun _ _ _ _ _ r h => by simp [laws_FnSemverPreTail.j1] at h⟩
  | k + 1 => by
    obtain ⟨ih0, ih1⟩ := laws_FnSemverPreTail.mono_l k
    refine ⟨?_, ?_⟩
    · intro y0 y1 y2 y3 y4
      unfold laws_FnSemverPreTail.j0
      repeat' first
      | (with_reducible exact ih0 _ _ _ _ _)
      | (with_reducible exact ih1 _ _ _ _ _)
      | (with_reducible exact impl_ComparePre.mono _ _ _)
      | (with_reducible exact laws_spPres.mono _ _)
      | (with_reducible exact laws_svIdent.mono _ _)
      | (with_reducible exact LeO.refl _)
      | (with_reducible exact LeO.none _)
      | (with_reducible refine LeO.ite ?_ ?_)
      | (with_reducible refine LeO.bind ?_ (fun _ => ?_))
      | exact ih0 _ _ _ _ _
      | exact ih1 _ _ _ _ _
      | exact impl_ComparePre.mono _ _ _
      | exact laws_spPres.mono _ _
      | exact laws_svIdent.mono _ _
      | exact LeO.none _
      | refine LeO.ite ?_ ?_
      | refine LeO.bind ?_ (fun _ => ?_)
    · intro y0 y1 y2 y3 y4
      unfold laws_FnSemverPreTail.j1
      repeat' first
      | (with_reducible exact ih0 _ _ _ _ _)
      | (with_reducible exact ih1 _ _ _ _ _)
      | (with_reducible exact impl_ComparePre.mono _ _ _)
      | (with_reducible exact laws_spPres.mono _ _)
      | (with_reducible exact laws_svIdent.mono _ _)
      | (with_reducible exact LeO.refl _)
      | (with_reducible exact LeO.none _)
      | (with_reducible refine LeO.ite ?_ ?_)
      | (with_reducible refine LeO.bind ?_ (fun _ => ?_))
      | exact ih0 _ _ _ _ _
      | exact ih1 _ _ _ _ _
      | exact impl_ComparePre.mono _ _ _
      | exact laws_spPres.mono _ _
      | exact laws_svIdent.mono _ _
      | exact LeO.none _
      | refine LeO.ite ?_ ?_
      | refine LeO.bind ?_ (fun _ => ?_)
theorem laws_FnSemverPreTail.mono : ∀ a0 a1 a2 a3 k, LeO (laws_FnSemverPreTail.f k a0 a1 a2 a3) (laws_FnSemverPreTail.f (k + 1) a0 a1 a2 a3) := by
  intro a0 a1 a2 a3 k
  obtain ⟨ih0, ih1⟩ := laws_FnSemverPreTail.mono_l k
  unfold laws_FnSemverPreTail.f
  repeat' first
      | (with_reducible exact ih0 _ _ _ _ _)
      | (with_reducible exact ih1 _ _ _ _ _)
      | (with_reducible exact impl_ComparePre.mono _ _ _)
      | (with_reducible exact laws_spPres.mono _ _)
      | (with_reducible exact laws_svIdent.mono _ _)
      | (with_reducible exact LeO.refl _)
      | (with_reducible exact LeO.none _)
      | (with_reducible refine LeO.ite ?_ ?_)
      | (with_reducible refine LeO.bind ?_ (fun _ => ?_))
      | exact ih0 _ _ _ _ _
      | exact ih1 _ _ _ _ _
      | exact impl_ComparePre.mono _ _ _
      | exact laws_spPres.mono _ _
      | exact laws_svIdent.mono _ _
      | exact LeO.none _
      | refine LeO.ite ?_ ?_
      | refine LeO.bind ?_ (fun _ => ?_)
set_option maxHeartbeats 8000000 in
set_option maxRecDepth 100000 in
theorem laws_FnSemverPreTail.calls (k : Nat) (a0 : ByteArray) (a1 : ByteArray) (a2 : ByteArray) (a3 : ByteArray) (r : Bool) (w : World) (hGE : GlobE w) (h : laws_FnSemverPreTail.f k a0 a1 a2 a3 = some r) :
    Calls Tryd.prog 5 #[.string a0, .string a1, .string a2, .string a3] w fun e w' => e = .returned (.bool r) ∧ Below w.heap.size w w' := by
  have HGE := Aside0.mk hGE
  clear hGE
  have HB := Aside0.mk (Below.refl w.heap.size w)
  have H : (if (a0.size : Int) > 2147483647 then (laws_FnSemverPreTail.j0 k a0 a1 a2 a3 true) else (if (a1.size : Int) > 2147483647 then (laws_FnSemverPreTail.j0 k a0 a1 a2 a3 true) else (if (a2.size : Int) > 2147483647 then (laws_FnSemverPreTail.j0 k a0 a1 a2 a3 true) else (laws_FnSemverPreTail.j0 k a0 a1 a2 a3 (decide ((a3.size : Int) > 2147483647)))))) = some r := h
  clear h
  have HC5 := Aside0.mk H
  clear H
  go_enter Tryd.func5, Tryd.ntmps5
  go_upto_region 1 with (fail)
  go_cut [27] (fun v27 wc => ∃ (kq : Nat) (x27_4 : Bool), v27 = .bool x27_4 ∧ Aside0 (laws_FnSemverPreTail.j0 kq a0 a1 a2 a3 x27_4 = some r) ∧ Aside0 (kq ≤ k) ∧ Aside0 (Below w.heap.size w wc))
  case first =>
    have H := HC5.out
    clear HC5
    by_cases c6 : (a0.size : Int) > 2147483647
    · rw [if_pos c6] at H
      have c6b0 : decide (2147483647 < (a0.size : Int)) = true := decide_eq_true c6
      have c6b1 : decide (2147483647 < a0.size) = true := decide_eq_true (by omega)
      clear c6
      (first | rw [c6b0] | (simp only [i64_w, i32_w]; rw [c6b0]) | rw [c6b1] | skip)
      have H' := Aside0.mk H
      clear H
      go_wp2
      go_meet
      case rel => exact ⟨_, (true), (by first | rfl | (simp; done) | (simp [*]; done) | (simp [nil_bne]; done)), H', ⟨by first | omega | exact Nat.le_refl _⟩, ⟨by repeat (first | (with_reducible first | exact HB.out | apply below_alloc | apply pw_below_drewN | apply below_drew1) | exact HB.out)⟩⟩
    · rw [if_neg c6] at H
      have c6b0 : decide (2147483647 < (a0.size : Int)) = false := decide_eq_false c6
      have c6b1 : decide (2147483647 < a0.size) = false := decide_eq_false (by omega)
      clear c6
      (first | rw [c6b0] | (simp only [i64_w, i32_w]; rw [c6b0]) | rw [c6b1] | skip)
      by_cases c7 : (a1.size : Int) > 2147483647
      · rw [if_pos c7] at H
        have c7b0 : decide (2147483647 < (a1.size : Int)) = true := decide_eq_true c7
        have c7b1 : decide (2147483647 < a1.size) = true := decide_eq_true (by omega)
        clear c7
        have H' := Aside0.mk H
        clear H
        go_wp2
        go_meet
        case rel => exact ⟨_, (true), (by first | rfl | (simp; done) | (simp [*]; done) | (simp [nil_bne]; done)), H', ⟨by first | omega | exact Nat.le_refl _⟩, ⟨by repeat (first | (with_reducible first | exact HB.out | apply below_alloc | apply pw_below_drewN | apply below_drew1) | exact HB.out)⟩⟩
      · rw [if_neg c7] at H
        have c7b0 : decide (2147483647 < (a1.size : Int)) = false := decide_eq_false c7
        have c7b1 : decide (2147483647 < a1.size) = false := decide_eq_false (by omega)
        clear c7
        by_cases c8 : (a2.size : Int) > 2147483647
        · rw [if_pos c8] at H
          have c8b0 : decide (2147483647 < (a2.size : Int)) = true := decide_eq_true c8
          have c8b1 : decide (2147483647 < a2.size) = true := decide_eq_true (by omega)
          clear c8
          have H' := Aside0.mk H
          clear H
          go_wp2
          go_meet
          case rel => exact ⟨_, (true), (by first | rfl | (simp; done) | (simp [*]; done) | (simp [nil_bne]; done)), H', ⟨by first | omega | exact Nat.le_refl _⟩, ⟨by repeat (first | (with_reducible first | exact HB.out | apply below_alloc | apply pw_below_drewN | apply below_drew1) | exact HB.out)⟩⟩
        · rw [if_neg c8] at H
          have c8b0 : decide (2147483647 < (a2.size : Int)) = false := decide_eq_false c8
          have c8b1 : decide (2147483647 < a2.size) = false := decide_eq_false (by omega)
          clear c8
          have H' := Aside0.mk H
          clear H
          go_wp2
          go_meet
          case rel => exact ⟨_, (decide ((a3.size : Int) > 2147483647)), (by first | rfl | (simp; done) | (simp [*]; done) | (simp [nil_bne]; done)), H', ⟨by first | omega | exact Nat.le_refl _⟩, ⟨by repeat (first | (with_reducible first | exact HB.out | apply below_alloc | apply pw_below_drewN | apply below_drew1) | exact HB.out)⟩⟩
  case rest =>
    clear HC5
    try clear p2
    try clear c5
    try clear c6
    try clear c6b0
    try clear c6b1
    try clear c7
    try clear c7b0
    try clear c7b1
    try clear c8
    try clear c8b0
    try clear c8b1
    obtain ⟨kq, x27_4, rfl, HA, HJ4, HB⟩ := hcut
    cases kq with
    | zero => exact absurd HA.out (by simp [laws_FnSemverPreTail.j0])
    | succ kj4 =>
      have H := HA.out
      clear HA
      simp only [laws_FnSemverPreTail.j0] at H
      by_cases c9 : x27_4 = true
      · subst c9
        have H1 : (some true) = some r := by rw [if_pos rfl] at H; exact H
        clear H
        have H := H1
        clear H1
        obtain rfl := Option.some.inj H
        go_wp2
        go_ret
        exact ⟨by first | rfl | (simp [errW_none, errW_some] <;> rfl) | (simp [*, errW_none, errW_some] <;> rfl), by repeat (first | (with_reducible first | exact HB.out | apply below_alloc | apply pw_below_drewN | apply below_drew1) | exact HB.out)⟩
      · replace c9 := Bool.eq_false_iff.mpr c9
        subst c9
        have H1 : ((laws_svIdent.f kj4 a0).bind fun t146 => (if t146 = true then ((laws_svIdent.f kj4 a1).bind fun t147 => (if t147 = true then (if a0.toList = a1.toList then (laws_FnSemverPreTail.j1 kj4 a0 a1 a2 a3 true) else ((laws_spPres.f kj4 (([a2, a3] : List ByteArray))).bind fun t151 => (laws_FnSemverPreTail.j1 kj4 a0 a1 a2 a3 (!t151)))) else (laws_FnSemverPreTail.j1 kj4 a0 a1 a2 a3 true))) else (laws_FnSemverPreTail.j1 kj4 a0 a1 a2 a3 true))) = some r := by rw [if_neg (show ¬ (false = true) by decide)] at H; exact H
        clear H
        have H := H1
        clear H1
        have HC10 := Aside0.mk H
        clear H
        go_upto_region 3 with (fail)
        go_cut [47] (fun v47 wc => ∃ (kq : Nat) (x47_9 : Bool), v47 = .bool x47_9 ∧ Aside0 (laws_FnSemverPreTail.j1 kq a0 a1 a2 a3 x47_9 = some r) ∧ Aside0 (kq ≤ kj4) ∧ Aside0 (Below w.heap.size w wc))
        case first =>
          have H := HC10.out
          clear HC10
          replace H := Option.bind_eq_some_iff.mp H
          obtain ⟨t146, A110, H⟩ := H
          replace H : (if t146 = true then ((laws_svIdent.f kj4 a1).bind fun t147 => (if t147 = true then (if a0.toList = a1.toList then (laws_FnSemverPreTail.j1 kj4 a0 a1 a2 a3 true) else ((laws_spPres.f kj4 (([a2, a3] : List ByteArray))).bind fun t151 => (laws_FnSemverPreTail.j1 kj4 a0 a1 a2 a3 (!t151)))) else (laws_FnSemverPreTail.j1 kj4 a0 a1 a2 a3 true))) else (laws_FnSemverPreTail.j1 kj4 a0 a1 a2 a3 true)) = some r := H
          have A11 := Aside0.mk A110
          clear A110
          by_cases c12 : t146 = true
          · subst c12
            have H1 : ((laws_svIdent.f kj4 a1).bind fun t147 => (if t147 = true then (if a0.toList = a1.toList then (laws_FnSemverPreTail.j1 kj4 a0 a1 a2 a3 true) else ((laws_spPres.f kj4 (([a2, a3] : List ByteArray))).bind fun t151 => (laws_FnSemverPreTail.j1 kj4 a0 a1 a2 a3 (!t151)))) else (laws_FnSemverPreTail.j1 kj4 a0 a1 a2 a3 true))) = some r := by rw [if_pos rfl] at H; exact H
            clear H
            have H := H1
            clear H1
            replace H := Option.bind_eq_some_iff.mp H
            obtain ⟨t147, A130, H⟩ := H
            replace H : (if t147 = true then (if a0.toList = a1.toList then (laws_FnSemverPreTail.j1 kj4 a0 a1 a2 a3 true) else ((laws_spPres.f kj4 (([a2, a3] : List ByteArray))).bind fun t151 => (laws_FnSemverPreTail.j1 kj4 a0 a1 a2 a3 (!t151)))) else (laws_FnSemverPreTail.j1 kj4 a0 a1 a2 a3 true)) = some r := H
            have A13 := Aside0.mk A130
            clear A130
            by_cases c14 : t147 = true
            · subst c14
              have H1 : (if a0.toList = a1.toList then (laws_FnSemverPreTail.j1 kj4 a0 a1 a2 a3 true) else ((laws_spPres.f kj4 (([a2, a3] : List ByteArray))).bind fun t151 => (laws_FnSemverPreTail.j1 kj4 a0 a1 a2 a3 (!t151)))) = some r := by rw [if_pos rfl] at H; exact H
              clear H
              have H := H1
              clear H1
              by_cases c15 : a0.toList = a1.toList
              · rw [if_pos c15] at H
                have c15b0 : (a0.toList == a1.toList) = true := beq_iff_eq.mpr c15
                have c15b1 : (a0.toList != a1.toList) = false := bne_eq_false_iff_eq.mpr c15
                clear c15
                (first | rw [c15b0] | (simp only [i64_w, i32_w]; rw [c15b0]) | rw [c15b1] | skip)
                have H' := Aside0.mk H
                clear H
                go_wp2_with (first | ((with_reducible refine gate_callee (f := 22) rfl ?_); refine goesL_ (some 29) rfl rfl Tryd.func22 (by kernel_rfl) rfl #[.string a0] rfl (by (try simp only [List.map_toArray, List.map_cons, List.map_nil]); first | done | rfl | (simp only [List.length_drop, List.length_take]; rfl)) ?_; (with_reducible refine (laws_svIdent.calls kj4 a0 true _ A11.out).mono ?_); rintro e w16 ⟨rfl, hb⟩; refine ⟨_, rfl, ?_⟩; have n0_ := Aside0.mk (below_step (by repeat (first | (with_reducible first | exact HB.out | apply below_alloc | apply pw_below_drewN | apply below_drew1) | exact HB.out)) hb); clear HB; have HB := n0_; clear n0_; (try clear hb); (try clear hb2); (try clear hk); (try clear hi)) | (go_at_call 22; (with_reducible refine (laws_svIdent.calls kj4 a1 true _ A13.out).mono ?_); rintro e w17 ⟨rfl, hb⟩; have n0_ := Aside0.mk (below_step (by repeat (first | (with_reducible first | exact HB.out | apply below_alloc | apply pw_below_drewN | apply below_drew1) | exact HB.out)) hb); clear HB; have HB := n0_; clear n0_; (try clear hb); (try clear hb2); (try clear hk); (try clear hi)))
                go_meet
                case rel => exact ⟨_, (true), (by first | rfl | (simp; done) | (simp [*]; done) | (simp [nil_bne]; done)), H', ⟨by have := HJ4.out; first | omega | exact Nat.le_refl _⟩, ⟨by repeat (first | (with_reducible first | exact HB.out | apply below_alloc | apply pw_below_drewN | apply below_drew1) | exact HB.out)⟩⟩
              · rw [if_neg c15] at H
                have c15b0 : (a0.toList == a1.toList) = false := beq_eq_false_iff_ne.mpr c15
                have c15b1 : (a0.toList != a1.toList) = true := bne_iff_ne.mpr c15
                (first | rw [c15b0] | (simp only [i64_w, i32_w]; rw [c15b0]) | rw [c15b1] | skip)
                obtain ⟨y148, hy148⟩ : ∃ y_ : List ByteArray, y_ = (([a2, a3] : List ByteArray)) := ⟨_, rfl⟩
                replace H : ((laws_spPres.f kj4 y148).bind fun t151 => (laws_FnSemverPreTail.j1 kj4 a0 a1 a2 a3 (!t151))) = some r := by first | (rw [hy148]; with_reducible exact H) | (have H2_ := (Option.bind_some _ _).symm.trans H; rw [hy148]; with_reducible exact H2_) | (have H2_ := (Option.bind_some _ _).symm.trans H; with_reducible exact H2_) | with_reducible exact H | (rw [hy148]; exact H) | exact H
                have Ny148 := Aside0.mk hy148
                clear hy148
                replace H := Option.bind_eq_some_iff.mp H
                obtain ⟨t151, A180, H⟩ := H
                replace H : (laws_FnSemverPreTail.j1 kj4 a0 a1 a2 a3 (!t151)) = some r := H
                have A18 := Aside0.mk A180
                clear A180
                have H' := Aside0.mk H
                clear H
                go_wp2_with (first | ((with_reducible refine gate_callee (f := 22) rfl ?_); refine goesL_ (some 29) rfl rfl Tryd.func22 (by kernel_rfl) rfl #[.string a0] rfl (by (try simp only [List.map_toArray, List.map_cons, List.map_nil]); first | done | rfl | (simp only [List.length_drop, List.length_take]; rfl)) ?_; (with_reducible refine (laws_svIdent.calls kj4 a0 true _ A11.out).mono ?_); rintro e w19 ⟨rfl, hb⟩; refine ⟨_, rfl, ?_⟩; have n0_ := Aside0.mk (below_step (by repeat (first | (with_reducible first | exact HB.out | apply below_alloc | apply pw_below_drewN | apply below_drew1) | exact HB.out)) hb); clear HB; have HB := n0_; clear n0_; (try clear hb); (try clear hb2); (try clear hk); (try clear hi)) | (go_at_call 22; (with_reducible refine (laws_svIdent.calls kj4 a1 true _ A13.out).mono ?_); rintro e w20 ⟨rfl, hb⟩; have n0_ := Aside0.mk (below_step (by repeat (first | (with_reducible first | exact HB.out | apply below_alloc | apply pw_below_drewN | apply below_drew1) | exact HB.out)) hb); clear HB; have HB := n0_; clear n0_; (try clear hb); (try clear hb2); (try clear hk); (try clear hi)) | ((with_reducible refine gate_dst (N := 44) rfl ?_); (try (refine gate_guard (by rfl) ?_; dsimp only)); refine Kd.R_lit Kd.string _ 9 ?hg (N := 44) ?hd (xs := ([a2, a3] : List ByteArray)) (inner := [.string a2, .string a3]) (ok := fun _ => True) (okp := fun _ => True) ?hr ?hp (fun _ hk => hk) trivial (Below.refl _ _) (Nat.le_refl _) (by simp) ?_; (case hd => rfl); (case hg => rfl); (case hr => first | (go_simp; done) | (go_simp; rfl)); (case hp => exact (Reps.one (show Kd.M Kd.string _ _ _ a2 [.string a2] from rfl) (Reps.one (show Kd.M Kd.string _ _ _ a3 [.string a3] from rfl) (Reps.none _ _)))); intro v149 w21 ho22 hb hg_ hnew_; clear hg_ hnew_; (first | rw [← Ny148.out] at ho22 | (simp only [Int.reduceToNat] at ho22; rw [← Ny148.out] at ho22)); have n0_ := Aside0.mk (Kd.R_lower ho22 (below_size (by repeat (first | (with_reducible first | exact HB.out | apply below_alloc | apply pw_below_drewN | apply below_drew1) | exact HB.out)))); have n1_ := Aside0.mk (below_step (by repeat (first | (with_reducible first | exact HB.out | apply below_alloc | apply pw_below_drewN | apply below_drew1) | exact HB.out)) hb); clear HB; have HO150 := n0_; have HB := n1_; clear n0_ n1_; clear hb ho22; obtain ⟨Ao23, co23, eo23⟩ := Kd.R_slice HO150.out; subst eo23) | (go_at_call 25; (with_reducible refine (laws_spPres.calls kj4 _ _ y148 t151 _ ?side1 ?side2 A18.out).mono ?_); (case side1 => repeat (first | exact (Kd.R_reads' HO150.out).2.2 | (with_reducible refine Kd.C_alloc ?_ _) | (with_reducible refine Kd.C_drewN ?_ _) | (with_reducible refine Kd.C_drew ?_))); (case side2 => exact (Kd.R_reads' HO150.out).2.1); rintro e w24 ⟨rfl, hb⟩; have n0_ := Aside0.mk (Kd.R_below (by (with_reducible repeat (first | apply Kd.R_alloc | apply Kd.R_drewN | apply Kd.R_drew)); exact HO150.out) hb); have n1_ := Aside0.mk (below_step (by repeat (first | (with_reducible first | exact HB.out | apply below_alloc | apply pw_below_drewN | apply below_drew1) | exact HB.out)) hb); clear HO150; clear HB; have HO150 := n0_; have HB := n1_; clear n0_ n1_; (try clear hb); (try clear hb2); (try clear hk); (try clear hi)))
                go_meet
                case rel => exact ⟨_, (!t151), (by first | rfl | (simp; done) | (simp [*]; done) | (simp [nil_bne]; done)), H', ⟨by have := HJ4.out; first | omega | exact Nat.le_refl _⟩, ⟨by repeat (first | (with_reducible first | exact HB.out | apply below_alloc | apply pw_below_drewN | apply below_drew1) | exact HB.out)⟩⟩
            · replace c14 := Bool.eq_false_iff.mpr c14
              subst c14
              have H1 : (laws_FnSemverPreTail.j1 kj4 a0 a1 a2 a3 true) = some r := by rw [if_neg (show ¬ (false = true) by decide)] at H; exact H
              clear H
              have H := H1
              clear H1
              have H' := Aside0.mk H
              clear H
              go_wp2_with (first | ((with_reducible refine gate_callee (f := 22) rfl ?_); refine goesL_ (some 29) rfl rfl Tryd.func22 (by kernel_rfl) rfl #[.string a0] rfl (by (try simp only [List.map_toArray, List.map_cons, List.map_nil]); first | done | rfl | (simp only [List.length_drop, List.length_take]; rfl)) ?_; (with_reducible refine (laws_svIdent.calls kj4 a0 true _ A11.out).mono ?_); rintro e w25 ⟨rfl, hb⟩; refine ⟨_, rfl, ?_⟩; have n0_ := Aside0.mk (below_step (by repeat (first | (with_reducible first | exact HB.out | apply below_alloc | apply pw_below_drewN | apply below_drew1) | exact HB.out)) hb); clear HB; have HB := n0_; clear n0_; (try clear hb); (try clear hb2); (try clear hk); (try clear hi)) | (go_at_call 22; (with_reducible refine (laws_svIdent.calls kj4 a1 false _ A13.out).mono ?_); rintro e w26 ⟨rfl, hb⟩; have n0_ := Aside0.mk (below_step (by repeat (first | (with_reducible first | exact HB.out | apply below_alloc | apply pw_below_drewN | apply below_drew1) | exact HB.out)) hb); clear HB; have HB := n0_; clear n0_; (try clear hb); (try clear hb2); (try clear hk); (try clear hi)))
              go_meet
              case rel => exact ⟨_, (true), (by first | rfl | (simp; done) | (simp [*]; done) | (simp [nil_bne]; done)), H', ⟨by have := HJ4.out; first | omega | exact Nat.le_refl _⟩, ⟨by repeat (first | (with_reducible first | exact HB.out | apply below_alloc | apply pw_below_drewN | apply below_drew1) | exact HB.out)⟩⟩
          · replace c12 := Bool.eq_false_iff.mpr c12
            subst c12
            have H1 : (laws_FnSemverPreTail.j1 kj4 a0 a1 a2 a3 true) = some r := by rw [if_neg (show ¬ (false = true) by decide)] at H; exact H
            clear H
            have H := H1
            clear H1
            have H' := Aside0.mk H
            clear H
            go_wp2_with (first | ((with_reducible refine gate_callee (f := 22) rfl ?_); refine goesL_ (some 29) rfl rfl Tryd.func22 (by kernel_rfl) rfl #[.string a0] rfl (by (try simp only [List.map_toArray, List.map_cons, List.map_nil]); first | done | rfl | (simp only [List.length_drop, List.length_take]; rfl)) ?_; (with_reducible refine (laws_svIdent.calls kj4 a0 false _ A11.out).mono ?_); rintro e w27 ⟨rfl, hb⟩; refine ⟨_, rfl, ?_⟩; have n0_ := Aside0.mk (below_step (by repeat (first | (with_reducible first | exact HB.out | apply below_alloc | apply pw_below_drewN | apply below_drew1) | exact HB.out)) hb); clear HB; have HB := n0_; clear n0_; (try clear hb); (try clear hb2); (try clear hk); (try clear hi)))
            go_meet
            case rel => exact ⟨_, (true), (by first | rfl | (simp; done) | (simp [*]; done) | (simp [nil_bne]; done)), H', ⟨by have := HJ4.out; first | omega | exact Nat.le_refl _⟩, ⟨by repeat (first | (with_reducible first | exact HB.out | apply below_alloc | apply pw_below_drewN | apply below_drew1) | exact HB.out)⟩⟩
        case rest =>
          clear HC10
          try clear c1
          try clear c2
          try clear p2
          try clear c5
          try clear c6
          try clear c6b0
          try clear c6b1
          try clear c7
          try clear c7b0
          try clear c7b1
          try clear c8
          try clear c8b0
          try clear c8b1
          try clear c9
          try clear c12
          try clear c14
          try clear c15
          try clear c15b0
          try clear c15b1
          try clear c22
          try clear p2
          obtain ⟨kq, x47_9, rfl, HA, HJ9, HB⟩ := hcut
          cases kq with
          | zero => exact absurd HA.out (by simp [laws_FnSemverPreTail.j1])
          | succ kj9 =>
            have H := HA.out
            clear HA
            simp only [laws_FnSemverPreTail.j1] at H
            by_cases c28 : x47_9 = true
            · subst c28
              have H1 : (some true) = some r := by rw [if_pos rfl] at H; exact H
              clear H
              have H := H1
              clear H1
              obtain rfl := Option.some.inj H
              go_wp2
              go_ret
              exact ⟨by first | rfl | (simp [errW_none, errW_some] <;> rfl) | (simp [*, errW_none, errW_some] <;> rfl), by repeat (first | (with_reducible first | exact HB.out | apply below_alloc | apply pw_below_drewN | apply below_drew1) | exact HB.out)⟩
            · replace c28 := Bool.eq_false_iff.mpr c28
              subst c28
              have H1 : ((impl_ComparePart.f a0 a1).bind fun t152 => (if t152 = 0 then (some false) else (if a0.size + 1 ≤ 9223372036854775807 then (if (a0 ++ (⟨#[46]⟩ : ByteArray)).size + a2.size ≤ 9223372036854775807 then (if a1.size + 1 ≤ 9223372036854775807 then (if (a1 ++ (⟨#[46]⟩ : ByteArray)).size + a3.size ≤ 9223372036854775807 then ((impl_ComparePre.f kj9 ((a0 ++ (⟨#[46]⟩ : ByteArray)) ++ a2) ((a1 ++ (⟨#[46]⟩ : ByteArray)) ++ a3)).bind fun t153 => (if t153 = t152 then ((impl_ComparePre.f kj9 a0 ((a1 ++ (⟨#[46]⟩ : ByteArray)) ++ a3)).bind fun t154 => (if t154 = t152 then ((impl_ComparePre.f kj9 ((a0 ++ (⟨#[46]⟩ : ByteArray)) ++ a2) a1).bind fun t155 => (some (t155 == t152))) else (some false))) else (some false))) else (none)) else (none)) else (none)) else (none)))) = some r := by rw [if_neg (show ¬ (false = true) by decide)] at H; exact H
              clear H
              have H := H1
              clear H1
              replace H := Option.bind_eq_some_iff.mp H
              obtain ⟨t152, A290, H⟩ := H
              replace H : (if t152 = 0 then (some false) else (if a0.size + 1 ≤ 9223372036854775807 then (if (a0 ++ (⟨#[46]⟩ : ByteArray)).size + a2.size ≤ 9223372036854775807 then (if a1.size + 1 ≤ 9223372036854775807 then (if (a1 ++ (⟨#[46]⟩ : ByteArray)).size + a3.size ≤ 9223372036854775807 then ((impl_ComparePre.f kj9 ((a0 ++ (⟨#[46]⟩ : ByteArray)) ++ a2) ((a1 ++ (⟨#[46]⟩ : ByteArray)) ++ a3)).bind fun t153 => (if t153 = t152 then ((impl_ComparePre.f kj9 a0 ((a1 ++ (⟨#[46]⟩ : ByteArray)) ++ a3)).bind fun t154 => (if t154 = t152 then ((impl_ComparePre.f kj9 ((a0 ++ (⟨#[46]⟩ : ByteArray)) ++ a2) a1).bind fun t155 => (some (t155 == t152))) else (some false))) else (some false))) else (none)) else (none)) else (none)) else (none))) = some r := H
              have A29 := Aside0.mk A290
              clear A290
              by_cases c30 : t152 = 0
              · rw [if_pos c30] at H
                have c30b0 : (t152 == 0) = true := beq_iff_eq.mpr c30
                have c30b1 : (t152 != 0) = false := bne_eq_false_iff_eq.mpr c30
                clear c30
                obtain rfl := Option.some.inj H
                go_wp2_with (first | ((with_reducible refine gate_callee (f := 23) rfl ?_); refine goesL_ (some 50) rfl rfl Tryd.func23 (by kernel_rfl) rfl #[.string a0, .string a1] rfl (by (try simp only [List.map_toArray, List.map_cons, List.map_nil]); first | done | rfl | (simp only [List.length_drop, List.length_take]; rfl)) ?_; (with_reducible refine (impl_ComparePart.calls a0 a1 t152 _ ?side1 A29.out).mono ?_); (case side1 => exact globE_below HGE.out (by repeat (first | (with_reducible first | exact HB.out | apply below_alloc | apply pw_below_drewN | apply below_drew1) | exact HB.out))); rintro e w31 ⟨rfl, hb⟩; refine ⟨_, rfl, ?_⟩; have n0_ := Aside0.mk (below_step (by repeat (first | (with_reducible first | exact HB.out | apply below_alloc | apply pw_below_drewN | apply below_drew1) | exact HB.out)) hb); clear HB; have HB := n0_; clear n0_; (try clear hb); (try clear hb2); (try clear hk); (try clear hi)))
                go_ret
                exact ⟨by first | rfl | (simp [errW_none, errW_some] <;> rfl) | (simp [*, errW_none, errW_some] <;> rfl), by repeat (first | (with_reducible first | exact HB.out | apply below_alloc | apply pw_below_drewN | apply below_drew1) | exact HB.out)⟩
              · rw [if_neg c30] at H
                have c30b0 : (t152 == 0) = false := beq_eq_false_iff_ne.mpr c30
                have c30b1 : (t152 != 0) = true := bne_iff_ne.mpr c30
                by_cases c32 : a0.size + 1 ≤ 9223372036854775807
                · rw [if_pos c32] at H
                  have c32b0 := eq_true c32
                  have c32b1 : decide (a0.size + 1 ≤ 9223372036854775807) = true := decide_eq_true c32
                  try have c32b2 : (9223372036854775807 < a0.size + 1) = False := eq_false (Nat.not_lt.2 c32)
                  by_cases c33 : (a0 ++ (⟨#[46]⟩ : ByteArray)).size + a2.size ≤ 9223372036854775807
                  · rw [if_pos c33] at H
                    have c33b0 := eq_true c33
                    have c33b1 : decide ((a0 ++ (⟨#[46]⟩ : ByteArray)).size + a2.size ≤ 9223372036854775807) = true := decide_eq_true c33
                    try have c33b2 : (9223372036854775807 < (a0 ++ (⟨#[46]⟩ : ByteArray)).size + a2.size) = False := eq_false (Nat.not_lt.2 c33)
                    by_cases c34 : a1.size + 1 ≤ 9223372036854775807
                    · rw [if_pos c34] at H
                      have c34b0 := eq_true c34
                      have c34b1 : decide (a1.size + 1 ≤ 9223372036854775807) = true := decide_eq_true c34
                      try have c34b2 : (9223372036854775807 < a1.size + 1) = False := eq_false (Nat.not_lt.2 c34)
                      by_cases c35 : (a1 ++ (⟨#[46]⟩ : ByteArray)).size + a3.size ≤ 9223372036854775807
                      · rw [if_pos c35] at H
                        have c35b0 := eq_true c35
                        have c35b1 : decide ((a1 ++ (⟨#[46]⟩ : ByteArray)).size + a3.size ≤ 9223372036854775807) = true := decide_eq_true c35
                        try have c35b2 : (9223372036854775807 < (a1 ++ (⟨#[46]⟩ : ByteArray)).size + a3.size) = False := eq_false (Nat.not_lt.2 c35)
                        replace H := Option.bind_eq_some_iff.mp H
                        obtain ⟨t153, A360, H⟩ := H
                        replace H : (if t153 = t152 then ((impl_ComparePre.f kj9 a0 ((a1 ++ (⟨#[46]⟩ : ByteArray)) ++ a3)).bind fun t154 => (if t154 = t152 then ((impl_ComparePre.f kj9 ((a0 ++ (⟨#[46]⟩ : ByteArray)) ++ a2) a1).bind fun t155 => (some (t155 == t152))) else (some false))) else (some false)) = some r := H
                        have A36 := Aside0.mk A360
                        clear A360
                        by_cases c37 : t153 = t152
                        · rw [if_pos c37] at H
                          have c37b0 : (t153 == t152) = true := beq_iff_eq.mpr c37
                          have c37b1 : (t153 != t152) = false := bne_eq_false_iff_eq.mpr c37
                          clear c37
                          replace H := Option.bind_eq_some_iff.mp H
                          obtain ⟨t154, A380, H⟩ := H
                          replace H : (if t154 = t152 then ((impl_ComparePre.f kj9 ((a0 ++ (⟨#[46]⟩ : ByteArray)) ++ a2) a1).bind fun t155 => (some (t155 == t152))) else (some false)) = some r := H
                          have A38 := Aside0.mk A380
                          clear A380
                          by_cases c39 : t154 = t152
                          · rw [if_pos c39] at H
                            have c39b0 : (t154 == t152) = true := beq_iff_eq.mpr c39
                            have c39b1 : (t154 != t152) = false := bne_eq_false_iff_eq.mpr c39
                            clear c39
                            replace H := Option.bind_eq_some_iff.mp H
                            obtain ⟨t155, A400, H⟩ := H
                            replace H : (some (t155 == t152)) = some r := H
                            have A40 := Aside0.mk A400
                            clear A400
                            obtain rfl := Option.some.inj H
                            go_wp2_with (first | ((with_reducible refine gate_callee (f := 23) rfl ?_); refine goesL_ (some 50) rfl rfl Tryd.func23 (by kernel_rfl) rfl #[.string a0, .string a1] rfl (by (try simp only [List.map_toArray, List.map_cons, List.map_nil]); first | done | rfl | (simp only [List.length_drop, List.length_take]; rfl)) ?_; (with_reducible refine (impl_ComparePart.calls a0 a1 t152 _ ?side1 A29.out).mono ?_); (case side1 => exact globE_below HGE.out (by repeat (first | (with_reducible first | exact HB.out | apply below_alloc | apply pw_below_drewN | apply below_drew1) | exact HB.out))); rintro e w41 ⟨rfl, hb⟩; refine ⟨_, rfl, ?_⟩; have n0_ := Aside0.mk (below_step (by repeat (first | (with_reducible first | exact HB.out | apply below_alloc | apply pw_below_drewN | apply below_drew1) | exact HB.out)) hb); clear HB; have HB := n0_; clear n0_; (try clear hb); (try clear hb2); (try clear hk); (try clear hi)) | (go_at_call 26; (with_reducible refine (impl_ComparePre.calls kj9 ((a0 ++ (⟨#[46]⟩ : ByteArray)) ++ a2) ((a1 ++ (⟨#[46]⟩ : ByteArray)) ++ a3) t153 _ ?side1 A36.out).mono ?_); (case side1 => exact globE_below HGE.out (by repeat (first | (with_reducible first | exact HB.out | apply below_alloc | apply pw_below_drewN | apply below_drew1) | exact HB.out))); rintro e w42 ⟨rfl, hb⟩; have n0_ := Aside0.mk (below_step (by repeat (first | (with_reducible first | exact HB.out | apply below_alloc | apply pw_below_drewN | apply below_drew1) | exact HB.out)) hb); clear HB; have HB := n0_; clear n0_; (try clear hb); (try clear hb2); (try clear hk); (try clear hi)) | (go_at_call 26; (with_reducible refine (impl_ComparePre.calls kj9 a0 ((a1 ++ (⟨#[46]⟩ : ByteArray)) ++ a3) t154 _ ?side1 A38.out).mono ?_); (case side1 => exact globE_below HGE.out (by repeat (first | (with_reducible first | exact HB.out | apply below_alloc | apply pw_below_drewN | apply below_drew1) | exact HB.out))); rintro e w43 ⟨rfl, hb⟩; have n0_ := Aside0.mk (below_step (by repeat (first | (with_reducible first | exact HB.out | apply below_alloc | apply pw_below_drewN | apply below_drew1) | exact HB.out)) hb); clear HB; have HB := n0_; clear n0_; (try clear hb); (try clear hb2); (try clear hk); (try clear hi)) | (go_at_call 26; (with_reducible refine (impl_ComparePre.calls kj9 ((a0 ++ (⟨#[46]⟩ : ByteArray)) ++ a2) a1 t155 _ ?side1 A40.out).mono ?_); (case side1 => exact globE_below HGE.out (by repeat (first | (with_reducible first | exact HB.out | apply below_alloc | apply pw_below_drewN | apply below_drew1) | exact HB.out))); rintro e w44 ⟨rfl, hb⟩; have n0_ := Aside0.mk (below_step (by repeat (first | (with_reducible first | exact HB.out | apply below_alloc | apply pw_below_drewN | apply below_drew1) | exact HB.out)) hb); clear HB; have HB := n0_; clear n0_; (try clear hb); (try clear hb2); (try clear hk); (try clear hi)))
                            go_ret
                            exact ⟨by first | rfl | (simp [errW_none, errW_some] <;> rfl) | (simp [*, errW_none, errW_some] <;> rfl), by repeat (first | (with_reducible first | exact HB.out | apply below_alloc | apply pw_below_drewN | apply below_drew1) | exact HB.out)⟩
                          · rw [if_neg c39] at H
                            have c39b0 : (t154 == t152) = false := beq_eq_false_iff_ne.mpr c39
                            have c39b1 : (t154 != t152) = true := bne_iff_ne.mpr c39
                            obtain rfl := Option.some.inj H
                            go_wp2_with (first | ((with_reducible refine gate_callee (f := 23) rfl ?_); refine goesL_ (some 50) rfl rfl Tryd.func23 (by kernel_rfl) rfl #[.string a0, .string a1] rfl (by (try simp only [List.map_toArray, List.map_cons, List.map_nil]); first | done | rfl | (simp only [List.length_drop, List.length_take]; rfl)) ?_; (with_reducible refine (impl_ComparePart.calls a0 a1 t152 _ ?side1 A29.out).mono ?_); (case side1 => exact globE_below HGE.out (by repeat (first | (with_reducible first | exact HB.out | apply below_alloc | apply pw_below_drewN | apply below_drew1) | exact HB.out))); rintro e w45 ⟨rfl, hb⟩; refine ⟨_, rfl, ?_⟩; have n0_ := Aside0.mk (below_step (by repeat (first | (with_reducible first | exact HB.out | apply below_alloc | apply pw_below_drewN | apply below_drew1) | exact HB.out)) hb); clear HB; have HB := n0_; clear n0_; (try clear hb); (try clear hb2); (try clear hk); (try clear hi)) | (go_at_call 26; (with_reducible refine (impl_ComparePre.calls kj9 ((a0 ++ (⟨#[46]⟩ : ByteArray)) ++ a2) ((a1 ++ (⟨#[46]⟩ : ByteArray)) ++ a3) t153 _ ?side1 A36.out).mono ?_); (case side1 => exact globE_below HGE.out (by repeat (first | (with_reducible first | exact HB.out | apply below_alloc | apply pw_below_drewN | apply below_drew1) | exact HB.out))); rintro e w46 ⟨rfl, hb⟩; have n0_ := Aside0.mk (below_step (by repeat (first | (with_reducible first | exact HB.out | apply below_alloc | apply pw_below_drewN | apply below_drew1) | exact HB.out)) hb); clear HB; have HB := n0_; clear n0_; (try clear hb); (try clear hb2); (try clear hk); (try clear hi)) | (go_at_call 26; (with_reducible refine (impl_ComparePre.calls kj9 a0 ((a1 ++ (⟨#[46]⟩ : ByteArray)) ++ a3) t154 _ ?side1 A38.out).mono ?_); (case side1 => exact globE_below HGE.out (by repeat (first | (with_reducible first | exact HB.out | apply below_alloc | apply pw_below_drewN | apply below_drew1) | exact HB.out))); rintro e w47 ⟨rfl, hb⟩; have n0_ := Aside0.mk (below_step (by repeat (first | (with_reducible first | exact HB.out | apply below_alloc | apply pw_below_drewN | apply below_drew1) | exact HB.out)) hb); clear HB; have HB := n0_; clear n0_; (try clear hb); (try clear hb2); (try clear hk); (try clear hi)))
                            go_ret
                            exact ⟨by first | rfl | (simp [errW_none, errW_some] <;> rfl) | (simp [*, errW_none, errW_some] <;> rfl), by repeat (first | (with_reducible first | exact HB.out | apply below_alloc | apply pw_below_drewN | apply below_drew1) | exact HB.out)⟩
                        · rw [if_neg c37] at H
                          have c37b0 : (t153 == t152) = false := beq_eq_false_iff_ne.mpr c37
                          have c37b1 : (t153 != t152) = true := bne_iff_ne.mpr c37
                          obtain rfl := Option.some.inj H
                          go_wp2_with (first | ((with_reducible refine gate_callee (f := 23) rfl ?_); refine goesL_ (some 50) rfl rfl Tryd.func23 (by kernel_rfl) rfl #[.string a0, .string a1] rfl (by (try simp only [List.map_toArray, List.map_cons, List.map_nil]); first | done | rfl | (simp only [List.length_drop, List.length_take]; rfl)) ?_; (with_reducible refine (impl_ComparePart.calls a0 a1 t152 _ ?side1 A29.out).mono ?_); (case side1 => exact globE_below HGE.out (by repeat (first | (with_reducible first | exact HB.out | apply below_alloc | apply pw_below_drewN | apply below_drew1) | exact HB.out))); rintro e w48 ⟨rfl, hb⟩; refine ⟨_, rfl, ?_⟩; have n0_ := Aside0.mk (below_step (by repeat (first | (with_reducible first | exact HB.out | apply below_alloc | apply pw_below_drewN | apply below_drew1) | exact HB.out)) hb); clear HB; have HB := n0_; clear n0_; (try clear hb); (try clear hb2); (try clear hk); (try clear hi)) | (go_at_call 26; (with_reducible refine (impl_ComparePre.calls kj9 ((a0 ++ (⟨#[46]⟩ : ByteArray)) ++ a2) ((a1 ++ (⟨#[46]⟩ : ByteArray)) ++ a3) t153 _ ?side1 A36.out).mono ?_); (case side1 => exact globE_below HGE.out (by repeat (first | (with_reducible first | exact HB.out | apply below_alloc | apply pw_below_drewN | apply below_drew1) | exact HB.out))); rintro e w49 ⟨rfl, hb⟩; have n0_ := Aside0.mk (below_step (by repeat (first | (with_reducible first | exact HB.out | apply below_alloc | apply pw_below_drewN | apply below_drew1) | exact HB.out)) hb); clear HB; have HB := n0_; clear n0_; (try clear hb); (try clear hb2); (try clear hk); (try clear hi)))
                          go_ret
                          exact ⟨by first | rfl | (simp [errW_none, errW_some] <;> rfl) | (simp [*, errW_none, errW_some] <;> rfl), by repeat (first | (with_reducible first | exact HB.out | apply below_alloc | apply pw_below_drewN | apply below_drew1) | exact HB.out)⟩
                      · rw [if_neg c35] at H
                        exact absurd H (by simp)
                    · rw [if_neg c34] at H
                      exact absurd H (by simp)
                  · rw [if_neg c33] at H
                    exact absurd H (by simp)
                · rw [if_neg c32] at H
                  exact absurd H (by simp)

end Go.Proofs.YtlooelfkkbgmhaaDoor.QS
