/-
  The walk of a caret over one constraint.
-/
import Derived.Test.YtlooelfkkbgmhaaDoorCon
set_option linter.unusedVariables false
set_option linter.unusedSimpArgs false
namespace Go.Proofs.YtlooelfkkbgmhaaDoor
open Go Go.RowKit Go.Proofs.YtlooelfkkbgmhaaDoorW.PrintWords Go.Proofs.YtlooelfkkbgmhaaDoorW.PrintLast
def caB (cm a b c a' b' c' : Int) (md pd : Bool) : Bool := !decide (cm < 0) && (bif (decide (0 < a') || md) then (a == a') else (!((a' == 0) && decide (0 < a)) && (bif (decide (0 < b') || pd) then (b == b') else (!((b' == 0) && decide (0 < b)) && (c' == c)))))
set_option maxHeartbeats 4000000 in
set_option maxRecDepth 100000 in
theorem Ca_any (p q z : Nat) (a b c a' b' c' : Int) (s m o s' m' o' g f : ByteArray) (md dd pd : Bool) (hpq : p ≠ q) (pre : Bool) (w : World) (hT : Tri w p q z a b c a' b' c' s m o s' m' o' g f md dd pd w) (k : Nat) (r : Int) (hr : semver_comparePrerelease.f k s s' = some r) :
    Calls Tryd.prog 141 #[.pointer (some ⟨p, 0, none⟩), .pointer (some ⟨z, 0, none⟩), .bool pre] w (Says w (!gate s pre && caB (cmpF a b c a' b' c' s s' r) a b c a' b' c' md pd)) := by
  have HTx := Lib.hid (all_of hT)
  have HR := Lib.hid hr
  clear hT hr
  obtain ⟨h0, h1, h2, h3, h4, h5, k0, k1, k2, k3, k4, k5, j0, j1, j2, j3, j4, j5, hh⟩ := HTx.out
  go_enter Tryd.func141, Tryd.ntmps141
  go_upto_region 1 with fail
  go_cut [17] (fun t W => t = .bool (gate s pre) ∧ Hid (All w p q z a b c a' b' c' s m o s' m' o' g f md dd pd W))
  case first =>
    by_cases g : s.toList = []
    · have g1 : s.toList.isEmpty = true := by rw [g]; rfl
      have g2 : (!s.toList.isEmpty) = false := by rw [g]; rfl
      have g3 : gate s pre = false := by unfold gate; rw [g2]; rfl
      go_wp2_with ((go_at_call 114; refine (Pre_any _ _ _ _ _ _ _).mono ?_; rintro e w' ⟨rfl, hb⟩))
      go_meet
      exact ⟨by rw [g3], Lib.hid (all_on (by assumption) HTx.out)⟩
    · have g1 : s.toList.isEmpty = false := by cases h : s.toList with | nil => exact absurd h g | cons _ _ => rfl
      have g2 : (!s.toList.isEmpty) = true := by rw [g1]; rfl
      have g3 : gate s pre = !pre := by unfold gate; rw [g2]; rfl
      clear g
      go_wp2_with ((go_at_call 114; refine (Pre_any _ _ _ _ _ _ _).mono ?_; rintro e w' ⟨rfl, hb⟩))
      all_goals go_meet
      all_goals exact ⟨by rw [g3], Lib.hid (all_on (by assumption) HTx.out)⟩
  case rest =>
    obtain ⟨rfl, HTy⟩ := hcut
    clear HTx h0 h1 h2 h3 h4 h5 k0 k1 k2 k3 k4 k5 j0 j1 j2 j3 j4 j5 hh
    have HTx := HTy
    clear HTy
    obtain ⟨h0, h1, h2, h3, h4, h5, k0, k1, k2, k3, k4, k5, j0, j1, j2, j3, j4, j5, hh⟩ := HTx.out
    cases hg : gate s pre
    · skip
      cases e0 : decide (cmpF a b c a' b' c' s s' r < 0)
      · skip
        go_upto_region 3 with fail
        go_cut [24] (fun t W => t = .bool false ∧ Hid (All w p q z a b c a' b' c' s m o s' m' o' g f md dd pd W))
        case first =>
          go_wp2_with (first | (go_at_call 78; refine (Less_any p q a b c a' b' c' s m o s' m' o' _ (all_tri HTx.out).v (all_tri HTx.out).u (all_tri HTx.out).E k r HR.out).mono ?_; rintro e w' ⟨rfl, hb⟩))
          go_meet
          exact ⟨by first | rfl | rw [e0], Lib.hid (all_on (by assumption) HTx.out)⟩
        case rest =>
          obtain ⟨rfl, HTy⟩ := hcut
          clear HTx h0 h1 h2 h3 h4 h5 k0 k1 k2 k3 k4 k5 j0 j1 j2 j3 j4 j5 hh
          have HTx := HTy
          clear HTy
          obtain ⟨h0, h1, h2, h3, h4, h5, k0, k1, k2, k3, k4, k5, j0, j1, j2, j3, j4, j5, hh⟩ := HTx.out
          go_upto_region 6 with fail
          go_cut [39] (fun t W => t = .bool (decide (0 < a') || md) ∧ Hid (All w p q z a b c a' b' c' s m o s' m' o' g f md dd pd W))
          case first =>
            rcases bool_two (decide (0 < a')) with f1 | f1
            all_goals rcases bool_two (md) with f2 | f2
            all_goals go_wp2_with (first | (go_at_call 111; refine (Major_any _ _ _ _ _ _ _).mono ?_; rintro e w' ⟨rfl, hb⟩; replace HTx := Lib.hid (all_on hb HTx.out); clear hb h0 h1 h2 h3 h4 h5 k0 k1 k2 k3 k4 k5 j0 j1 j2 j3 j4 j5 hh; obtain ⟨h0, h1, h2, h3, h4, h5, k0, k1, k2, k3, k4, k5, j0, j1, j2, j3, j4, j5, hh⟩ := HTx.out) | (go_at_call 112; refine (Minor_any _ _ _ _ _ _ _).mono ?_; rintro e w' ⟨rfl, hb⟩; replace HTx := Lib.hid (all_on hb HTx.out); clear hb h0 h1 h2 h3 h4 h5 k0 k1 k2 k3 k4 k5 j0 j1 j2 j3 j4 j5 hh; obtain ⟨h0, h1, h2, h3, h4, h5, k0, k1, k2, k3, k4, k5, j0, j1, j2, j3, j4, j5, hh⟩ := HTx.out) | (go_at_call 113; refine (Patch_any _ _ _ _ _ _ _).mono ?_; rintro e w' ⟨rfl, hb⟩; replace HTx := Lib.hid (all_on hb HTx.out); clear hb h0 h1 h2 h3 h4 h5 k0 k1 k2 k3 k4 k5 j0 j1 j2 j3 j4 j5 hh; obtain ⟨h0, h1, h2, h3, h4, h5, k0, k1, k2, k3, k4, k5, j0, j1, j2, j3, j4, j5, hh⟩ := HTx.out) | (go_at_call 114; refine (Pre_any _ _ _ _ _ _ _).mono ?_; rintro e w' ⟨rfl, hb⟩; replace HTx := Lib.hid (all_on hb HTx.out); clear hb h0 h1 h2 h3 h4 h5 k0 k1 k2 k3 k4 k5 j0 j1 j2 j3 j4 j5 hh; obtain ⟨h0, h1, h2, h3, h4, h5, k0, k1, k2, k3, k4, k5, j0, j1, j2, j3, j4, j5, hh⟩ := HTx.out))
            all_goals go_meet
            all_goals exact ⟨by simp [e0, f1, f2], HTx⟩
          case rest =>
            obtain ⟨rfl, HTy⟩ := hcut
            clear HTx h0 h1 h2 h3 h4 h5 k0 k1 k2 k3 k4 k5 j0 j1 j2 j3 j4 j5 hh
            have HTx := HTy
            clear HTy
            obtain ⟨h0, h1, h2, h3, h4, h5, k0, k1, k2, k3, k4, k5, j0, j1, j2, j3, j4, j5, hh⟩ := HTx.out
            cases e1 : (decide (0 < a') || md)
            · skip
              go_upto_region 11 with fail
              go_cut [68] (fun t W => t = .bool ((a' == 0) && decide (0 < a)) ∧ Hid (All w p q z a b c a' b' c' s m o s' m' o' g f md dd pd W))
              case first =>
                rcases bool_two ((a' == 0)) with f1 | f1
                all_goals rcases bool_two (decide (0 < a)) with f2 | f2
                all_goals go_wp2_with (first | (go_at_call 111; refine (Major_any _ _ _ _ _ _ _).mono ?_; rintro e w' ⟨rfl, hb⟩; replace HTx := Lib.hid (all_on hb HTx.out); clear hb h0 h1 h2 h3 h4 h5 k0 k1 k2 k3 k4 k5 j0 j1 j2 j3 j4 j5 hh; obtain ⟨h0, h1, h2, h3, h4, h5, k0, k1, k2, k3, k4, k5, j0, j1, j2, j3, j4, j5, hh⟩ := HTx.out) | (go_at_call 112; refine (Minor_any _ _ _ _ _ _ _).mono ?_; rintro e w' ⟨rfl, hb⟩; replace HTx := Lib.hid (all_on hb HTx.out); clear hb h0 h1 h2 h3 h4 h5 k0 k1 k2 k3 k4 k5 j0 j1 j2 j3 j4 j5 hh; obtain ⟨h0, h1, h2, h3, h4, h5, k0, k1, k2, k3, k4, k5, j0, j1, j2, j3, j4, j5, hh⟩ := HTx.out) | (go_at_call 113; refine (Patch_any _ _ _ _ _ _ _).mono ?_; rintro e w' ⟨rfl, hb⟩; replace HTx := Lib.hid (all_on hb HTx.out); clear hb h0 h1 h2 h3 h4 h5 k0 k1 k2 k3 k4 k5 j0 j1 j2 j3 j4 j5 hh; obtain ⟨h0, h1, h2, h3, h4, h5, k0, k1, k2, k3, k4, k5, j0, j1, j2, j3, j4, j5, hh⟩ := HTx.out) | (go_at_call 114; refine (Pre_any _ _ _ _ _ _ _).mono ?_; rintro e w' ⟨rfl, hb⟩; replace HTx := Lib.hid (all_on hb HTx.out); clear hb h0 h1 h2 h3 h4 h5 k0 k1 k2 k3 k4 k5 j0 j1 j2 j3 j4 j5 hh; obtain ⟨h0, h1, h2, h3, h4, h5, k0, k1, k2, k3, k4, k5, j0, j1, j2, j3, j4, j5, hh⟩ := HTx.out))
                all_goals go_meet
                all_goals exact ⟨by simp [e0, e1, f1, f2], HTx⟩
              case rest =>
                obtain ⟨rfl, HTy⟩ := hcut
                clear HTx h0 h1 h2 h3 h4 h5 k0 k1 k2 k3 k4 k5 j0 j1 j2 j3 j4 j5 hh
                have HTx := HTy
                clear HTy
                obtain ⟨h0, h1, h2, h3, h4, h5, k0, k1, k2, k3, k4, k5, j0, j1, j2, j3, j4, j5, hh⟩ := HTx.out
                cases e2 : ((a' == 0) && decide (0 < a))
                · skip
                  go_upto_region 13 with fail
                  go_cut [83] (fun t W => t = .bool (decide (0 < b') || pd) ∧ Hid (All w p q z a b c a' b' c' s m o s' m' o' g f md dd pd W))
                  case first =>
                    rcases bool_two (decide (0 < b')) with f1 | f1
                    all_goals rcases bool_two (pd) with f2 | f2
                    all_goals go_wp2_with (first | (go_at_call 111; refine (Major_any _ _ _ _ _ _ _).mono ?_; rintro e w' ⟨rfl, hb⟩; replace HTx := Lib.hid (all_on hb HTx.out); clear hb h0 h1 h2 h3 h4 h5 k0 k1 k2 k3 k4 k5 j0 j1 j2 j3 j4 j5 hh; obtain ⟨h0, h1, h2, h3, h4, h5, k0, k1, k2, k3, k4, k5, j0, j1, j2, j3, j4, j5, hh⟩ := HTx.out) | (go_at_call 112; refine (Minor_any _ _ _ _ _ _ _).mono ?_; rintro e w' ⟨rfl, hb⟩; replace HTx := Lib.hid (all_on hb HTx.out); clear hb h0 h1 h2 h3 h4 h5 k0 k1 k2 k3 k4 k5 j0 j1 j2 j3 j4 j5 hh; obtain ⟨h0, h1, h2, h3, h4, h5, k0, k1, k2, k3, k4, k5, j0, j1, j2, j3, j4, j5, hh⟩ := HTx.out) | (go_at_call 113; refine (Patch_any _ _ _ _ _ _ _).mono ?_; rintro e w' ⟨rfl, hb⟩; replace HTx := Lib.hid (all_on hb HTx.out); clear hb h0 h1 h2 h3 h4 h5 k0 k1 k2 k3 k4 k5 j0 j1 j2 j3 j4 j5 hh; obtain ⟨h0, h1, h2, h3, h4, h5, k0, k1, k2, k3, k4, k5, j0, j1, j2, j3, j4, j5, hh⟩ := HTx.out) | (go_at_call 114; refine (Pre_any _ _ _ _ _ _ _).mono ?_; rintro e w' ⟨rfl, hb⟩; replace HTx := Lib.hid (all_on hb HTx.out); clear hb h0 h1 h2 h3 h4 h5 k0 k1 k2 k3 k4 k5 j0 j1 j2 j3 j4 j5 hh; obtain ⟨h0, h1, h2, h3, h4, h5, k0, k1, k2, k3, k4, k5, j0, j1, j2, j3, j4, j5, hh⟩ := HTx.out))
                    all_goals go_meet
                    all_goals exact ⟨by simp [e0, e1, e2, f1, f2], HTx⟩
                  case rest =>
                    obtain ⟨rfl, HTy⟩ := hcut
                    clear HTx h0 h1 h2 h3 h4 h5 k0 k1 k2 k3 k4 k5 j0 j1 j2 j3 j4 j5 hh
                    have HTx := HTy
                    clear HTy
                    obtain ⟨h0, h1, h2, h3, h4, h5, k0, k1, k2, k3, k4, k5, j0, j1, j2, j3, j4, j5, hh⟩ := HTx.out
                    cases e3 : (decide (0 < b') || pd)
                    · skip
                      go_upto_region 18 with fail
                      go_cut [112] (fun t W => t = .bool ((b' == 0) && decide (0 < b)) ∧ Hid (All w p q z a b c a' b' c' s m o s' m' o' g f md dd pd W))
                      case first =>
                        rcases bool_two ((b' == 0)) with f1 | f1
                        all_goals rcases bool_two (decide (0 < b)) with f2 | f2
                        all_goals go_wp2_with (first | (go_at_call 111; refine (Major_any _ _ _ _ _ _ _).mono ?_; rintro e w' ⟨rfl, hb⟩; replace HTx := Lib.hid (all_on hb HTx.out); clear hb h0 h1 h2 h3 h4 h5 k0 k1 k2 k3 k4 k5 j0 j1 j2 j3 j4 j5 hh; obtain ⟨h0, h1, h2, h3, h4, h5, k0, k1, k2, k3, k4, k5, j0, j1, j2, j3, j4, j5, hh⟩ := HTx.out) | (go_at_call 112; refine (Minor_any _ _ _ _ _ _ _).mono ?_; rintro e w' ⟨rfl, hb⟩; replace HTx := Lib.hid (all_on hb HTx.out); clear hb h0 h1 h2 h3 h4 h5 k0 k1 k2 k3 k4 k5 j0 j1 j2 j3 j4 j5 hh; obtain ⟨h0, h1, h2, h3, h4, h5, k0, k1, k2, k3, k4, k5, j0, j1, j2, j3, j4, j5, hh⟩ := HTx.out) | (go_at_call 113; refine (Patch_any _ _ _ _ _ _ _).mono ?_; rintro e w' ⟨rfl, hb⟩; replace HTx := Lib.hid (all_on hb HTx.out); clear hb h0 h1 h2 h3 h4 h5 k0 k1 k2 k3 k4 k5 j0 j1 j2 j3 j4 j5 hh; obtain ⟨h0, h1, h2, h3, h4, h5, k0, k1, k2, k3, k4, k5, j0, j1, j2, j3, j4, j5, hh⟩ := HTx.out) | (go_at_call 114; refine (Pre_any _ _ _ _ _ _ _).mono ?_; rintro e w' ⟨rfl, hb⟩; replace HTx := Lib.hid (all_on hb HTx.out); clear hb h0 h1 h2 h3 h4 h5 k0 k1 k2 k3 k4 k5 j0 j1 j2 j3 j4 j5 hh; obtain ⟨h0, h1, h2, h3, h4, h5, k0, k1, k2, k3, k4, k5, j0, j1, j2, j3, j4, j5, hh⟩ := HTx.out))
                        all_goals go_meet
                        all_goals exact ⟨by simp [e0, e1, e2, e3, f1, f2], HTx⟩
                      case rest =>
                        obtain ⟨rfl, HTy⟩ := hcut
                        clear HTx h0 h1 h2 h3 h4 h5 k0 k1 k2 k3 k4 k5 j0 j1 j2 j3 j4 j5 hh
                        have HTx := HTy
                        clear HTy
                        obtain ⟨h0, h1, h2, h3, h4, h5, k0, k1, k2, k3, k4, k5, j0, j1, j2, j3, j4, j5, hh⟩ := HTx.out
                        cases e4 : ((b' == 0) && decide (0 < b))
                        · skip
                          go_upto_region 20 with fail
                          go_cut [8] (fun t W => t = .bool ((c' == c)) ∧ Hid (All w p q z a b c a' b' c' s m o s' m' o' g f md dd pd W))
                          case first =>
                            clear h0 h1 h2 h3 h4 h5 k0 k1 k2 k3 k4 k5 j0 j1 j2 j3 j4 j5 hh
                            refine start_ (n := 13) (S := fun w' => All w p q z a b c a' b' c' s m o s' m' o' g f md dd pd w') (ds := []) #[false, false, false, false, false, false, false, false, false, false, false, false, false] (by kernel_rfl) rfl rfl (all_on (drew_below _) HTx.out) (fun hHeld => ?_)
                            refine pure_ (i := 0) (N := some 114) (v := ?_) (a' := ?_) #[true, false, false, false, false, false, false, false, false, false, false, false, false] rfl rfl (by kernel_rfl) (fun _ _ _ h => h) (Or.inl ⟨by rfl, ?_⟩) ?_ ?_
                            rotate_left
                            · intro w'
                              go_simp
                              with_reducible rfl
                            rotate_left
                            · simp only [Act.put, List.setIfInBounds_toArray, List.set_cons_zero, List.set_cons_succ, i64_w, i32_w]
                              rfl
                            refine pure_ (i := 1) (N := some 115) (v := ?_) (a' := ?_) #[true, true, false, false, false, false, false, false, false, false, false, false, false] rfl rfl (by kernel_rfl) (fun _ _ _ h => h) (Or.inl ⟨by rfl, ?_⟩) ?_ ?_
                            rotate_left
                            · intro w'
                              go_simp
                              with_reducible rfl
                            rotate_left
                            · simp only [Act.put, List.setIfInBounds_toArray, List.set_cons_zero, List.set_cons_succ, i64_w, i32_w]
                              rfl
                            refine pure_ (i := 2) (N := some 116) (v := ?_) (a' := ?_) #[true, true, true, false, false, false, false, false, false, false, false, false, false] rfl rfl (by kernel_rfl) (fun _ _ _ h => h) (Or.inl ⟨by rfl, ?_⟩) ?_ ?_
                            rotate_left
                            · intro w'
                              go_simp
                              with_reducible rfl
                            rotate_left
                            · simp only [Act.put, List.setIfInBounds_toArray, List.set_cons_zero, List.set_cons_succ, i64_w, i32_w]
                              rfl
                            refine pure_ (i := 7) (N := some 121) (v := ?_) (a' := ?_) #[true, true, true, false, false, false, false, true, false, false, false, false, false] rfl rfl (by kernel_rfl) (fun _ _ _ h => h) (Or.inl ⟨by rfl, ?_⟩) ?_ ?_
                            rotate_left
                            · intro w'
                              go_simp
                              with_reducible rfl
                            rotate_left
                            · simp only [Act.put, List.setIfInBounds_toArray, List.set_cons_zero, List.set_cons_succ, i64_w, i32_w]
                              rfl
                            refine pure_ (i := 8) (N := some 122) (v := ?_) (a' := ?_) #[true, true, true, false, false, false, false, true, true, false, false, false, false] rfl rfl (by kernel_rfl) (fun _ _ _ h => h) (Or.inl ⟨by rfl, ?_⟩) ?_ ?_
                            rotate_left
                            · intro w'
                              go_simp
                              with_reducible rfl
                            rotate_left
                            · simp only [Act.put, List.setIfInBounds_toArray, List.set_cons_zero, List.set_cons_succ, i64_w, i32_w]
                              rfl
                            refine take_ (i := 3) (N := some 117) (v := ?_) (a' := ?_) #[true, true, true, true, false, false, false, true, true, false, false, false, false] rfl rfl (by kernel_rfl) (fun _ _ _ h => h) (Or.inl ⟨by rfl, ?_⟩) hHeld ?_ ?_
                            rotate_left
                            · rintro w' ⟨s0, s1, s2, s3, s4, s5, s6, s7, s8, s9, s10, s11, s12, s13, s14, s15, s16, s17, s18⟩
                              go_simp
                              with_reducible rfl
                            rotate_left
                            · simp only [Act.put, List.setIfInBounds_toArray, List.set_cons_zero, List.set_cons_succ, i64_w, i32_w]
                              rfl
                            refine pure_ (i := 4) (N := some 118) (v := ?_) (a' := ?_) #[true, true, true, true, true, false, false, true, true, false, false, false, false] rfl rfl (by kernel_rfl) (fun _ _ _ h => h) (Or.inl ⟨by rfl, ?_⟩) ?_ ?_
                            rotate_left
                            · intro w'
                              go_simp
                              with_reducible rfl
                            rotate_left
                            · simp only [Act.put, List.setIfInBounds_toArray, List.set_cons_zero, List.set_cons_succ, i64_w, i32_w]
                              rfl
                            refine take_ (i := 5) (N := some 119) (v := ?_) (a' := ?_) #[true, true, true, true, true, true, false, true, true, false, false, false, false] rfl rfl (by kernel_rfl) (fun _ _ _ h => h) (Or.inl ⟨by rfl, ?_⟩) hHeld ?_ ?_
                            rotate_left
                            · rintro w' ⟨s0, s1, s2, s3, s4, s5, s6, s7, s8, s9, s10, s11, s12, s13, s14, s15, s16, s17, s18⟩
                              go_simp
                              with_reducible rfl
                            rotate_left
                            · simp only [Act.put, List.setIfInBounds_toArray, List.set_cons_zero, List.set_cons_succ, i64_w, i32_w]
                              rfl
                            refine take_ (i := 9) (N := some 123) (v := ?_) (a' := ?_) #[true, true, true, true, true, true, false, true, true, true, false, false, false] rfl rfl (by kernel_rfl) (fun _ _ _ h => h) (Or.inl ⟨by rfl, ?_⟩) hHeld ?_ ?_
                            rotate_left
                            · rintro w' ⟨s0, s1, s2, s3, s4, s5, s6, s7, s8, s9, s10, s11, s12, s13, s14, s15, s16, s17, s18⟩
                              go_simp
                              with_reducible rfl
                            rotate_left
                            · simp only [Act.put, List.setIfInBounds_toArray, List.set_cons_zero, List.set_cons_succ, i64_w, i32_w]
                              rfl
                            refine one_ (i := 6) (N := some 120) #[true, true, true, true, true, true, true, true, true, true, false, false, false] rfl rfl (by kernel_rfl) (by decide) (fun K hK => ?_)
                            refine goes_ Tryd.func113 (by kernel_rfl) rfl #[.agg #[.int .u64 a', .int .u64 b', .int .u64 c', .string s', .string m', .string o']] (by rfl) rfl rfl (by simp only [List.map_toArray, List.map_cons, List.map_nil]; rfl) ?_
                            with_reducible refine (Patch_any a' b' c' s' m' o' _).mono ?_
                            rintro e w3 ⟨rfl, hb⟩
                            refine ⟨_, rfl, ?_⟩
                            refine hK.out _ _ (all_on hb hHeld) (fun hHeld => ?_)
                            clear hK K
                            refine norm_ (a' := ?_) ?_ ?_
                            rotate_left
                            · show Act.put _ (some 120) _ = _
                              simp only [Act.put, List.setIfInBounds_toArray, List.set_cons_zero, List.set_cons_succ, i64_w, i32_w]
                              rfl
                            refine one_ (i := 10) (N := some 124) #[true, true, true, true, true, true, true, true, true, true, true, false, false] rfl rfl (by kernel_rfl) (by decide) (fun K hK => ?_)
                            refine goes_ Tryd.func113 (by kernel_rfl) rfl #[.agg #[.int .u64 a, .int .u64 b, .int .u64 c, .string s, .string m, .string o]] (by rfl) rfl rfl (by simp only [List.map_toArray, List.map_cons, List.map_nil]; rfl) ?_
                            with_reducible refine (Patch_any a b c s m o _).mono ?_
                            rintro e w3 ⟨rfl, hb⟩
                            refine ⟨_, rfl, ?_⟩
                            refine hK.out _ _ (all_on hb hHeld) (fun hHeld => ?_)
                            clear hK K
                            refine norm_ (a' := ?_) ?_ ?_
                            rotate_left
                            · show Act.put _ (some 124) _ = _
                              simp only [Act.put, List.setIfInBounds_toArray, List.set_cons_zero, List.set_cons_succ, i64_w, i32_w]
                              rfl
                            refine pure_ (i := 11) (N := some 125) (v := ?_) (a' := ?_) #[true, true, true, true, true, true, true, true, true, true, true, true, false] rfl rfl (by kernel_rfl) (fun _ _ _ h => h) (Or.inl ⟨by rfl, ?_⟩) ?_ ?_
                            rotate_left
                            · intro w'
                              go_simp
                              with_reducible rfl
                            rotate_left
                            · simp only [Act.put, List.setIfInBounds_toArray, List.set_cons_zero, List.set_cons_succ, i64_w, i32_w]
                              rfl
                            refine pure_ (i := 12) (N := some 8) (v := ?_) (a' := ?_) #[true, true, true, true, true, true, true, true, true, true, true, true, true] rfl rfl (by kernel_rfl) (fun _ _ _ h => h) (Or.inl ⟨by rfl, ?_⟩) ?_ ?_
                            rotate_left
                            · intro w'
                              go_simp
                              with_reducible rfl
                            rotate_left
                            · simp only [Act.put, List.setIfInBounds_toArray, List.set_cons_zero, List.set_cons_succ, i64_w, i32_w]
                              rfl
                            refine done_ (by kernel_rfl) ?_
                            go_wp2_with fail
                            go_meet
                            exact ⟨by simp [e0, e1, e2, e3, e4], Lib.hid hHeld⟩
                          case rest =>
                            obtain ⟨rfl, HTy⟩ := hcut
                            clear HTx h0 h1 h2 h3 h4 h5 k0 k1 k2 k3 k4 k5 j0 j1 j2 j3 j4 j5 hh
                            have HTx := HTy
                            clear HTy
                            obtain ⟨h0, h1, h2, h3, h4, h5, k0, k1, k2, k3, k4, k5, j0, j1, j2, j3, j4, j5, hh⟩ := HTx.out
                            cases e5 : (c' == c)
                            · skip
                              go_wp2_with (first | (go_at_call 139; refine (new_any _ _).mono ?_; rintro e w' ⟨⟨x, rfl⟩, hb2⟩))
                              go_ret2
                              exact says_of (r := false) (by simp [hg, caB, e0, e1, e2, e3, e4, e5]) rfl (by repeat (first | exact Below.refl _ _ | exact (all_tri HTx.out).bel | (refine bl_on ?_ (by assumption))))
                            · skip
                              go_wp2_with (first | (go_at_call 139; refine (new_any _ _).mono ?_; rintro e w' ⟨⟨x, rfl⟩, hb2⟩))
                              go_ret2
                              exact says_of (r := true) (by simp [hg, caB, e0, e1, e2, e3, e4, e5]) rfl (by repeat (first | exact Below.refl _ _ | exact (all_tri HTx.out).bel | (refine bl_on ?_ (by assumption))))
                        · skip
                          go_wp2_with (first | (go_at_call 139; refine (new_any _ _).mono ?_; rintro e w' ⟨⟨x, rfl⟩, hb2⟩))
                          go_ret2
                          exact says_of (r := false) (by simp [hg, caB, e0, e1, e2, e3, e4]) rfl (by repeat (first | exact Below.refl _ _ | exact (all_tri HTx.out).bel | (refine bl_on ?_ (by assumption))))
                    · skip
                      go_upto_region 14 with fail
                      go_cut [8] (fun t W => t = .bool ((b == b')) ∧ Hid (All w p q z a b c a' b' c' s m o s' m' o' g f md dd pd W))
                      case first =>
                        clear h0 h1 h2 h3 h4 h5 k0 k1 k2 k3 k4 k5 j0 j1 j2 j3 j4 j5 hh
                        refine start_ (n := 13) (S := fun w' => All w p q z a b c a' b' c' s m o s' m' o' g f md dd pd w') (ds := []) #[false, false, false, false, false, false, false, false, false, false, false, false, false] (by kernel_rfl) rfl rfl (all_on (drew_below _) HTx.out) (fun hHeld => ?_)
                        refine pure_ (i := 0) (N := some 84) (v := ?_) (a' := ?_) #[true, false, false, false, false, false, false, false, false, false, false, false, false] rfl rfl (by kernel_rfl) (fun _ _ _ h => h) (Or.inl ⟨by rfl, ?_⟩) ?_ ?_
                        rotate_left
                        · intro w'
                          go_simp
                          with_reducible rfl
                        rotate_left
                        · simp only [Act.put, List.setIfInBounds_toArray, List.set_cons_zero, List.set_cons_succ, i64_w, i32_w]
                          rfl
                        refine pure_ (i := 1) (N := some 85) (v := ?_) (a' := ?_) #[true, true, false, false, false, false, false, false, false, false, false, false, false] rfl rfl (by kernel_rfl) (fun _ _ _ h => h) (Or.inl ⟨by rfl, ?_⟩) ?_ ?_
                        rotate_left
                        · intro w'
                          go_simp
                          with_reducible rfl
                        rotate_left
                        · simp only [Act.put, List.setIfInBounds_toArray, List.set_cons_zero, List.set_cons_succ, i64_w, i32_w]
                          rfl
                        refine pure_ (i := 4) (N := some 88) (v := ?_) (a' := ?_) #[true, true, false, false, true, false, false, false, false, false, false, false, false] rfl rfl (by kernel_rfl) (fun _ _ _ h => h) (Or.inl ⟨by rfl, ?_⟩) ?_ ?_
                        rotate_left
                        · intro w'
                          go_simp
                          with_reducible rfl
                        rotate_left
                        · simp only [Act.put, List.setIfInBounds_toArray, List.set_cons_zero, List.set_cons_succ, i64_w, i32_w]
                          rfl
                        refine pure_ (i := 5) (N := some 89) (v := ?_) (a' := ?_) #[true, true, false, false, true, true, false, false, false, false, false, false, false] rfl rfl (by kernel_rfl) (fun _ _ _ h => h) (Or.inl ⟨by rfl, ?_⟩) ?_ ?_
                        rotate_left
                        · intro w'
                          go_simp
                          with_reducible rfl
                        rotate_left
                        · simp only [Act.put, List.setIfInBounds_toArray, List.set_cons_zero, List.set_cons_succ, i64_w, i32_w]
                          rfl
                        refine pure_ (i := 6) (N := some 90) (v := ?_) (a' := ?_) #[true, true, false, false, true, true, true, false, false, false, false, false, false] rfl rfl (by kernel_rfl) (fun _ _ _ h => h) (Or.inl ⟨by rfl, ?_⟩) ?_ ?_
                        rotate_left
                        · intro w'
                          go_simp
                          with_reducible rfl
                        rotate_left
                        · simp only [Act.put, List.setIfInBounds_toArray, List.set_cons_zero, List.set_cons_succ, i64_w, i32_w]
                          rfl
                        refine take_ (i := 2) (N := some 86) (v := ?_) (a' := ?_) #[true, true, true, false, true, true, true, false, false, false, false, false, false] rfl rfl (by kernel_rfl) (fun _ _ _ h => h) (Or.inl ⟨by rfl, ?_⟩) hHeld ?_ ?_
                        rotate_left
                        · rintro w' ⟨s0, s1, s2, s3, s4, s5, s6, s7, s8, s9, s10, s11, s12, s13, s14, s15, s16, s17, s18⟩
                          go_simp
                          with_reducible rfl
                        rotate_left
                        · simp only [Act.put, List.setIfInBounds_toArray, List.set_cons_zero, List.set_cons_succ, i64_w, i32_w]
                          rfl
                        refine take_ (i := 7) (N := some 91) (v := ?_) (a' := ?_) #[true, true, true, false, true, true, true, true, false, false, false, false, false] rfl rfl (by kernel_rfl) (fun _ _ _ h => h) (Or.inl ⟨by rfl, ?_⟩) hHeld ?_ ?_
                        rotate_left
                        · rintro w' ⟨s0, s1, s2, s3, s4, s5, s6, s7, s8, s9, s10, s11, s12, s13, s14, s15, s16, s17, s18⟩
                          go_simp
                          with_reducible rfl
                        rotate_left
                        · simp only [Act.put, List.setIfInBounds_toArray, List.set_cons_zero, List.set_cons_succ, i64_w, i32_w]
                          rfl
                        refine pure_ (i := 8) (N := some 92) (v := ?_) (a' := ?_) #[true, true, true, false, true, true, true, true, true, false, false, false, false] rfl rfl (by kernel_rfl) (fun _ _ _ h => h) (Or.inl ⟨by rfl, ?_⟩) ?_ ?_
                        rotate_left
                        · intro w'
                          go_simp
                          with_reducible rfl
                        rotate_left
                        · simp only [Act.put, List.setIfInBounds_toArray, List.set_cons_zero, List.set_cons_succ, i64_w, i32_w]
                          rfl
                        refine take_ (i := 9) (N := some 93) (v := ?_) (a' := ?_) #[true, true, true, false, true, true, true, true, true, true, false, false, false] rfl rfl (by kernel_rfl) (fun _ _ _ h => h) (Or.inl ⟨by rfl, ?_⟩) hHeld ?_ ?_
                        rotate_left
                        · rintro w' ⟨s0, s1, s2, s3, s4, s5, s6, s7, s8, s9, s10, s11, s12, s13, s14, s15, s16, s17, s18⟩
                          go_simp
                          with_reducible rfl
                        rotate_left
                        · simp only [Act.put, List.setIfInBounds_toArray, List.set_cons_zero, List.set_cons_succ, i64_w, i32_w]
                          rfl
                        refine one_ (i := 3) (N := some 87) #[true, true, true, true, true, true, true, true, true, true, false, false, false] rfl rfl (by kernel_rfl) (by decide) (fun K hK => ?_)
                        refine goes_ Tryd.func112 (by kernel_rfl) rfl #[.agg #[.int .u64 a, .int .u64 b, .int .u64 c, .string s, .string m, .string o]] (by rfl) rfl rfl (by simp only [List.map_toArray, List.map_cons, List.map_nil]; rfl) ?_
                        with_reducible refine (Minor_any a b c s m o _).mono ?_
                        rintro e w3 ⟨rfl, hb⟩
                        refine ⟨_, rfl, ?_⟩
                        refine hK.out _ _ (all_on hb hHeld) (fun hHeld => ?_)
                        clear hK K
                        refine norm_ (a' := ?_) ?_ ?_
                        rotate_left
                        · show Act.put _ (some 87) _ = _
                          simp only [Act.put, List.setIfInBounds_toArray, List.set_cons_zero, List.set_cons_succ, i64_w, i32_w]
                          rfl
                        refine one_ (i := 10) (N := some 94) #[true, true, true, true, true, true, true, true, true, true, true, false, false] rfl rfl (by kernel_rfl) (by decide) (fun K hK => ?_)
                        refine goes_ Tryd.func112 (by kernel_rfl) rfl #[.agg #[.int .u64 a', .int .u64 b', .int .u64 c', .string s', .string m', .string o']] (by rfl) rfl rfl (by simp only [List.map_toArray, List.map_cons, List.map_nil]; rfl) ?_
                        with_reducible refine (Minor_any a' b' c' s' m' o' _).mono ?_
                        rintro e w3 ⟨rfl, hb⟩
                        refine ⟨_, rfl, ?_⟩
                        refine hK.out _ _ (all_on hb hHeld) (fun hHeld => ?_)
                        clear hK K
                        refine norm_ (a' := ?_) ?_ ?_
                        rotate_left
                        · show Act.put _ (some 94) _ = _
                          simp only [Act.put, List.setIfInBounds_toArray, List.set_cons_zero, List.set_cons_succ, i64_w, i32_w]
                          rfl
                        refine pure_ (i := 11) (N := some 95) (v := ?_) (a' := ?_) #[true, true, true, true, true, true, true, true, true, true, true, true, false] rfl rfl (by kernel_rfl) (fun _ _ _ h => h) (Or.inl ⟨by rfl, ?_⟩) ?_ ?_
                        rotate_left
                        · intro w'
                          go_simp
                          with_reducible rfl
                        rotate_left
                        · simp only [Act.put, List.setIfInBounds_toArray, List.set_cons_zero, List.set_cons_succ, i64_w, i32_w]
                          rfl
                        refine pure_ (i := 12) (N := some 8) (v := ?_) (a' := ?_) #[true, true, true, true, true, true, true, true, true, true, true, true, true] rfl rfl (by kernel_rfl) (fun _ _ _ h => h) (Or.inl ⟨by rfl, ?_⟩) ?_ ?_
                        rotate_left
                        · intro w'
                          go_simp
                          with_reducible rfl
                        rotate_left
                        · simp only [Act.put, List.setIfInBounds_toArray, List.set_cons_zero, List.set_cons_succ, i64_w, i32_w]
                          rfl
                        refine done_ (by kernel_rfl) ?_
                        go_wp2_with fail
                        go_meet
                        exact ⟨by simp [e0, e1, e2, e3], Lib.hid hHeld⟩
                      case rest =>
                        obtain ⟨rfl, HTy⟩ := hcut
                        clear HTx h0 h1 h2 h3 h4 h5 k0 k1 k2 k3 k4 k5 j0 j1 j2 j3 j4 j5 hh
                        have HTx := HTy
                        clear HTy
                        obtain ⟨h0, h1, h2, h3, h4, h5, k0, k1, k2, k3, k4, k5, j0, j1, j2, j3, j4, j5, hh⟩ := HTx.out
                        cases e5 : (b == b')
                        · skip
                          go_wp2_with (first | (go_at_call 139; refine (new_any _ _).mono ?_; rintro e w' ⟨⟨x, rfl⟩, hb2⟩))
                          go_ret2
                          exact says_of (r := false) (by simp [hg, caB, e0, e1, e2, e3, e5]) rfl (by repeat (first | exact Below.refl _ _ | exact (all_tri HTx.out).bel | (refine bl_on ?_ (by assumption))))
                        · skip
                          go_wp2_with (first | (go_at_call 139; refine (new_any _ _).mono ?_; rintro e w' ⟨⟨x, rfl⟩, hb2⟩))
                          go_ret2
                          exact says_of (r := true) (by simp [hg, caB, e0, e1, e2, e3, e5]) rfl (by repeat (first | exact Below.refl _ _ | exact (all_tri HTx.out).bel | (refine bl_on ?_ (by assumption))))
                · skip
                  go_wp2_with (first | (go_at_call 139; refine (new_any _ _).mono ?_; rintro e w' ⟨⟨x, rfl⟩, hb2⟩))
                  go_ret2
                  exact says_of (r := false) (by simp [hg, caB, e0, e1, e2]) rfl (by repeat (first | exact Below.refl _ _ | exact (all_tri HTx.out).bel | (refine bl_on ?_ (by assumption))))
            · skip
              go_upto_region 7 with fail
              go_cut [8] (fun t W => t = .bool ((a == a')) ∧ Hid (All w p q z a b c a' b' c' s m o s' m' o' g f md dd pd W))
              case first =>
                clear h0 h1 h2 h3 h4 h5 k0 k1 k2 k3 k4 k5 j0 j1 j2 j3 j4 j5 hh
                refine start_ (n := 13) (S := fun w' => All w p q z a b c a' b' c' s m o s' m' o' g f md dd pd w') (ds := []) #[false, false, false, false, false, false, false, false, false, false, false, false, false] (by kernel_rfl) rfl rfl (all_on (drew_below _) HTx.out) (fun hHeld => ?_)
                refine pure_ (i := 0) (N := some 40) (v := ?_) (a' := ?_) #[true, false, false, false, false, false, false, false, false, false, false, false, false] rfl rfl (by kernel_rfl) (fun _ _ _ h => h) (Or.inl ⟨by rfl, ?_⟩) ?_ ?_
                rotate_left
                · intro w'
                  go_simp
                  with_reducible rfl
                rotate_left
                · simp only [Act.put, List.setIfInBounds_toArray, List.set_cons_zero, List.set_cons_succ, i64_w, i32_w]
                  rfl
                refine pure_ (i := 1) (N := some 41) (v := ?_) (a' := ?_) #[true, true, false, false, false, false, false, false, false, false, false, false, false] rfl rfl (by kernel_rfl) (fun _ _ _ h => h) (Or.inl ⟨by rfl, ?_⟩) ?_ ?_
                rotate_left
                · intro w'
                  go_simp
                  with_reducible rfl
                rotate_left
                · simp only [Act.put, List.setIfInBounds_toArray, List.set_cons_zero, List.set_cons_succ, i64_w, i32_w]
                  rfl
                refine pure_ (i := 4) (N := some 44) (v := ?_) (a' := ?_) #[true, true, false, false, true, false, false, false, false, false, false, false, false] rfl rfl (by kernel_rfl) (fun _ _ _ h => h) (Or.inl ⟨by rfl, ?_⟩) ?_ ?_
                rotate_left
                · intro w'
                  go_simp
                  with_reducible rfl
                rotate_left
                · simp only [Act.put, List.setIfInBounds_toArray, List.set_cons_zero, List.set_cons_succ, i64_w, i32_w]
                  rfl
                refine pure_ (i := 5) (N := some 45) (v := ?_) (a' := ?_) #[true, true, false, false, true, true, false, false, false, false, false, false, false] rfl rfl (by kernel_rfl) (fun _ _ _ h => h) (Or.inl ⟨by rfl, ?_⟩) ?_ ?_
                rotate_left
                · intro w'
                  go_simp
                  with_reducible rfl
                rotate_left
                · simp only [Act.put, List.setIfInBounds_toArray, List.set_cons_zero, List.set_cons_succ, i64_w, i32_w]
                  rfl
                refine pure_ (i := 6) (N := some 46) (v := ?_) (a' := ?_) #[true, true, false, false, true, true, true, false, false, false, false, false, false] rfl rfl (by kernel_rfl) (fun _ _ _ h => h) (Or.inl ⟨by rfl, ?_⟩) ?_ ?_
                rotate_left
                · intro w'
                  go_simp
                  with_reducible rfl
                rotate_left
                · simp only [Act.put, List.setIfInBounds_toArray, List.set_cons_zero, List.set_cons_succ, i64_w, i32_w]
                  rfl
                refine take_ (i := 2) (N := some 42) (v := ?_) (a' := ?_) #[true, true, true, false, true, true, true, false, false, false, false, false, false] rfl rfl (by kernel_rfl) (fun _ _ _ h => h) (Or.inl ⟨by rfl, ?_⟩) hHeld ?_ ?_
                rotate_left
                · rintro w' ⟨s0, s1, s2, s3, s4, s5, s6, s7, s8, s9, s10, s11, s12, s13, s14, s15, s16, s17, s18⟩
                  go_simp
                  with_reducible rfl
                rotate_left
                · simp only [Act.put, List.setIfInBounds_toArray, List.set_cons_zero, List.set_cons_succ, i64_w, i32_w]
                  rfl
                refine take_ (i := 7) (N := some 47) (v := ?_) (a' := ?_) #[true, true, true, false, true, true, true, true, false, false, false, false, false] rfl rfl (by kernel_rfl) (fun _ _ _ h => h) (Or.inl ⟨by rfl, ?_⟩) hHeld ?_ ?_
                rotate_left
                · rintro w' ⟨s0, s1, s2, s3, s4, s5, s6, s7, s8, s9, s10, s11, s12, s13, s14, s15, s16, s17, s18⟩
                  go_simp
                  with_reducible rfl
                rotate_left
                · simp only [Act.put, List.setIfInBounds_toArray, List.set_cons_zero, List.set_cons_succ, i64_w, i32_w]
                  rfl
                refine pure_ (i := 8) (N := some 48) (v := ?_) (a' := ?_) #[true, true, true, false, true, true, true, true, true, false, false, false, false] rfl rfl (by kernel_rfl) (fun _ _ _ h => h) (Or.inl ⟨by rfl, ?_⟩) ?_ ?_
                rotate_left
                · intro w'
                  go_simp
                  with_reducible rfl
                rotate_left
                · simp only [Act.put, List.setIfInBounds_toArray, List.set_cons_zero, List.set_cons_succ, i64_w, i32_w]
                  rfl
                refine take_ (i := 9) (N := some 49) (v := ?_) (a' := ?_) #[true, true, true, false, true, true, true, true, true, true, false, false, false] rfl rfl (by kernel_rfl) (fun _ _ _ h => h) (Or.inl ⟨by rfl, ?_⟩) hHeld ?_ ?_
                rotate_left
                · rintro w' ⟨s0, s1, s2, s3, s4, s5, s6, s7, s8, s9, s10, s11, s12, s13, s14, s15, s16, s17, s18⟩
                  go_simp
                  with_reducible rfl
                rotate_left
                · simp only [Act.put, List.setIfInBounds_toArray, List.set_cons_zero, List.set_cons_succ, i64_w, i32_w]
                  rfl
                refine one_ (i := 3) (N := some 43) #[true, true, true, true, true, true, true, true, true, true, false, false, false] rfl rfl (by kernel_rfl) (by decide) (fun K hK => ?_)
                refine goes_ Tryd.func111 (by kernel_rfl) rfl #[.agg #[.int .u64 a, .int .u64 b, .int .u64 c, .string s, .string m, .string o]] (by rfl) rfl rfl (by simp only [List.map_toArray, List.map_cons, List.map_nil]; rfl) ?_
                with_reducible refine (Major_any a b c s m o _).mono ?_
                rintro e w3 ⟨rfl, hb⟩
                refine ⟨_, rfl, ?_⟩
                refine hK.out _ _ (all_on hb hHeld) (fun hHeld => ?_)
                clear hK K
                refine norm_ (a' := ?_) ?_ ?_
                rotate_left
                · show Act.put _ (some 43) _ = _
                  simp only [Act.put, List.setIfInBounds_toArray, List.set_cons_zero, List.set_cons_succ, i64_w, i32_w]
                  rfl
                refine one_ (i := 10) (N := some 50) #[true, true, true, true, true, true, true, true, true, true, true, false, false] rfl rfl (by kernel_rfl) (by decide) (fun K hK => ?_)
                refine goes_ Tryd.func111 (by kernel_rfl) rfl #[.agg #[.int .u64 a', .int .u64 b', .int .u64 c', .string s', .string m', .string o']] (by rfl) rfl rfl (by simp only [List.map_toArray, List.map_cons, List.map_nil]; rfl) ?_
                with_reducible refine (Major_any a' b' c' s' m' o' _).mono ?_
                rintro e w3 ⟨rfl, hb⟩
                refine ⟨_, rfl, ?_⟩
                refine hK.out _ _ (all_on hb hHeld) (fun hHeld => ?_)
                clear hK K
                refine norm_ (a' := ?_) ?_ ?_
                rotate_left
                · show Act.put _ (some 50) _ = _
                  simp only [Act.put, List.setIfInBounds_toArray, List.set_cons_zero, List.set_cons_succ, i64_w, i32_w]
                  rfl
                refine pure_ (i := 11) (N := some 51) (v := ?_) (a' := ?_) #[true, true, true, true, true, true, true, true, true, true, true, true, false] rfl rfl (by kernel_rfl) (fun _ _ _ h => h) (Or.inl ⟨by rfl, ?_⟩) ?_ ?_
                rotate_left
                · intro w'
                  go_simp
                  with_reducible rfl
                rotate_left
                · simp only [Act.put, List.setIfInBounds_toArray, List.set_cons_zero, List.set_cons_succ, i64_w, i32_w]
                  rfl
                refine pure_ (i := 12) (N := some 8) (v := ?_) (a' := ?_) #[true, true, true, true, true, true, true, true, true, true, true, true, true] rfl rfl (by kernel_rfl) (fun _ _ _ h => h) (Or.inl ⟨by rfl, ?_⟩) ?_ ?_
                rotate_left
                · intro w'
                  go_simp
                  with_reducible rfl
                rotate_left
                · simp only [Act.put, List.setIfInBounds_toArray, List.set_cons_zero, List.set_cons_succ, i64_w, i32_w]
                  rfl
                refine done_ (by kernel_rfl) ?_
                go_wp2_with fail
                go_meet
                exact ⟨by simp [e0, e1], Lib.hid hHeld⟩
              case rest =>
                obtain ⟨rfl, HTy⟩ := hcut
                clear HTx h0 h1 h2 h3 h4 h5 k0 k1 k2 k3 k4 k5 j0 j1 j2 j3 j4 j5 hh
                have HTx := HTy
                clear HTy
                obtain ⟨h0, h1, h2, h3, h4, h5, k0, k1, k2, k3, k4, k5, j0, j1, j2, j3, j4, j5, hh⟩ := HTx.out
                cases e5 : (a == a')
                · skip
                  go_wp2_with (first | (go_at_call 139; refine (new_any _ _).mono ?_; rintro e w' ⟨⟨x, rfl⟩, hb2⟩))
                  go_ret2
                  exact says_of (r := false) (by simp [hg, caB, e0, e1, e5]) rfl (by repeat (first | exact Below.refl _ _ | exact (all_tri HTx.out).bel | (refine bl_on ?_ (by assumption))))
                · skip
                  go_wp2_with (first | (go_at_call 139; refine (new_any _ _).mono ?_; rintro e w' ⟨⟨x, rfl⟩, hb2⟩))
                  go_ret2
                  exact says_of (r := true) (by simp [hg, caB, e0, e1, e5]) rfl (by repeat (first | exact Below.refl _ _ | exact (all_tri HTx.out).bel | (refine bl_on ?_ (by assumption))))
      · go_wp2_with (first | (go_at_call 78; refine (Less_any p q a b c a' b' c' s m o s' m' o' _ (all_tri HTx.out).v (all_tri HTx.out).u (all_tri HTx.out).E k r HR.out).mono ?_; rintro e w' ⟨rfl, hb⟩) | (go_at_call 139; refine (new_any _ _).mono ?_; rintro e w' ⟨⟨x, rfl⟩, hb2⟩))
        go_ret2
        exact says_of (r := false) (by simp [hg, caB, e0]) rfl (by repeat (first | exact Below.refl _ _ | exact (all_tri HTx.out).bel | (refine bl_on ?_ (by assumption))))
    · skip
      go_wp2_with (first | (go_at_call 139; refine (new_any _ _).mono ?_; rintro e w' ⟨⟨x, rfl⟩, hb2⟩))
      go_ret2
      exact says_of (r := false) (by simp [hg, caB]) rfl (by repeat (first | exact Below.refl _ _ | exact (all_tri HTx.out).bel | (refine bl_on ?_ (by assumption))))
end Go.Proofs.YtlooelfkkbgmhaaDoor
