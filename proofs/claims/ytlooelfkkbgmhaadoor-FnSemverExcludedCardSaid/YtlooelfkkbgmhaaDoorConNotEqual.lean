/-
  The thin package's NotEqualHolds over one term: the walk down to the comparison, and its contract.
-/
import Derived.Test.YtlooelfkkbgmhaaDoorCon
set_option linter.unusedVariables false
set_option linter.unusedSimpArgs false
namespace Go.Proofs.YtlooelfkkbgmhaaDoor
open Go Go.RowKit Go.Proofs.YtlooelfkkbgmhaaDoorW.PrintWords Go.Proofs.YtlooelfkkbgmhaaDoorW.PrintLast
def neB (cm a b c a' b' c' r : Int) (s s' : ByteArray) (md dd pd : Bool) : Bool := bif dd then ((a' != a) || ((b' != b) && !md) || (!md && (((c' != c) && !pd) || (bif pd then (((!s.toList.isEmpty) || (!s'.toList.isEmpty)) && (r != 0)) else !(cm == 0))))) else !(cm == 0)
set_option maxHeartbeats 4000000 in
set_option maxRecDepth 100000 in
theorem Ne_any (p q z : Nat) (a b c a' b' c' : Int) (s m o s' m' o' g f : ByteArray) (md dd pd : Bool) (hpq : p ≠ q) (pre : Bool) (w : World) (hT : Tri w p q z a b c a' b' c' s m o s' m' o' g f md dd pd w) (k : Nat) (r : Int) (hr : semver_comparePrerelease.f k s s' = some r) :
    Calls Tryd.prog 132 #[.pointer (some ⟨p, 0, none⟩), .pointer (some ⟨z, 0, none⟩), .bool pre] w (Says w (!gate s pre && neB (cmpF a b c a' b' c' s s' r) a b c a' b' c' r s s' md dd pd)) := by
  have HTx := Lib.hid (all_of hT)
  have HR := Lib.hid hr
  clear hT hr
  obtain ⟨h0, h1, h2, h3, h4, h5, k0, k1, k2, k3, k4, k5, j0, j1, j2, j3, j4, j5, hh⟩ := HTx.out
  go_enter Tryd.func132, Tryd.ntmps132
  go_upto_region 1 with fail
  go_cut [18] (fun t W => t = .bool (gate s pre) ∧ Hid (All w p q z a b c a' b' c' s m o s' m' o' g f md dd pd W))
  case first =>
    by_cases g : s.toList = []
    · have g1 : s.toList.isEmpty = true := by rw [g]; rfl
      have g2 : (!s.toList.isEmpty) = false := by rw [g]; rfl
      have g3 : gate s pre = false := by unfold gate; rw [g2]; rfl
      go_wp2_with ((go_at_call 114; refine (Pre_any _ _ _ _ _ _ _).mono ?_; rintro e w' ⟨rfl, hb⟩))
      go_meet
      exact ⟨by rw [g3], Lib.hid (all_on (by assumption) HTx.out)⟩
    · have g1 : s.toList.isEmpty = false := by cases h : s.toList with | nil => exact absurd h g | cons _ _ => rfl
      have g2 : (!s.toList.isEmpty) = true := by rw [g1]; rfl
      have g3 : gate s pre = !pre := by unfold gate; rw [g2]; rfl
      clear g
      go_wp2_with ((go_at_call 114; refine (Pre_any _ _ _ _ _ _ _).mono ?_; rintro e w' ⟨rfl, hb⟩))
      all_goals go_meet
      all_goals exact ⟨by rw [g3], Lib.hid (all_on (by assumption) HTx.out)⟩
  case rest =>
    obtain ⟨rfl, HTy⟩ := hcut
    clear HTx h0 h1 h2 h3 h4 h5 k0 k1 k2 k3 k4 k5 j0 j1 j2 j3 j4 j5 hh
    have HTx := HTy
    clear HTy
    obtain ⟨h0, h1, h2, h3, h4, h5, k0, k1, k2, k3, k4, k5, j0, j1, j2, j3, j4, j5, hh⟩ := HTx.out
    cases hg : gate s pre
    · skip
      cases dd
      · skip
        go_wp2_with (first | (go_at_call 77; refine (Equal_any p q hpq a b c a' b' c' s m o s' m' o' _ (all_tri HTx.out).v (all_tri HTx.out).u (all_tri HTx.out).pb (all_tri HTx.out).qb (all_tri HTx.out).E k r HR.out).mono ?_; rintro e w' ⟨rfl, hb⟩) | (go_at_call 139; refine (new_any _ _).mono ?_; rintro e w' ⟨⟨x, rfl⟩, hb2⟩))
        · rename_i ht
          go_ret2
          exact says_of (r := false) (by simp [hg, neB, ht]) rfl (by repeat (first | exact Below.refl _ _ | exact (all_tri HTx.out).bel | (refine bl_on ?_ (by assumption))))
        · rename_i ht
          go_ret2
          exact says_of (r := true) (by simp [hg, neB, ht]) rfl (by repeat (first | exact Below.refl _ _ | exact (all_tri HTx.out).bel | (refine bl_on ?_ (by assumption))))
      · skip
        go_upto_region 4 with fail
        go_cut [35] (fun t W => t = .bool ((a' != a)) ∧ Hid (All w p q z a b c a' b' c' s m o s' m' o' g f md true pd W))
        case first =>
          clear h0 h1 h2 h3 h4 h5 k0 k1 k2 k3 k4 k5 j0 j1 j2 j3 j4 j5 hh
          refine start_ (n := 12) (S := fun w' => All w p q z a b c a' b' c' s m o s' m' o' g f md true pd w') (ds := []) #[false, false, false, false, false, false, false, false, false, false, false, false] (by kernel_rfl) rfl rfl (all_on (drew_below _) HTx.out) (fun hHeld => ?_)
          refine pure_ (i := 0) (N := some 24) (v := ?_) (a' := ?_) #[true, false, false, false, false, false, false, false, false, false, false, false] rfl rfl (by kernel_rfl) (fun _ _ _ h => h) (Or.inl ⟨by rfl, ?_⟩) ?_ ?_
          rotate_left
          · intro w'
            go_simp
            with_reducible rfl
          rotate_left
          · simp only [Act.put, List.setIfInBounds_toArray, List.set_cons_zero, List.set_cons_succ, i64_w, i32_w]
            rfl
          refine pure_ (i := 1) (N := some 25) (v := ?_) (a' := ?_) #[true, true, false, false, false, false, false, false, false, false, false, false] rfl rfl (by kernel_rfl) (fun _ _ _ h => h) (Or.inl ⟨by rfl, ?_⟩) ?_ ?_
          rotate_left
          · intro w'
            go_simp
            with_reducible rfl
          rotate_left
          · simp only [Act.put, List.setIfInBounds_toArray, List.set_cons_zero, List.set_cons_succ, i64_w, i32_w]
            rfl
          refine pure_ (i := 2) (N := some 26) (v := ?_) (a' := ?_) #[true, true, true, false, false, false, false, false, false, false, false, false] rfl rfl (by kernel_rfl) (fun _ _ _ h => h) (Or.inl ⟨by rfl, ?_⟩) ?_ ?_
          rotate_left
          · intro w'
            go_simp
            with_reducible rfl
          rotate_left
          · simp only [Act.put, List.setIfInBounds_toArray, List.set_cons_zero, List.set_cons_succ, i64_w, i32_w]
            rfl
          refine pure_ (i := 7) (N := some 31) (v := ?_) (a' := ?_) #[true, true, true, false, false, false, false, true, false, false, false, false] rfl rfl (by kernel_rfl) (fun _ _ _ h => h) (Or.inl ⟨by rfl, ?_⟩) ?_ ?_
          rotate_left
          · intro w'
            go_simp
            with_reducible rfl
          rotate_left
          · simp only [Act.put, List.setIfInBounds_toArray, List.set_cons_zero, List.set_cons_succ, i64_w, i32_w]
            rfl
          refine pure_ (i := 8) (N := some 32) (v := ?_) (a' := ?_) #[true, true, true, false, false, false, false, true, true, false, false, false] rfl rfl (by kernel_rfl) (fun _ _ _ h => h) (Or.inl ⟨by rfl, ?_⟩) ?_ ?_
          rotate_left
          · intro w'
            go_simp
            with_reducible rfl
          rotate_left
          · simp only [Act.put, List.setIfInBounds_toArray, List.set_cons_zero, List.set_cons_succ, i64_w, i32_w]
            rfl
          refine take_ (i := 3) (N := some 27) (v := ?_) (a' := ?_) #[true, true, true, true, false, false, false, true, true, false, false, false] rfl rfl (by kernel_rfl) (fun _ _ _ h => h) (Or.inl ⟨by rfl, ?_⟩) hHeld ?_ ?_
          rotate_left
          · rintro w' ⟨s0, s1, s2, s3, s4, s5, s6, s7, s8, s9, s10, s11, s12, s13, s14, s15, s16, s17, s18⟩
            go_simp
            with_reducible rfl
          rotate_left
          · simp only [Act.put, List.setIfInBounds_toArray, List.set_cons_zero, List.set_cons_succ, i64_w, i32_w]
            rfl
          refine pure_ (i := 4) (N := some 28) (v := ?_) (a' := ?_) #[true, true, true, true, true, false, false, true, true, false, false, false] rfl rfl (by kernel_rfl) (fun _ _ _ h => h) (Or.inl ⟨by rfl, ?_⟩) ?_ ?_
          rotate_left
          · intro w'
            go_simp
            with_reducible rfl
          rotate_left
          · simp only [Act.put, List.setIfInBounds_toArray, List.set_cons_zero, List.set_cons_succ, i64_w, i32_w]
            rfl
          refine take_ (i := 5) (N := some 29) (v := ?_) (a' := ?_) #[true, true, true, true, true, true, false, true, true, false, false, false] rfl rfl (by kernel_rfl) (fun _ _ _ h => h) (Or.inl ⟨by rfl, ?_⟩) hHeld ?_ ?_
          rotate_left
          · rintro w' ⟨s0, s1, s2, s3, s4, s5, s6, s7, s8, s9, s10, s11, s12, s13, s14, s15, s16, s17, s18⟩
            go_simp
            with_reducible rfl
          rotate_left
          · simp only [Act.put, List.setIfInBounds_toArray, List.set_cons_zero, List.set_cons_succ, i64_w, i32_w]
            rfl
          refine take_ (i := 9) (N := some 33) (v := ?_) (a' := ?_) #[true, true, true, true, true, true, false, true, true, true, false, false] rfl rfl (by kernel_rfl) (fun _ _ _ h => h) (Or.inl ⟨by rfl, ?_⟩) hHeld ?_ ?_
          rotate_left
          · rintro w' ⟨s0, s1, s2, s3, s4, s5, s6, s7, s8, s9, s10, s11, s12, s13, s14, s15, s16, s17, s18⟩
            go_simp
            with_reducible rfl
          rotate_left
          · simp only [Act.put, List.setIfInBounds_toArray, List.set_cons_zero, List.set_cons_succ, i64_w, i32_w]
            rfl
          refine one_ (i := 6) (N := some 30) #[true, true, true, true, true, true, true, true, true, true, false, false] rfl rfl (by kernel_rfl) (by decide) (fun K hK => ?_)
          refine goes_ Tryd.func111 (by kernel_rfl) rfl #[.agg #[.int .u64 a', .int .u64 b', .int .u64 c', .string s', .string m', .string o']] (by rfl) rfl rfl (by simp only [List.map_toArray, List.map_cons, List.map_nil]; rfl) ?_
          with_reducible refine (Major_any a' b' c' s' m' o' _).mono ?_
          rintro e w3 ⟨rfl, hb⟩
          refine ⟨_, rfl, ?_⟩
          refine hK.out _ _ (all_on hb hHeld) (fun hHeld => ?_)
          clear hK K
          refine norm_ (a' := ?_) ?_ ?_
          rotate_left
          · show Act.put _ (some 30) _ = _
            simp only [Act.put, List.setIfInBounds_toArray, List.set_cons_zero, List.set_cons_succ, i64_w, i32_w]
            rfl
          refine one_ (i := 10) (N := some 34) #[true, true, true, true, true, true, true, true, true, true, true, false] rfl rfl (by kernel_rfl) (by decide) (fun K hK => ?_)
          refine goes_ Tryd.func111 (by kernel_rfl) rfl #[.agg #[.int .u64 a, .int .u64 b, .int .u64 c, .string s, .string m, .string o]] (by rfl) rfl rfl (by simp only [List.map_toArray, List.map_cons, List.map_nil]; rfl) ?_
          with_reducible refine (Major_any a b c s m o _).mono ?_
          rintro e w3 ⟨rfl, hb⟩
          refine ⟨_, rfl, ?_⟩
          refine hK.out _ _ (all_on hb hHeld) (fun hHeld => ?_)
          clear hK K
          refine norm_ (a' := ?_) ?_ ?_
          rotate_left
          · show Act.put _ (some 34) _ = _
            simp only [Act.put, List.setIfInBounds_toArray, List.set_cons_zero, List.set_cons_succ, i64_w, i32_w]
            rfl
          refine pure_ (i := 11) (N := some 35) (v := ?_) (a' := ?_) #[true, true, true, true, true, true, true, true, true, true, true, true] rfl rfl (by kernel_rfl) (fun _ _ _ h => h) (Or.inl ⟨by rfl, ?_⟩) ?_ ?_
          rotate_left
          · intro w'
            go_simp
            with_reducible rfl
          rotate_left
          · simp only [Act.put, List.setIfInBounds_toArray, List.set_cons_zero, List.set_cons_succ, i64_w, i32_w]
            rfl
          refine done_ (by kernel_rfl) ?_
          go_wp2_with fail
          go_meet
          exact ⟨by simp, Lib.hid hHeld⟩
        case rest =>
          obtain ⟨rfl, HTy⟩ := hcut
          clear HTx h0 h1 h2 h3 h4 h5 k0 k1 k2 k3 k4 k5 j0 j1 j2 j3 j4 j5 hh
          have HTx := HTy
          clear HTy
          obtain ⟨h0, h1, h2, h3, h4, h5, k0, k1, k2, k3, k4, k5, j0, j1, j2, j3, j4, j5, hh⟩ := HTx.out
          cases e1 : (a' != a)
          · skip
            go_upto_region 6 with fail
            go_cut [54] (fun t W => t = .bool ((b' != b) && !md) ∧ Hid (All w p q z a b c a' b' c' s m o s' m' o' g f md true pd W))
            case first =>
              clear h0 h1 h2 h3 h4 h5 k0 k1 k2 k3 k4 k5 j0 j1 j2 j3 j4 j5 hh
              cases f1 : (b' != b)
              · skip
                refine start_ (n := 19) (S := fun w' => All w p q z a b c a' b' c' s m o s' m' o' g f md true pd w') (ds := []) #[false, false, false, false, false, false, false, false, false, false, false, false, false, false, false, false, false, false, false] (by kernel_rfl) rfl rfl (all_on (drew_below _) HTx.out) (fun hHeld => ?_)
                refine pure_ (i := 0) (N := some 36) (v := ?_) (a' := ?_) #[true, false, false, false, false, false, false, false, false, false, false, false, false, false, false, false, false, false, false] rfl rfl (by kernel_rfl) (fun _ _ _ h => h) (Or.inl ⟨by rfl, ?_⟩) ?_ ?_
                rotate_left
                · intro w'
                  go_simp
                  with_reducible rfl
                rotate_left
                · simp only [Act.put, List.setIfInBounds_toArray, List.set_cons_zero, List.set_cons_succ, i64_w, i32_w]
                  rfl
                refine pure_ (i := 1) (N := some 37) (v := ?_) (a' := ?_) #[true, true, false, false, false, false, false, false, false, false, false, false, false, false, false, false, false, false, false] rfl rfl (by kernel_rfl) (fun _ _ _ h => h) (Or.inl ⟨by rfl, ?_⟩) ?_ ?_
                rotate_left
                · intro w'
                  go_simp
                  with_reducible rfl
                rotate_left
                · simp only [Act.put, List.setIfInBounds_toArray, List.set_cons_zero, List.set_cons_succ, i64_w, i32_w]
                  rfl
                refine pure_ (i := 2) (N := some 38) (v := ?_) (a' := ?_) #[true, true, true, false, false, false, false, false, false, false, false, false, false, false, false, false, false, false, false] rfl rfl (by kernel_rfl) (fun _ _ _ h => h) (Or.inl ⟨by rfl, ?_⟩) ?_ ?_
                rotate_left
                · intro w'
                  go_simp
                  with_reducible rfl
                rotate_left
                · simp only [Act.put, List.setIfInBounds_toArray, List.set_cons_zero, List.set_cons_succ, i64_w, i32_w]
                  rfl
                refine pure_ (i := 7) (N := some 43) (v := ?_) (a' := ?_) #[true, true, true, false, false, false, false, true, false, false, false, false, false, false, false, false, false, false, false] rfl rfl (by kernel_rfl) (fun _ _ _ h => h) (Or.inl ⟨by rfl, ?_⟩) ?_ ?_
                rotate_left
                · intro w'
                  go_simp
                  with_reducible rfl
                rotate_left
                · simp only [Act.put, List.setIfInBounds_toArray, List.set_cons_zero, List.set_cons_succ, i64_w, i32_w]
                  rfl
                refine pure_ (i := 8) (N := some 44) (v := ?_) (a' := ?_) #[true, true, true, false, false, false, false, true, true, false, false, false, false, false, false, false, false, false, false] rfl rfl (by kernel_rfl) (fun _ _ _ h => h) (Or.inl ⟨by rfl, ?_⟩) ?_ ?_
                rotate_left
                · intro w'
                  go_simp
                  with_reducible rfl
                rotate_left
                · simp only [Act.put, List.setIfInBounds_toArray, List.set_cons_zero, List.set_cons_succ, i64_w, i32_w]
                  rfl
                refine take_ (i := 3) (N := some 39) (v := ?_) (a' := ?_) #[true, true, true, true, false, false, false, true, true, false, false, false, false, false, false, false, false, false, false] rfl rfl (by kernel_rfl) (fun _ _ _ h => h) (Or.inl ⟨by rfl, ?_⟩) hHeld ?_ ?_
                rotate_left
                · rintro w' ⟨s0, s1, s2, s3, s4, s5, s6, s7, s8, s9, s10, s11, s12, s13, s14, s15, s16, s17, s18⟩
                  go_simp
                  with_reducible rfl
                rotate_left
                · simp only [Act.put, List.setIfInBounds_toArray, List.set_cons_zero, List.set_cons_succ, i64_w, i32_w]
                  rfl
                refine pure_ (i := 4) (N := some 40) (v := ?_) (a' := ?_) #[true, true, true, true, true, false, false, true, true, false, false, false, false, false, false, false, false, false, false] rfl rfl (by kernel_rfl) (fun _ _ _ h => h) (Or.inl ⟨by rfl, ?_⟩) ?_ ?_
                rotate_left
                · intro w'
                  go_simp
                  with_reducible rfl
                rotate_left
                · simp only [Act.put, List.setIfInBounds_toArray, List.set_cons_zero, List.set_cons_succ, i64_w, i32_w]
                  rfl
                refine take_ (i := 5) (N := some 41) (v := ?_) (a' := ?_) #[true, true, true, true, true, true, false, true, true, false, false, false, false, false, false, false, false, false, false] rfl rfl (by kernel_rfl) (fun _ _ _ h => h) (Or.inl ⟨by rfl, ?_⟩) hHeld ?_ ?_
                rotate_left
                · rintro w' ⟨s0, s1, s2, s3, s4, s5, s6, s7, s8, s9, s10, s11, s12, s13, s14, s15, s16, s17, s18⟩
                  go_simp
                  with_reducible rfl
                rotate_left
                · simp only [Act.put, List.setIfInBounds_toArray, List.set_cons_zero, List.set_cons_succ, i64_w, i32_w]
                  rfl
                refine take_ (i := 9) (N := some 45) (v := ?_) (a' := ?_) #[true, true, true, true, true, true, false, true, true, true, false, false, false, false, false, false, false, false, false] rfl rfl (by kernel_rfl) (fun _ _ _ h => h) (Or.inl ⟨by rfl, ?_⟩) hHeld ?_ ?_
                rotate_left
                · rintro w' ⟨s0, s1, s2, s3, s4, s5, s6, s7, s8, s9, s10, s11, s12, s13, s14, s15, s16, s17, s18⟩
                  go_simp
                  with_reducible rfl
                rotate_left
                · simp only [Act.put, List.setIfInBounds_toArray, List.set_cons_zero, List.set_cons_succ, i64_w, i32_w]
                  rfl
                refine one_ (i := 6) (N := some 42) #[true, true, true, true, true, true, true, true, true, true, false, false, false, false, false, false, false, false, false] rfl rfl (by kernel_rfl) (by decide) (fun K hK => ?_)
                refine goes_ Tryd.func112 (by kernel_rfl) rfl #[.agg #[.int .u64 a', .int .u64 b', .int .u64 c', .string s', .string m', .string o']] (by rfl) rfl rfl (by simp only [List.map_toArray, List.map_cons, List.map_nil]; rfl) ?_
                with_reducible refine (Minor_any a' b' c' s' m' o' _).mono ?_
                rintro e w3 ⟨rfl, hb⟩
                refine ⟨_, rfl, ?_⟩
                refine hK.out _ _ (all_on hb hHeld) (fun hHeld => ?_)
                clear hK K
                refine norm_ (a' := ?_) ?_ ?_
                rotate_left
                · show Act.put _ (some 42) _ = _
                  simp only [Act.put, List.setIfInBounds_toArray, List.set_cons_zero, List.set_cons_succ, i64_w, i32_w]
                  rfl
                refine one_ (i := 10) (N := some 46) #[true, true, true, true, true, true, true, true, true, true, true, false, false, false, false, false, false, false, false] rfl rfl (by kernel_rfl) (by decide) (fun K hK => ?_)
                refine goes_ Tryd.func112 (by kernel_rfl) rfl #[.agg #[.int .u64 a, .int .u64 b, .int .u64 c, .string s, .string m, .string o]] (by rfl) rfl rfl (by simp only [List.map_toArray, List.map_cons, List.map_nil]; rfl) ?_
                with_reducible refine (Minor_any a b c s m o _).mono ?_
                rintro e w3 ⟨rfl, hb⟩
                refine ⟨_, rfl, ?_⟩
                refine hK.out _ _ (all_on hb hHeld) (fun hHeld => ?_)
                clear hK K
                refine norm_ (a' := ?_) ?_ ?_
                rotate_left
                · show Act.put _ (some 46) _ = _
                  simp only [Act.put, List.setIfInBounds_toArray, List.set_cons_zero, List.set_cons_succ, i64_w, i32_w]
                  rfl
                refine pure_ (i := 11) (N := some 47) (v := ?_) (a' := ?_) #[true, true, true, true, true, true, true, true, true, true, true, true, false, false, false, false, false, false, false] rfl rfl (by kernel_rfl) (fun _ _ _ h => h) (Or.inl ⟨by rfl, ?_⟩) ?_ ?_
                rotate_left
                · intro w'
                  go_simp
                  with_reducible rfl
                rotate_left
                · simp only [Act.put, List.setIfInBounds_toArray, List.set_cons_zero, List.set_cons_succ, i64_w, i32_w]
                  rfl
                refine pure_ (i := 12) (N := some 48) (v := ?_) (a' := ?_) #[true, true, true, true, true, true, true, true, true, true, true, true, true, false, false, false, false, false, false] rfl rfl (by kernel_rfl) (fun _ _ _ h => h) (Or.inl ⟨by rfl, ?_⟩) ?_ ?_
                rotate_left
                · intro w'
                  go_simp
                  with_reducible rfl
                rotate_left
                · simp only [Act.put, List.setIfInBounds_toArray, List.set_cons_zero, List.set_cons_succ, i64_w, i32_w]
                  rfl
                refine pure_ (i := 13) (N := some 49) (v := undef) (a' := ?_) #[true, true, true, true, true, true, true, true, true, true, true, true, true, true, false, false, false, false, false] rfl rfl (by kernel_rfl) (fun _ _ _ h => h) (Or.inr ⟨by rfl, rfl⟩) ?_ ?_
                rotate_left
                · simp only [Act.put, List.setIfInBounds_toArray, List.set_cons_zero, List.set_cons_succ, i64_w, i32_w]
                  rfl
                refine pure_ (i := 14) (N := some 50) (v := undef) (a' := ?_) #[true, true, true, true, true, true, true, true, true, true, true, true, true, true, true, false, false, false, false] rfl rfl (by kernel_rfl) (fun _ _ _ h => h) (Or.inr ⟨by rfl, rfl⟩) ?_ ?_
                rotate_left
                · simp only [Act.put, List.setIfInBounds_toArray, List.set_cons_zero, List.set_cons_succ, i64_w, i32_w]
                  rfl
                refine pure_ (i := 15) (N := some 51) (v := undef) (a' := ?_) #[true, true, true, true, true, true, true, true, true, true, true, true, true, true, true, true, false, false, false] rfl rfl (by kernel_rfl) (fun _ _ _ h => h) (Or.inr ⟨by rfl, rfl⟩) ?_ ?_
                rotate_left
                · simp only [Act.put, List.setIfInBounds_toArray, List.set_cons_zero, List.set_cons_succ, i64_w, i32_w]
                  rfl
                refine pure_ (i := 16) (N := some 52) (v := undef) (a' := ?_) #[true, true, true, true, true, true, true, true, true, true, true, true, true, true, true, true, true, false, false] rfl rfl (by kernel_rfl) (fun _ _ _ h => h) (Or.inr ⟨by rfl, rfl⟩) ?_ ?_
                rotate_left
                · simp only [Act.put, List.setIfInBounds_toArray, List.set_cons_zero, List.set_cons_succ, i64_w, i32_w]
                  rfl
                refine pure_ (i := 17) (N := some 53) (v := undef) (a' := ?_) #[true, true, true, true, true, true, true, true, true, true, true, true, true, true, true, true, true, true, false] rfl rfl (by kernel_rfl) (fun _ _ _ h => h) (Or.inr ⟨by rfl, rfl⟩) ?_ ?_
                rotate_left
                · simp only [Act.put, List.setIfInBounds_toArray, List.set_cons_zero, List.set_cons_succ, i64_w, i32_w]
                  rfl
                refine pure_ (i := 18) (N := some 54) (v := ?_) (a' := ?_) #[true, true, true, true, true, true, true, true, true, true, true, true, true, true, true, true, true, true, true] rfl rfl (by kernel_rfl) (fun _ _ _ h => h) (Or.inl ⟨by rfl, ?_⟩) ?_ ?_
                rotate_left
                · intro w'
                  go_simp
                  with_reducible rfl
                rotate_left
                · simp only [Act.put, List.setIfInBounds_toArray, List.set_cons_zero, List.set_cons_succ, i64_w, i32_w]
                  rfl
                refine done_ (by kernel_rfl) ?_
                go_wp2_with fail
                go_meet
                exact ⟨by simp [e1, f1], Lib.hid hHeld⟩
              · skip
                refine start_ (n := 19) (S := fun w' => All w p q z a b c a' b' c' s m o s' m' o' g f md true pd w') (ds := []) #[false, false, false, false, false, false, false, false, false, false, false, false, false, false, false, false, false, false, false] (by kernel_rfl) rfl rfl (all_on (drew_below _) HTx.out) (fun hHeld => ?_)
                refine pure_ (i := 0) (N := some 36) (v := ?_) (a' := ?_) #[true, false, false, false, false, false, false, false, false, false, false, false, false, false, false, false, false, false, false] rfl rfl (by kernel_rfl) (fun _ _ _ h => h) (Or.inl ⟨by rfl, ?_⟩) ?_ ?_
                rotate_left
                · intro w'
                  go_simp
                  with_reducible rfl
                rotate_left
                · simp only [Act.put, List.setIfInBounds_toArray, List.set_cons_zero, List.set_cons_succ, i64_w, i32_w]
                  rfl
                refine pure_ (i := 1) (N := some 37) (v := ?_) (a' := ?_) #[true, true, false, false, false, false, false, false, false, false, false, false, false, false, false, false, false, false, false] rfl rfl (by kernel_rfl) (fun _ _ _ h => h) (Or.inl ⟨by rfl, ?_⟩) ?_ ?_
                rotate_left
                · intro w'
                  go_simp
                  with_reducible rfl
                rotate_left
                · simp only [Act.put, List.setIfInBounds_toArray, List.set_cons_zero, List.set_cons_succ, i64_w, i32_w]
                  rfl
                refine pure_ (i := 2) (N := some 38) (v := ?_) (a' := ?_) #[true, true, true, false, false, false, false, false, false, false, false, false, false, false, false, false, false, false, false] rfl rfl (by kernel_rfl) (fun _ _ _ h => h) (Or.inl ⟨by rfl, ?_⟩) ?_ ?_
                rotate_left
                · intro w'
                  go_simp
                  with_reducible rfl
                rotate_left
                · simp only [Act.put, List.setIfInBounds_toArray, List.set_cons_zero, List.set_cons_succ, i64_w, i32_w]
                  rfl
                refine pure_ (i := 7) (N := some 43) (v := ?_) (a' := ?_) #[true, true, true, false, false, false, false, true, false, false, false, false, false, false, false, false, false, false, false] rfl rfl (by kernel_rfl) (fun _ _ _ h => h) (Or.inl ⟨by rfl, ?_⟩) ?_ ?_
                rotate_left
                · intro w'
                  go_simp
                  with_reducible rfl
                rotate_left
                · simp only [Act.put, List.setIfInBounds_toArray, List.set_cons_zero, List.set_cons_succ, i64_w, i32_w]
                  rfl
                refine pure_ (i := 8) (N := some 44) (v := ?_) (a' := ?_) #[true, true, true, false, false, false, false, true, true, false, false, false, false, false, false, false, false, false, false] rfl rfl (by kernel_rfl) (fun _ _ _ h => h) (Or.inl ⟨by rfl, ?_⟩) ?_ ?_
                rotate_left
                · intro w'
                  go_simp
                  with_reducible rfl
                rotate_left
                · simp only [Act.put, List.setIfInBounds_toArray, List.set_cons_zero, List.set_cons_succ, i64_w, i32_w]
                  rfl
                refine take_ (i := 3) (N := some 39) (v := ?_) (a' := ?_) #[true, true, true, true, false, false, false, true, true, false, false, false, false, false, false, false, false, false, false] rfl rfl (by kernel_rfl) (fun _ _ _ h => h) (Or.inl ⟨by rfl, ?_⟩) hHeld ?_ ?_
                rotate_left
                · rintro w' ⟨s0, s1, s2, s3, s4, s5, s6, s7, s8, s9, s10, s11, s12, s13, s14, s15, s16, s17, s18⟩
                  go_simp
                  with_reducible rfl
                rotate_left
                · simp only [Act.put, List.setIfInBounds_toArray, List.set_cons_zero, List.set_cons_succ, i64_w, i32_w]
                  rfl
                refine pure_ (i := 4) (N := some 40) (v := ?_) (a' := ?_) #[true, true, true, true, true, false, false, true, true, false, false, false, false, false, false, false, false, false, false] rfl rfl (by kernel_rfl) (fun _ _ _ h => h) (Or.inl ⟨by rfl, ?_⟩) ?_ ?_
                rotate_left
                · intro w'
                  go_simp
                  with_reducible rfl
                rotate_left
                · simp only [Act.put, List.setIfInBounds_toArray, List.set_cons_zero, List.set_cons_succ, i64_w, i32_w]
                  rfl
                refine take_ (i := 5) (N := some 41) (v := ?_) (a' := ?_) #[true, true, true, true, true, true, false, true, true, false, false, false, false, false, false, false, false, false, false] rfl rfl (by kernel_rfl) (fun _ _ _ h => h) (Or.inl ⟨by rfl, ?_⟩) hHeld ?_ ?_
                rotate_left
                · rintro w' ⟨s0, s1, s2, s3, s4, s5, s6, s7, s8, s9, s10, s11, s12, s13, s14, s15, s16, s17, s18⟩
                  go_simp
                  with_reducible rfl
                rotate_left
                · simp only [Act.put, List.setIfInBounds_toArray, List.set_cons_zero, List.set_cons_succ, i64_w, i32_w]
                  rfl
                refine take_ (i := 9) (N := some 45) (v := ?_) (a' := ?_) #[true, true, true, true, true, true, false, true, true, true, false, false, false, false, false, false, false, false, false] rfl rfl (by kernel_rfl) (fun _ _ _ h => h) (Or.inl ⟨by rfl, ?_⟩) hHeld ?_ ?_
                rotate_left
                · rintro w' ⟨s0, s1, s2, s3, s4, s5, s6, s7, s8, s9, s10, s11, s12, s13, s14, s15, s16, s17, s18⟩
                  go_simp
                  with_reducible rfl
                rotate_left
                · simp only [Act.put, List.setIfInBounds_toArray, List.set_cons_zero, List.set_cons_succ, i64_w, i32_w]
                  rfl
                refine one_ (i := 6) (N := some 42) #[true, true, true, true, true, true, true, true, true, true, false, false, false, false, false, false, false, false, false] rfl rfl (by kernel_rfl) (by decide) (fun K hK => ?_)
                refine goes_ Tryd.func112 (by kernel_rfl) rfl #[.agg #[.int .u64 a', .int .u64 b', .int .u64 c', .string s', .string m', .string o']] (by rfl) rfl rfl (by simp only [List.map_toArray, List.map_cons, List.map_nil]; rfl) ?_
                with_reducible refine (Minor_any a' b' c' s' m' o' _).mono ?_
                rintro e w3 ⟨rfl, hb⟩
                refine ⟨_, rfl, ?_⟩
                refine hK.out _ _ (all_on hb hHeld) (fun hHeld => ?_)
                clear hK K
                refine norm_ (a' := ?_) ?_ ?_
                rotate_left
                · show Act.put _ (some 42) _ = _
                  simp only [Act.put, List.setIfInBounds_toArray, List.set_cons_zero, List.set_cons_succ, i64_w, i32_w]
                  rfl
                refine one_ (i := 10) (N := some 46) #[true, true, true, true, true, true, true, true, true, true, true, false, false, false, false, false, false, false, false] rfl rfl (by kernel_rfl) (by decide) (fun K hK => ?_)
                refine goes_ Tryd.func112 (by kernel_rfl) rfl #[.agg #[.int .u64 a, .int .u64 b, .int .u64 c, .string s, .string m, .string o]] (by rfl) rfl rfl (by simp only [List.map_toArray, List.map_cons, List.map_nil]; rfl) ?_
                with_reducible refine (Minor_any a b c s m o _).mono ?_
                rintro e w3 ⟨rfl, hb⟩
                refine ⟨_, rfl, ?_⟩
                refine hK.out _ _ (all_on hb hHeld) (fun hHeld => ?_)
                clear hK K
                refine norm_ (a' := ?_) ?_ ?_
                rotate_left
                · show Act.put _ (some 46) _ = _
                  simp only [Act.put, List.setIfInBounds_toArray, List.set_cons_zero, List.set_cons_succ, i64_w, i32_w]
                  rfl
                refine pure_ (i := 11) (N := some 47) (v := ?_) (a' := ?_) #[true, true, true, true, true, true, true, true, true, true, true, true, false, false, false, false, false, false, false] rfl rfl (by kernel_rfl) (fun _ _ _ h => h) (Or.inl ⟨by rfl, ?_⟩) ?_ ?_
                rotate_left
                · intro w'
                  go_simp
                  with_reducible rfl
                rotate_left
                · simp only [Act.put, List.setIfInBounds_toArray, List.set_cons_zero, List.set_cons_succ, i64_w, i32_w]
                  rfl
                refine pure_ (i := 12) (N := some 48) (v := ?_) (a' := ?_) #[true, true, true, true, true, true, true, true, true, true, true, true, true, false, false, false, false, false, false] rfl rfl (by kernel_rfl) (fun _ _ _ h => h) (Or.inl ⟨by rfl, ?_⟩) ?_ ?_
                rotate_left
                · intro w'
                  go_simp
                  with_reducible rfl
                rotate_left
                · simp only [Act.put, List.setIfInBounds_toArray, List.set_cons_zero, List.set_cons_succ, i64_w, i32_w]
                  rfl
                refine pure_ (i := 13) (N := some 49) (v := ?_) (a' := ?_) #[true, true, true, true, true, true, true, true, true, true, true, true, true, true, false, false, false, false, false] rfl rfl (by kernel_rfl) (fun _ _ _ h => h) (Or.inl ⟨by rfl, ?_⟩) ?_ ?_
                rotate_left
                · intro w'
                  go_simp
                  with_reducible rfl
                rotate_left
                · simp only [Act.put, List.setIfInBounds_toArray, List.set_cons_zero, List.set_cons_succ, i64_w, i32_w]
                  rfl
                refine pure_ (i := 14) (N := some 50) (v := ?_) (a' := ?_) #[true, true, true, true, true, true, true, true, true, true, true, true, true, true, true, false, false, false, false] rfl rfl (by kernel_rfl) (fun _ _ _ h => h) (Or.inl ⟨by rfl, ?_⟩) ?_ ?_
                rotate_left
                · intro w'
                  go_simp
                  with_reducible rfl
                rotate_left
                · simp only [Act.put, List.setIfInBounds_toArray, List.set_cons_zero, List.set_cons_succ, i64_w, i32_w]
                  rfl
                refine pure_ (i := 15) (N := some 51) (v := ?_) (a' := ?_) #[true, true, true, true, true, true, true, true, true, true, true, true, true, true, true, true, false, false, false] rfl rfl (by kernel_rfl) (fun _ _ _ h => h) (Or.inl ⟨by rfl, ?_⟩) ?_ ?_
                rotate_left
                · intro w'
                  go_simp
                  with_reducible rfl
                rotate_left
                · simp only [Act.put, List.setIfInBounds_toArray, List.set_cons_zero, List.set_cons_succ, i64_w, i32_w]
                  rfl
                refine take_ (i := 16) (N := some 52) (v := ?_) (a' := ?_) #[true, true, true, true, true, true, true, true, true, true, true, true, true, true, true, true, true, false, false] rfl rfl (by kernel_rfl) (fun _ _ _ h => h) (Or.inl ⟨by rfl, ?_⟩) hHeld ?_ ?_
                rotate_left
                · rintro w' ⟨s0, s1, s2, s3, s4, s5, s6, s7, s8, s9, s10, s11, s12, s13, s14, s15, s16, s17, s18⟩
                  go_simp
                  with_reducible rfl
                rotate_left
                · simp only [Act.put, List.setIfInBounds_toArray, List.set_cons_zero, List.set_cons_succ, i64_w, i32_w]
                  rfl
                refine pure_ (i := 17) (N := some 53) (v := ?_) (a' := ?_) #[true, true, true, true, true, true, true, true, true, true, true, true, true, true, true, true, true, true, false] rfl rfl (by kernel_rfl) (fun _ _ _ h => h) (Or.inl ⟨by rfl, ?_⟩) ?_ ?_
                rotate_left
                · intro w'
                  go_simp
                  with_reducible rfl
                rotate_left
                · simp only [Act.put, List.setIfInBounds_toArray, List.set_cons_zero, List.set_cons_succ, i64_w, i32_w]
                  rfl
                refine pure_ (i := 18) (N := some 54) (v := ?_) (a' := ?_) #[true, true, true, true, true, true, true, true, true, true, true, true, true, true, true, true, true, true, true] rfl rfl (by kernel_rfl) (fun _ _ _ h => h) (Or.inl ⟨by rfl, ?_⟩) ?_ ?_
                rotate_left
                · intro w'
                  go_simp
                  with_reducible rfl
                rotate_left
                · simp only [Act.put, List.setIfInBounds_toArray, List.set_cons_zero, List.set_cons_succ, i64_w, i32_w]
                  rfl
                refine done_ (by kernel_rfl) ?_
                go_wp2_with fail
                go_meet
                exact ⟨by simp [e1, f1], Lib.hid hHeld⟩
            case rest =>
              obtain ⟨rfl, HTy⟩ := hcut
              clear HTx h0 h1 h2 h3 h4 h5 k0 k1 k2 k3 k4 k5 j0 j1 j2 j3 j4 j5 hh
              have HTx := HTy
              clear HTy
              obtain ⟨h0, h1, h2, h3, h4, h5, k0, k1, k2, k3, k4, k5, j0, j1, j2, j3, j4, j5, hh⟩ := HTx.out
              cases e2 : (b' != b) && !md
              · skip
                cases md
                · skip
                  go_upto_region 10 with fail
                  go_cut [78] (fun t W => t = .bool ((c' != c) && !pd) ∧ Hid (All w p q z a b c a' b' c' s m o s' m' o' g f false true pd W))
                  case first =>
                    clear h0 h1 h2 h3 h4 h5 k0 k1 k2 k3 k4 k5 j0 j1 j2 j3 j4 j5 hh
                    cases f1 : (c' != c)
                    · skip
                      refine start_ (n := 19) (S := fun w' => All w p q z a b c a' b' c' s m o s' m' o' g f false true pd w') (ds := []) #[false, false, false, false, false, false, false, false, false, false, false, false, false, false, false, false, false, false, false] (by kernel_rfl) rfl rfl (all_on (drew_below _) HTx.out) (fun hHeld => ?_)
                      refine pure_ (i := 0) (N := some 60) (v := ?_) (a' := ?_) #[true, false, false, false, false, false, false, false, false, false, false, false, false, false, false, false, false, false, false] rfl rfl (by kernel_rfl) (fun _ _ _ h => h) (Or.inl ⟨by rfl, ?_⟩) ?_ ?_
                      rotate_left
                      · intro w'
                        go_simp
                        with_reducible rfl
                      rotate_left
                      · simp only [Act.put, List.setIfInBounds_toArray, List.set_cons_zero, List.set_cons_succ, i64_w, i32_w]
                        rfl
                      refine pure_ (i := 1) (N := some 61) (v := ?_) (a' := ?_) #[true, true, false, false, false, false, false, false, false, false, false, false, false, false, false, false, false, false, false] rfl rfl (by kernel_rfl) (fun _ _ _ h => h) (Or.inl ⟨by rfl, ?_⟩) ?_ ?_
                      rotate_left
                      · intro w'
                        go_simp
                        with_reducible rfl
                      rotate_left
                      · simp only [Act.put, List.setIfInBounds_toArray, List.set_cons_zero, List.set_cons_succ, i64_w, i32_w]
                        rfl
                      refine pure_ (i := 2) (N := some 62) (v := ?_) (a' := ?_) #[true, true, true, false, false, false, false, false, false, false, false, false, false, false, false, false, false, false, false] rfl rfl (by kernel_rfl) (fun _ _ _ h => h) (Or.inl ⟨by rfl, ?_⟩) ?_ ?_
                      rotate_left
                      · intro w'
                        go_simp
                        with_reducible rfl
                      rotate_left
                      · simp only [Act.put, List.setIfInBounds_toArray, List.set_cons_zero, List.set_cons_succ, i64_w, i32_w]
                        rfl
                      refine pure_ (i := 7) (N := some 67) (v := ?_) (a' := ?_) #[true, true, true, false, false, false, false, true, false, false, false, false, false, false, false, false, false, false, false] rfl rfl (by kernel_rfl) (fun _ _ _ h => h) (Or.inl ⟨by rfl, ?_⟩) ?_ ?_
                      rotate_left
                      · intro w'
                        go_simp
                        with_reducible rfl
                      rotate_left
                      · simp only [Act.put, List.setIfInBounds_toArray, List.set_cons_zero, List.set_cons_succ, i64_w, i32_w]
                        rfl
                      refine pure_ (i := 8) (N := some 68) (v := ?_) (a' := ?_) #[true, true, true, false, false, false, false, true, true, false, false, false, false, false, false, false, false, false, false] rfl rfl (by kernel_rfl) (fun _ _ _ h => h) (Or.inl ⟨by rfl, ?_⟩) ?_ ?_
                      rotate_left
                      · intro w'
                        go_simp
                        with_reducible rfl
                      rotate_left
                      · simp only [Act.put, List.setIfInBounds_toArray, List.set_cons_zero, List.set_cons_succ, i64_w, i32_w]
                        rfl
                      refine take_ (i := 3) (N := some 63) (v := ?_) (a' := ?_) #[true, true, true, true, false, false, false, true, true, false, false, false, false, false, false, false, false, false, false] rfl rfl (by kernel_rfl) (fun _ _ _ h => h) (Or.inl ⟨by rfl, ?_⟩) hHeld ?_ ?_
                      rotate_left
                      · rintro w' ⟨s0, s1, s2, s3, s4, s5, s6, s7, s8, s9, s10, s11, s12, s13, s14, s15, s16, s17, s18⟩
                        go_simp
                        with_reducible rfl
                      rotate_left
                      · simp only [Act.put, List.setIfInBounds_toArray, List.set_cons_zero, List.set_cons_succ, i64_w, i32_w]
                        rfl
                      refine pure_ (i := 4) (N := some 64) (v := ?_) (a' := ?_) #[true, true, true, true, true, false, false, true, true, false, false, false, false, false, false, false, false, false, false] rfl rfl (by kernel_rfl) (fun _ _ _ h => h) (Or.inl ⟨by rfl, ?_⟩) ?_ ?_
                      rotate_left
                      · intro w'
                        go_simp
                        with_reducible rfl
                      rotate_left
                      · simp only [Act.put, List.setIfInBounds_toArray, List.set_cons_zero, List.set_cons_succ, i64_w, i32_w]
                        rfl
                      refine take_ (i := 5) (N := some 65) (v := ?_) (a' := ?_) #[true, true, true, true, true, true, false, true, true, false, false, false, false, false, false, false, false, false, false] rfl rfl (by kernel_rfl) (fun _ _ _ h => h) (Or.inl ⟨by rfl, ?_⟩) hHeld ?_ ?_
                      rotate_left
                      · rintro w' ⟨s0, s1, s2, s3, s4, s5, s6, s7, s8, s9, s10, s11, s12, s13, s14, s15, s16, s17, s18⟩
                        go_simp
                        with_reducible rfl
                      rotate_left
                      · simp only [Act.put, List.setIfInBounds_toArray, List.set_cons_zero, List.set_cons_succ, i64_w, i32_w]
                        rfl
                      refine take_ (i := 9) (N := some 69) (v := ?_) (a' := ?_) #[true, true, true, true, true, true, false, true, true, true, false, false, false, false, false, false, false, false, false] rfl rfl (by kernel_rfl) (fun _ _ _ h => h) (Or.inl ⟨by rfl, ?_⟩) hHeld ?_ ?_
                      rotate_left
                      · rintro w' ⟨s0, s1, s2, s3, s4, s5, s6, s7, s8, s9, s10, s11, s12, s13, s14, s15, s16, s17, s18⟩
                        go_simp
                        with_reducible rfl
                      rotate_left
                      · simp only [Act.put, List.setIfInBounds_toArray, List.set_cons_zero, List.set_cons_succ, i64_w, i32_w]
                        rfl
                      refine one_ (i := 6) (N := some 66) #[true, true, true, true, true, true, true, true, true, true, false, false, false, false, false, false, false, false, false] rfl rfl (by kernel_rfl) (by decide) (fun K hK => ?_)
                      refine goes_ Tryd.func113 (by kernel_rfl) rfl #[.agg #[.int .u64 a', .int .u64 b', .int .u64 c', .string s', .string m', .string o']] (by rfl) rfl rfl (by simp only [List.map_toArray, List.map_cons, List.map_nil]; rfl) ?_
                      with_reducible refine (Patch_any a' b' c' s' m' o' _).mono ?_
                      rintro e w3 ⟨rfl, hb⟩
                      refine ⟨_, rfl, ?_⟩
                      refine hK.out _ _ (all_on hb hHeld) (fun hHeld => ?_)
                      clear hK K
                      refine norm_ (a' := ?_) ?_ ?_
                      rotate_left
                      · show Act.put _ (some 66) _ = _
                        simp only [Act.put, List.setIfInBounds_toArray, List.set_cons_zero, List.set_cons_succ, i64_w, i32_w]
                        rfl
                      refine one_ (i := 10) (N := some 70) #[true, true, true, true, true, true, true, true, true, true, true, false, false, false, false, false, false, false, false] rfl rfl (by kernel_rfl) (by decide) (fun K hK => ?_)
                      refine goes_ Tryd.func113 (by kernel_rfl) rfl #[.agg #[.int .u64 a, .int .u64 b, .int .u64 c, .string s, .string m, .string o]] (by rfl) rfl rfl (by simp only [List.map_toArray, List.map_cons, List.map_nil]; rfl) ?_
                      with_reducible refine (Patch_any a b c s m o _).mono ?_
                      rintro e w3 ⟨rfl, hb⟩
                      refine ⟨_, rfl, ?_⟩
                      refine hK.out _ _ (all_on hb hHeld) (fun hHeld => ?_)
                      clear hK K
                      refine norm_ (a' := ?_) ?_ ?_
                      rotate_left
                      · show Act.put _ (some 70) _ = _
                        simp only [Act.put, List.setIfInBounds_toArray, List.set_cons_zero, List.set_cons_succ, i64_w, i32_w]
                        rfl
                      refine pure_ (i := 11) (N := some 71) (v := ?_) (a' := ?_) #[true, true, true, true, true, true, true, true, true, true, true, true, false, false, false, false, false, false, false] rfl rfl (by kernel_rfl) (fun _ _ _ h => h) (Or.inl ⟨by rfl, ?_⟩) ?_ ?_
                      rotate_left
                      · intro w'
                        go_simp
                        with_reducible rfl
                      rotate_left
                      · simp only [Act.put, List.setIfInBounds_toArray, List.set_cons_zero, List.set_cons_succ, i64_w, i32_w]
                        rfl
                      refine pure_ (i := 12) (N := some 72) (v := ?_) (a' := ?_) #[true, true, true, true, true, true, true, true, true, true, true, true, true, false, false, false, false, false, false] rfl rfl (by kernel_rfl) (fun _ _ _ h => h) (Or.inl ⟨by rfl, ?_⟩) ?_ ?_
                      rotate_left
                      · intro w'
                        go_simp
                        with_reducible rfl
                      rotate_left
                      · simp only [Act.put, List.setIfInBounds_toArray, List.set_cons_zero, List.set_cons_succ, i64_w, i32_w]
                        rfl
                      refine pure_ (i := 13) (N := some 73) (v := undef) (a' := ?_) #[true, true, true, true, true, true, true, true, true, true, true, true, true, true, false, false, false, false, false] rfl rfl (by kernel_rfl) (fun _ _ _ h => h) (Or.inr ⟨by rfl, rfl⟩) ?_ ?_
                      rotate_left
                      · simp only [Act.put, List.setIfInBounds_toArray, List.set_cons_zero, List.set_cons_succ, i64_w, i32_w]
                        rfl
                      refine pure_ (i := 14) (N := some 74) (v := undef) (a' := ?_) #[true, true, true, true, true, true, true, true, true, true, true, true, true, true, true, false, false, false, false] rfl rfl (by kernel_rfl) (fun _ _ _ h => h) (Or.inr ⟨by rfl, rfl⟩) ?_ ?_
                      rotate_left
                      · simp only [Act.put, List.setIfInBounds_toArray, List.set_cons_zero, List.set_cons_succ, i64_w, i32_w]
                        rfl
                      refine pure_ (i := 15) (N := some 75) (v := undef) (a' := ?_) #[true, true, true, true, true, true, true, true, true, true, true, true, true, true, true, true, false, false, false] rfl rfl (by kernel_rfl) (fun _ _ _ h => h) (Or.inr ⟨by rfl, rfl⟩) ?_ ?_
                      rotate_left
                      · simp only [Act.put, List.setIfInBounds_toArray, List.set_cons_zero, List.set_cons_succ, i64_w, i32_w]
                        rfl
                      refine pure_ (i := 16) (N := some 76) (v := undef) (a' := ?_) #[true, true, true, true, true, true, true, true, true, true, true, true, true, true, true, true, true, false, false] rfl rfl (by kernel_rfl) (fun _ _ _ h => h) (Or.inr ⟨by rfl, rfl⟩) ?_ ?_
                      rotate_left
                      · simp only [Act.put, List.setIfInBounds_toArray, List.set_cons_zero, List.set_cons_succ, i64_w, i32_w]
                        rfl
                      refine pure_ (i := 17) (N := some 77) (v := undef) (a' := ?_) #[true, true, true, true, true, true, true, true, true, true, true, true, true, true, true, true, true, true, false] rfl rfl (by kernel_rfl) (fun _ _ _ h => h) (Or.inr ⟨by rfl, rfl⟩) ?_ ?_
                      rotate_left
                      · simp only [Act.put, List.setIfInBounds_toArray, List.set_cons_zero, List.set_cons_succ, i64_w, i32_w]
                        rfl
                      refine pure_ (i := 18) (N := some 78) (v := ?_) (a' := ?_) #[true, true, true, true, true, true, true, true, true, true, true, true, true, true, true, true, true, true, true] rfl rfl (by kernel_rfl) (fun _ _ _ h => h) (Or.inl ⟨by rfl, ?_⟩) ?_ ?_
                      rotate_left
                      · intro w'
                        go_simp
                        with_reducible rfl
                      rotate_left
                      · simp only [Act.put, List.setIfInBounds_toArray, List.set_cons_zero, List.set_cons_succ, i64_w, i32_w]
                        rfl
                      refine done_ (by kernel_rfl) ?_
                      go_wp2_with fail
                      go_meet
                      exact ⟨by simp [e1, e2, f1], Lib.hid hHeld⟩
                    · skip
                      refine start_ (n := 19) (S := fun w' => All w p q z a b c a' b' c' s m o s' m' o' g f false true pd w') (ds := []) #[false, false, false, false, false, false, false, false, false, false, false, false, false, false, false, false, false, false, false] (by kernel_rfl) rfl rfl (all_on (drew_below _) HTx.out) (fun hHeld => ?_)
                      refine pure_ (i := 0) (N := some 60) (v := ?_) (a' := ?_) #[true, false, false, false, false, false, false, false, false, false, false, false, false, false, false, false, false, false, false] rfl rfl (by kernel_rfl) (fun _ _ _ h => h) (Or.inl ⟨by rfl, ?_⟩) ?_ ?_
                      rotate_left
                      · intro w'
                        go_simp
                        with_reducible rfl
                      rotate_left
                      · simp only [Act.put, List.setIfInBounds_toArray, List.set_cons_zero, List.set_cons_succ, i64_w, i32_w]
                        rfl
                      refine pure_ (i := 1) (N := some 61) (v := ?_) (a' := ?_) #[true, true, false, false, false, false, false, false, false, false, false, false, false, false, false, false, false, false, false] rfl rfl (by kernel_rfl) (fun _ _ _ h => h) (Or.inl ⟨by rfl, ?_⟩) ?_ ?_
                      rotate_left
                      · intro w'
                        go_simp
                        with_reducible rfl
                      rotate_left
                      · simp only [Act.put, List.setIfInBounds_toArray, List.set_cons_zero, List.set_cons_succ, i64_w, i32_w]
                        rfl
                      refine pure_ (i := 2) (N := some 62) (v := ?_) (a' := ?_) #[true, true, true, false, false, false, false, false, false, false, false, false, false, false, false, false, false, false, false] rfl rfl (by kernel_rfl) (fun _ _ _ h => h) (Or.inl ⟨by rfl, ?_⟩) ?_ ?_
                      rotate_left
                      · intro w'
                        go_simp
                        with_reducible rfl
                      rotate_left
                      · simp only [Act.put, List.setIfInBounds_toArray, List.set_cons_zero, List.set_cons_succ, i64_w, i32_w]
                        rfl
                      refine pure_ (i := 7) (N := some 67) (v := ?_) (a' := ?_) #[true, true, true, false, false, false, false, true, false, false, false, false, false, false, false, false, false, false, false] rfl rfl (by kernel_rfl) (fun _ _ _ h => h) (Or.inl ⟨by rfl, ?_⟩) ?_ ?_
                      rotate_left
                      · intro w'
                        go_simp
                        with_reducible rfl
                      rotate_left
                      · simp only [Act.put, List.setIfInBounds_toArray, List.set_cons_zero, List.set_cons_succ, i64_w, i32_w]
                        rfl
                      refine pure_ (i := 8) (N := some 68) (v := ?_) (a' := ?_) #[true, true, true, false, false, false, false, true, true, false, false, false, false, false, false, false, false, false, false] rfl rfl (by kernel_rfl) (fun _ _ _ h => h) (Or.inl ⟨by rfl, ?_⟩) ?_ ?_
                      rotate_left
                      · intro w'
                        go_simp
                        with_reducible rfl
                      rotate_left
                      · simp only [Act.put, List.setIfInBounds_toArray, List.set_cons_zero, List.set_cons_succ, i64_w, i32_w]
                        rfl
                      refine take_ (i := 3) (N := some 63) (v := ?_) (a' := ?_) #[true, true, true, true, false, false, false, true, true, false, false, false, false, false, false, false, false, false, false] rfl rfl (by kernel_rfl) (fun _ _ _ h => h) (Or.inl ⟨by rfl, ?_⟩) hHeld ?_ ?_
                      rotate_left
                      · rintro w' ⟨s0, s1, s2, s3, s4, s5, s6, s7, s8, s9, s10, s11, s12, s13, s14, s15, s16, s17, s18⟩
                        go_simp
                        with_reducible rfl
                      rotate_left
                      · simp only [Act.put, List.setIfInBounds_toArray, List.set_cons_zero, List.set_cons_succ, i64_w, i32_w]
                        rfl
                      refine pure_ (i := 4) (N := some 64) (v := ?_) (a' := ?_) #[true, true, true, true, true, false, false, true, true, false, false, false, false, false, false, false, false, false, false] rfl rfl (by kernel_rfl) (fun _ _ _ h => h) (Or.inl ⟨by rfl, ?_⟩) ?_ ?_
                      rotate_left
                      · intro w'
                        go_simp
                        with_reducible rfl
                      rotate_left
                      · simp only [Act.put, List.setIfInBounds_toArray, List.set_cons_zero, List.set_cons_succ, i64_w, i32_w]
                        rfl
                      refine take_ (i := 5) (N := some 65) (v := ?_) (a' := ?_) #[true, true, true, true, true, true, false, true, true, false, false, false, false, false, false, false, false, false, false] rfl rfl (by kernel_rfl) (fun _ _ _ h => h) (Or.inl ⟨by rfl, ?_⟩) hHeld ?_ ?_
                      rotate_left
                      · rintro w' ⟨s0, s1, s2, s3, s4, s5, s6, s7, s8, s9, s10, s11, s12, s13, s14, s15, s16, s17, s18⟩
                        go_simp
                        with_reducible rfl
                      rotate_left
                      · simp only [Act.put, List.setIfInBounds_toArray, List.set_cons_zero, List.set_cons_succ, i64_w, i32_w]
                        rfl
                      refine take_ (i := 9) (N := some 69) (v := ?_) (a' := ?_) #[true, true, true, true, true, true, false, true, true, true, false, false, false, false, false, false, false, false, false] rfl rfl (by kernel_rfl) (fun _ _ _ h => h) (Or.inl ⟨by rfl, ?_⟩) hHeld ?_ ?_
                      rotate_left
                      · rintro w' ⟨s0, s1, s2, s3, s4, s5, s6, s7, s8, s9, s10, s11, s12, s13, s14, s15, s16, s17, s18⟩
                        go_simp
                        with_reducible rfl
                      rotate_left
                      · simp only [Act.put, List.setIfInBounds_toArray, List.set_cons_zero, List.set_cons_succ, i64_w, i32_w]
                        rfl
                      refine one_ (i := 6) (N := some 66) #[true, true, true, true, true, true, true, true, true, true, false, false, false, false, false, false, false, false, false] rfl rfl (by kernel_rfl) (by decide) (fun K hK => ?_)
                      refine goes_ Tryd.func113 (by kernel_rfl) rfl #[.agg #[.int .u64 a', .int .u64 b', .int .u64 c', .string s', .string m', .string o']] (by rfl) rfl rfl (by simp only [List.map_toArray, List.map_cons, List.map_nil]; rfl) ?_
                      with_reducible refine (Patch_any a' b' c' s' m' o' _).mono ?_
                      rintro e w3 ⟨rfl, hb⟩
                      refine ⟨_, rfl, ?_⟩
                      refine hK.out _ _ (all_on hb hHeld) (fun hHeld => ?_)
                      clear hK K
                      refine norm_ (a' := ?_) ?_ ?_
                      rotate_left
                      · show Act.put _ (some 66) _ = _
                        simp only [Act.put, List.setIfInBounds_toArray, List.set_cons_zero, List.set_cons_succ, i64_w, i32_w]
                        rfl
                      refine one_ (i := 10) (N := some 70) #[true, true, true, true, true, true, true, true, true, true, true, false, false, false, false, false, false, false, false] rfl rfl (by kernel_rfl) (by decide) (fun K hK => ?_)
                      refine goes_ Tryd.func113 (by kernel_rfl) rfl #[.agg #[.int .u64 a, .int .u64 b, .int .u64 c, .string s, .string m, .string o]] (by rfl) rfl rfl (by simp only [List.map_toArray, List.map_cons, List.map_nil]; rfl) ?_
                      with_reducible refine (Patch_any a b c s m o _).mono ?_
                      rintro e w3 ⟨rfl, hb⟩
                      refine ⟨_, rfl, ?_⟩
                      refine hK.out _ _ (all_on hb hHeld) (fun hHeld => ?_)
                      clear hK K
                      refine norm_ (a' := ?_) ?_ ?_
                      rotate_left
                      · show Act.put _ (some 70) _ = _
                        simp only [Act.put, List.setIfInBounds_toArray, List.set_cons_zero, List.set_cons_succ, i64_w, i32_w]
                        rfl
                      refine pure_ (i := 11) (N := some 71) (v := ?_) (a' := ?_) #[true, true, true, true, true, true, true, true, true, true, true, true, false, false, false, false, false, false, false] rfl rfl (by kernel_rfl) (fun _ _ _ h => h) (Or.inl ⟨by rfl, ?_⟩) ?_ ?_
                      rotate_left
                      · intro w'
                        go_simp
                        with_reducible rfl
                      rotate_left
                      · simp only [Act.put, List.setIfInBounds_toArray, List.set_cons_zero, List.set_cons_succ, i64_w, i32_w]
                        rfl
                      refine pure_ (i := 12) (N := some 72) (v := ?_) (a' := ?_) #[true, true, true, true, true, true, true, true, true, true, true, true, true, false, false, false, false, false, false] rfl rfl (by kernel_rfl) (fun _ _ _ h => h) (Or.inl ⟨by rfl, ?_⟩) ?_ ?_
                      rotate_left
                      · intro w'
                        go_simp
                        with_reducible rfl
                      rotate_left
                      · simp only [Act.put, List.setIfInBounds_toArray, List.set_cons_zero, List.set_cons_succ, i64_w, i32_w]
                        rfl
                      refine pure_ (i := 13) (N := some 73) (v := ?_) (a' := ?_) #[true, true, true, true, true, true, true, true, true, true, true, true, true, true, false, false, false, false, false] rfl rfl (by kernel_rfl) (fun _ _ _ h => h) (Or.inl ⟨by rfl, ?_⟩) ?_ ?_
                      rotate_left
                      · intro w'
                        go_simp
                        with_reducible rfl
                      rotate_left
                      · simp only [Act.put, List.setIfInBounds_toArray, List.set_cons_zero, List.set_cons_succ, i64_w, i32_w]
                        rfl
                      refine pure_ (i := 14) (N := some 74) (v := ?_) (a' := ?_) #[true, true, true, true, true, true, true, true, true, true, true, true, true, true, true, false, false, false, false] rfl rfl (by kernel_rfl) (fun _ _ _ h => h) (Or.inl ⟨by rfl, ?_⟩) ?_ ?_
                      rotate_left
                      · intro w'
                        go_simp
                        with_reducible rfl
                      rotate_left
                      · simp only [Act.put, List.setIfInBounds_toArray, List.set_cons_zero, List.set_cons_succ, i64_w, i32_w]
                        rfl
                      refine pure_ (i := 15) (N := some 75) (v := ?_) (a' := ?_) #[true, true, true, true, true, true, true, true, true, true, true, true, true, true, true, true, false, false, false] rfl rfl (by kernel_rfl) (fun _ _ _ h => h) (Or.inl ⟨by rfl, ?_⟩) ?_ ?_
                      rotate_left
                      · intro w'
                        go_simp
                        with_reducible rfl
                      rotate_left
                      · simp only [Act.put, List.setIfInBounds_toArray, List.set_cons_zero, List.set_cons_succ, i64_w, i32_w]
                        rfl
                      refine take_ (i := 16) (N := some 76) (v := ?_) (a' := ?_) #[true, true, true, true, true, true, true, true, true, true, true, true, true, true, true, true, true, false, false] rfl rfl (by kernel_rfl) (fun _ _ _ h => h) (Or.inl ⟨by rfl, ?_⟩) hHeld ?_ ?_
                      rotate_left
                      · rintro w' ⟨s0, s1, s2, s3, s4, s5, s6, s7, s8, s9, s10, s11, s12, s13, s14, s15, s16, s17, s18⟩
                        go_simp
                        with_reducible rfl
                      rotate_left
                      · simp only [Act.put, List.setIfInBounds_toArray, List.set_cons_zero, List.set_cons_succ, i64_w, i32_w]
                        rfl
                      refine pure_ (i := 17) (N := some 77) (v := ?_) (a' := ?_) #[true, true, true, true, true, true, true, true, true, true, true, true, true, true, true, true, true, true, false] rfl rfl (by kernel_rfl) (fun _ _ _ h => h) (Or.inl ⟨by rfl, ?_⟩) ?_ ?_
                      rotate_left
                      · intro w'
                        go_simp
                        with_reducible rfl
                      rotate_left
                      · simp only [Act.put, List.setIfInBounds_toArray, List.set_cons_zero, List.set_cons_succ, i64_w, i32_w]
                        rfl
                      refine pure_ (i := 18) (N := some 78) (v := ?_) (a' := ?_) #[true, true, true, true, true, true, true, true, true, true, true, true, true, true, true, true, true, true, true] rfl rfl (by kernel_rfl) (fun _ _ _ h => h) (Or.inl ⟨by rfl, ?_⟩) ?_ ?_
                      rotate_left
                      · intro w'
                        go_simp
                        with_reducible rfl
                      rotate_left
                      · simp only [Act.put, List.setIfInBounds_toArray, List.set_cons_zero, List.set_cons_succ, i64_w, i32_w]
                        rfl
                      refine done_ (by kernel_rfl) ?_
                      go_wp2_with fail
                      go_meet
                      exact ⟨by simp [e1, e2, f1], Lib.hid hHeld⟩
                  case rest =>
                    obtain ⟨rfl, HTy⟩ := hcut
                    clear HTx h0 h1 h2 h3 h4 h5 k0 k1 k2 k3 k4 k5 j0 j1 j2 j3 j4 j5 hh
                    have HTx := HTy
                    clear HTy
                    obtain ⟨h0, h1, h2, h3, h4, h5, k0, k1, k2, k3, k4, k5, j0, j1, j2, j3, j4, j5, hh⟩ := HTx.out
                    cases e3 : (c' != c) && !pd
                    · skip
                      cases pd
                      · skip
                        go_wp2_with (first | (go_at_call 77; refine (Equal_any p q hpq a b c a' b' c' s m o s' m' o' _ (all_tri HTx.out).v (all_tri HTx.out).u (all_tri HTx.out).pb (all_tri HTx.out).qb (all_tri HTx.out).E k r HR.out).mono ?_; rintro e w' ⟨rfl, hb⟩) | (go_at_call 139; refine (new_any _ _).mono ?_; rintro e w' ⟨⟨x, rfl⟩, hb2⟩))
                        · rename_i ht
                          go_ret2
                          exact says_of (r := false) (by (try simp only [Bool.not_false, Bool.not_true, Bool.and_true, Bool.and_false, Bool.or_false, Bool.or_true] at e1); (try simp only [Bool.not_false, Bool.not_true, Bool.and_true, Bool.and_false, Bool.or_false, Bool.or_true] at e2); (try simp only [Bool.not_false, Bool.not_true, Bool.and_true, Bool.and_false, Bool.or_false, Bool.or_true] at e3); simp [hg, neB, e1, e2, e3, ht]) rfl (by repeat (first | exact Below.refl _ _ | exact (all_tri HTx.out).bel | (refine bl_on ?_ (by assumption))))
                        · rename_i ht
                          go_ret2
                          exact says_of (r := true) (by (try simp only [Bool.not_false, Bool.not_true, Bool.and_true, Bool.and_false, Bool.or_false, Bool.or_true] at e1); (try simp only [Bool.not_false, Bool.not_true, Bool.and_true, Bool.and_false, Bool.or_false, Bool.or_true] at e2); (try simp only [Bool.not_false, Bool.not_true, Bool.and_true, Bool.and_false, Bool.or_false, Bool.or_true] at e3); simp [hg, neB, e1, e2, e3, ht]) rfl (by repeat (first | exact Below.refl _ _ | exact (all_tri HTx.out).bel | (refine bl_on ?_ (by assumption))))
                      · skip
                        go_upto_region 13 with fail
                        go_cut [97] (fun t W => t = .bool ((!s.toList.isEmpty) || (!s'.toList.isEmpty)) ∧ Hid (All w p q z a b c a' b' c' s m o s' m' o' g f false true true W))
                        case first =>
                          rcases bool_two (s.toList.isEmpty) with f1 | f1
                          all_goals have f2 : (!s.toList.isEmpty) = !(s.toList.isEmpty) := rfl
                          all_goals rw [f1] at f2
                          all_goals rcases bool_two (s'.toList.isEmpty) with f3 | f3
                          all_goals have f4 : (!s'.toList.isEmpty) = !(s'.toList.isEmpty) := rfl
                          all_goals rw [f3] at f4
                          all_goals go_wp2_with (first | (go_at_call 114; refine (Pre_any _ _ _ _ _ _ _).mono ?_; rintro e w' ⟨rfl, hb⟩; replace HTx := Lib.hid (all_on hb HTx.out); clear hb h0 h1 h2 h3 h4 h5 k0 k1 k2 k3 k4 k5 j0 j1 j2 j3 j4 j5 hh; obtain ⟨h0, h1, h2, h3, h4, h5, k0, k1, k2, k3, k4, k5, j0, j1, j2, j3, j4, j5, hh⟩ := HTx.out))
                          all_goals go_meet
                          all_goals exact ⟨by simp [f1, f3], HTx⟩
                        case rest =>
                          obtain ⟨rfl, HTy⟩ := hcut
                          clear HTx h0 h1 h2 h3 h4 h5 k0 k1 k2 k3 k4 k5 j0 j1 j2 j3 j4 j5 hh
                          have HTx := HTy
                          clear HTy
                          obtain ⟨h0, h1, h2, h3, h4, h5, k0, k1, k2, k3, k4, k5, j0, j1, j2, j3, j4, j5, hh⟩ := HTx.out
                          cases e4 : ((!s.toList.isEmpty) || (!s'.toList.isEmpty))
                          · skip
                            go_wp2_with (first | (go_at_call 139; refine (new_any _ _).mono ?_; rintro e w' ⟨⟨x, rfl⟩, hb2⟩))
                            go_ret2
                            exact says_of (r := false) (by (try simp only [Bool.not_false, Bool.not_true, Bool.and_true, Bool.and_false, Bool.or_false, Bool.or_true] at e1); (try simp only [Bool.not_false, Bool.not_true, Bool.and_true, Bool.and_false, Bool.or_false, Bool.or_true] at e2); (try simp only [Bool.not_false, Bool.not_true, Bool.and_true, Bool.and_false, Bool.or_false, Bool.or_true] at e3); (try simp only [Bool.not_false, Bool.not_true, Bool.and_true, Bool.and_false, Bool.or_false, Bool.or_true] at e4); simp [hg, neB, e1, e2, e3, e4]) rfl (by repeat (first | exact Below.refl _ _ | exact (all_tri HTx.out).bel | (refine bl_on ?_ (by assumption))))
                          · skip
                            go_upto_region 14 with fail
                            go_cut [8] (fun t W => t = .bool ((r != 0)) ∧ Hid (All w p q z a b c a' b' c' s m o s' m' o' g f false true true W))
                            case first =>
                              clear h0 h1 h2 h3 h4 h5 k0 k1 k2 k3 k4 k5 j0 j1 j2 j3 j4 j5 hh
                              refine start_ (n := 14) (S := fun w' => All w p q z a b c a' b' c' s m o s' m' o' g f false true true w') (ds := []) #[false, false, false, false, false, false, false, false, false, false, false, false, false, false] (by kernel_rfl) rfl rfl (all_on (drew_below _) HTx.out) (fun hHeld => ?_)
                              refine pure_ (i := 0) (N := some 98) (v := ?_) (a' := ?_) #[true, false, false, false, false, false, false, false, false, false, false, false, false, false] rfl rfl (by kernel_rfl) (fun _ _ _ h => h) (Or.inl ⟨by rfl, ?_⟩) ?_ ?_
                              rotate_left
                              · intro w'
                                go_simp
                                with_reducible rfl
                              rotate_left
                              · simp only [Act.put, List.setIfInBounds_toArray, List.set_cons_zero, List.set_cons_succ, i64_w, i32_w]
                                rfl
                              refine pure_ (i := 1) (N := some 99) (v := ?_) (a' := ?_) #[true, true, false, false, false, false, false, false, false, false, false, false, false, false] rfl rfl (by kernel_rfl) (fun _ _ _ h => h) (Or.inl ⟨by rfl, ?_⟩) ?_ ?_
                              rotate_left
                              · intro w'
                                go_simp
                                with_reducible rfl
                              rotate_left
                              · simp only [Act.put, List.setIfInBounds_toArray, List.set_cons_zero, List.set_cons_succ, i64_w, i32_w]
                                rfl
                              refine pure_ (i := 4) (N := some 102) (v := ?_) (a' := ?_) #[true, true, false, false, true, false, false, false, false, false, false, false, false, false] rfl rfl (by kernel_rfl) (fun _ _ _ h => h) (Or.inl ⟨by rfl, ?_⟩) ?_ ?_
                              rotate_left
                              · intro w'
                                go_simp
                                with_reducible rfl
                              rotate_left
                              · simp only [Act.put, List.setIfInBounds_toArray, List.set_cons_zero, List.set_cons_succ, i64_w, i32_w]
                                rfl
                              refine pure_ (i := 5) (N := some 103) (v := ?_) (a' := ?_) #[true, true, false, false, true, true, false, false, false, false, false, false, false, false] rfl rfl (by kernel_rfl) (fun _ _ _ h => h) (Or.inl ⟨by rfl, ?_⟩) ?_ ?_
                              rotate_left
                              · intro w'
                                go_simp
                                with_reducible rfl
                              rotate_left
                              · simp only [Act.put, List.setIfInBounds_toArray, List.set_cons_zero, List.set_cons_succ, i64_w, i32_w]
                                rfl
                              refine pure_ (i := 6) (N := some 104) (v := ?_) (a' := ?_) #[true, true, false, false, true, true, true, false, false, false, false, false, false, false] rfl rfl (by kernel_rfl) (fun _ _ _ h => h) (Or.inl ⟨by rfl, ?_⟩) ?_ ?_
                              rotate_left
                              · intro w'
                                go_simp
                                with_reducible rfl
                              rotate_left
                              · simp only [Act.put, List.setIfInBounds_toArray, List.set_cons_zero, List.set_cons_succ, i64_w, i32_w]
                                rfl
                              refine take_ (i := 2) (N := some 100) (v := ?_) (a' := ?_) #[true, true, true, false, true, true, true, false, false, false, false, false, false, false] rfl rfl (by kernel_rfl) (fun _ _ _ h => h) (Or.inl ⟨by rfl, ?_⟩) hHeld ?_ ?_
                              rotate_left
                              · rintro w' ⟨s0, s1, s2, s3, s4, s5, s6, s7, s8, s9, s10, s11, s12, s13, s14, s15, s16, s17, s18⟩
                                go_simp
                                with_reducible rfl
                              rotate_left
                              · simp only [Act.put, List.setIfInBounds_toArray, List.set_cons_zero, List.set_cons_succ, i64_w, i32_w]
                                rfl
                              refine take_ (i := 7) (N := some 105) (v := ?_) (a' := ?_) #[true, true, true, false, true, true, true, true, false, false, false, false, false, false] rfl rfl (by kernel_rfl) (fun _ _ _ h => h) (Or.inl ⟨by rfl, ?_⟩) hHeld ?_ ?_
                              rotate_left
                              · rintro w' ⟨s0, s1, s2, s3, s4, s5, s6, s7, s8, s9, s10, s11, s12, s13, s14, s15, s16, s17, s18⟩
                                go_simp
                                with_reducible rfl
                              rotate_left
                              · simp only [Act.put, List.setIfInBounds_toArray, List.set_cons_zero, List.set_cons_succ, i64_w, i32_w]
                                rfl
                              refine pure_ (i := 8) (N := some 106) (v := ?_) (a' := ?_) #[true, true, true, false, true, true, true, true, true, false, false, false, false, false] rfl rfl (by kernel_rfl) (fun _ _ _ h => h) (Or.inl ⟨by rfl, ?_⟩) ?_ ?_
                              rotate_left
                              · intro w'
                                go_simp
                                with_reducible rfl
                              rotate_left
                              · simp only [Act.put, List.setIfInBounds_toArray, List.set_cons_zero, List.set_cons_succ, i64_w, i32_w]
                                rfl
                              refine take_ (i := 9) (N := some 107) (v := ?_) (a' := ?_) #[true, true, true, false, true, true, true, true, true, true, false, false, false, false] rfl rfl (by kernel_rfl) (fun _ _ _ h => h) (Or.inl ⟨by rfl, ?_⟩) hHeld ?_ ?_
                              rotate_left
                              · rintro w' ⟨s0, s1, s2, s3, s4, s5, s6, s7, s8, s9, s10, s11, s12, s13, s14, s15, s16, s17, s18⟩
                                go_simp
                                with_reducible rfl
                              rotate_left
                              · simp only [Act.put, List.setIfInBounds_toArray, List.set_cons_zero, List.set_cons_succ, i64_w, i32_w]
                                rfl
                              refine one_ (i := 3) (N := some 101) #[true, true, true, true, true, true, true, true, true, true, false, false, false, false] rfl rfl (by kernel_rfl) (by decide) (fun K hK => ?_)
                              refine goes_ Tryd.func114 (by kernel_rfl) rfl #[.agg #[.int .u64 a, .int .u64 b, .int .u64 c, .string s, .string m, .string o]] (by rfl) rfl rfl (by simp only [List.map_toArray, List.map_cons, List.map_nil]; rfl) ?_
                              with_reducible refine (Pre_any a b c s m o _).mono ?_
                              rintro e w3 ⟨rfl, hb⟩
                              refine ⟨_, rfl, ?_⟩
                              refine hK.out _ _ (all_on hb hHeld) (fun hHeld => ?_)
                              clear hK K
                              refine norm_ (a' := ?_) ?_ ?_
                              rotate_left
                              · show Act.put _ (some 101) _ = _
                                simp only [Act.put, List.setIfInBounds_toArray, List.set_cons_zero, List.set_cons_succ, i64_w, i32_w]
                                rfl
                              refine one_ (i := 10) (N := some 108) #[true, true, true, true, true, true, true, true, true, true, true, false, false, false] rfl rfl (by kernel_rfl) (by decide) (fun K hK => ?_)
                              refine goes_ Tryd.func114 (by kernel_rfl) rfl #[.agg #[.int .u64 a', .int .u64 b', .int .u64 c', .string s', .string m', .string o']] (by rfl) rfl rfl (by simp only [List.map_toArray, List.map_cons, List.map_nil]; rfl) ?_
                              with_reducible refine (Pre_any a' b' c' s' m' o' _).mono ?_
                              rintro e w3 ⟨rfl, hb⟩
                              refine ⟨_, rfl, ?_⟩
                              refine hK.out _ _ (all_on hb hHeld) (fun hHeld => ?_)
                              clear hK K
                              refine norm_ (a' := ?_) ?_ ?_
                              rotate_left
                              · show Act.put _ (some 108) _ = _
                                simp only [Act.put, List.setIfInBounds_toArray, List.set_cons_zero, List.set_cons_succ, i64_w, i32_w]
                                rfl
                              refine one_ (i := 11) (N := some 109) #[true, true, true, true, true, true, true, true, true, true, true, true, false, false] rfl rfl (by kernel_rfl) (by decide) (fun K hK => ?_)
                              refine goes_ Tryd.func120 (by kernel_rfl) rfl #[.string s, .string s'] (by rfl) rfl rfl (by simp only [List.map_toArray, List.map_cons, List.map_nil]; rfl) ?_
                              with_reducible refine (semver_comparePrerelease.calls k s s' r _ (hHeld.2.2.2.2.2.2.2.2.2.2.2.2.2.2.2.2.2.2.out).E HR.out).mono ?_
                              rintro e w3 ⟨rfl, hb⟩
                              refine ⟨_, rfl, ?_⟩
                              refine hK.out _ _ (all_on hb hHeld) (fun hHeld => ?_)
                              clear hK K
                              refine norm_ (a' := ?_) ?_ ?_
                              rotate_left
                              · show Act.put _ (some 109) _ = _
                                simp only [Act.put, List.setIfInBounds_toArray, List.set_cons_zero, List.set_cons_succ, i64_w, i32_w]
                                rfl
                              refine pure_ (i := 12) (N := some 110) (v := ?_) (a' := ?_) #[true, true, true, true, true, true, true, true, true, true, true, true, true, false] rfl rfl (by kernel_rfl) (fun _ _ _ h => h) (Or.inl ⟨by rfl, ?_⟩) ?_ ?_
                              rotate_left
                              · intro w'
                                go_simp
                                with_reducible rfl
                              rotate_left
                              · simp only [Act.put, List.setIfInBounds_toArray, List.set_cons_zero, List.set_cons_succ, i64_w, i32_w]
                                rfl
                              refine pure_ (i := 13) (N := some 8) (v := ?_) (a' := ?_) #[true, true, true, true, true, true, true, true, true, true, true, true, true, true] rfl rfl (by kernel_rfl) (fun _ _ _ h => h) (Or.inl ⟨by rfl, ?_⟩) ?_ ?_
                              rotate_left
                              · intro w'
                                go_simp
                                with_reducible rfl
                              rotate_left
                              · simp only [Act.put, List.setIfInBounds_toArray, List.set_cons_zero, List.set_cons_succ, i64_w, i32_w]
                                rfl
                              refine done_ (by kernel_rfl) ?_
                              go_wp2_with fail
                              go_meet
                              exact ⟨by simp [e1, e2, e3, e4], Lib.hid hHeld⟩
                            case rest =>
                              obtain ⟨rfl, HTy⟩ := hcut
                              clear HTx h0 h1 h2 h3 h4 h5 k0 k1 k2 k3 k4 k5 j0 j1 j2 j3 j4 j5 hh
                              have HTx := HTy
                              clear HTy
                              obtain ⟨h0, h1, h2, h3, h4, h5, k0, k1, k2, k3, k4, k5, j0, j1, j2, j3, j4, j5, hh⟩ := HTx.out
                              cases e5 : (r != 0)
                              · skip
                                go_wp2_with (first | (go_at_call 139; refine (new_any _ _).mono ?_; rintro e w' ⟨⟨x, rfl⟩, hb2⟩))
                                go_ret2
                                exact says_of (r := false) (by (try simp only [Bool.not_false, Bool.not_true, Bool.and_true, Bool.and_false, Bool.or_false, Bool.or_true] at e1); (try simp only [Bool.not_false, Bool.not_true, Bool.and_true, Bool.and_false, Bool.or_false, Bool.or_true] at e2); (try simp only [Bool.not_false, Bool.not_true, Bool.and_true, Bool.and_false, Bool.or_false, Bool.or_true] at e3); (try simp only [Bool.not_false, Bool.not_true, Bool.and_true, Bool.and_false, Bool.or_false, Bool.or_true] at e4); (try simp only [Bool.not_false, Bool.not_true, Bool.and_true, Bool.and_false, Bool.or_false, Bool.or_true] at e5); simp [hg, neB, e1, e2, e3, e4, e5]) rfl (by repeat (first | exact Below.refl _ _ | exact (all_tri HTx.out).bel | (refine bl_on ?_ (by assumption))))
                              · skip
                                go_wp2_with (first | (go_at_call 139; refine (new_any _ _).mono ?_; rintro e w' ⟨⟨x, rfl⟩, hb2⟩))
                                go_ret2
                                exact says_of (r := true) (by (try simp only [Bool.not_false, Bool.not_true, Bool.and_true, Bool.and_false, Bool.or_false, Bool.or_true] at e1); (try simp only [Bool.not_false, Bool.not_true, Bool.and_true, Bool.and_false, Bool.or_false, Bool.or_true] at e2); (try simp only [Bool.not_false, Bool.not_true, Bool.and_true, Bool.and_false, Bool.or_false, Bool.or_true] at e3); (try simp only [Bool.not_false, Bool.not_true, Bool.and_true, Bool.and_false, Bool.or_false, Bool.or_true] at e4); (try simp only [Bool.not_false, Bool.not_true, Bool.and_true, Bool.and_false, Bool.or_false, Bool.or_true] at e5); simp [hg, neB, e1, e2, e3, e4, e5]) rfl (by repeat (first | exact Below.refl _ _ | exact (all_tri HTx.out).bel | (refine bl_on ?_ (by assumption))))
                    · skip
                      go_wp2_with (first | (go_at_call 139; refine (new_any _ _).mono ?_; rintro e w' ⟨⟨x, rfl⟩, hb2⟩))
                      go_ret2
                      exact says_of (r := true) (by (try simp only [Bool.not_false, Bool.not_true, Bool.and_true, Bool.and_false, Bool.or_false, Bool.or_true] at e1); (try simp only [Bool.not_false, Bool.not_true, Bool.and_true, Bool.and_false, Bool.or_false, Bool.or_true] at e2); (try simp only [Bool.not_false, Bool.not_true, Bool.and_true, Bool.and_false, Bool.or_false, Bool.or_true] at e3); simp [hg, neB, e1, e2, e3]) rfl (by repeat (first | exact Below.refl _ _ | exact (all_tri HTx.out).bel | (refine bl_on ?_ (by assumption))))
                · skip
                  go_wp2_with (first | (go_at_call 139; refine (new_any _ _).mono ?_; rintro e w' ⟨⟨x, rfl⟩, hb2⟩))
                  go_ret2
                  exact says_of (r := false) (by (try simp only [Bool.not_false, Bool.not_true, Bool.and_true, Bool.and_false, Bool.or_false, Bool.or_true] at e1); (try simp only [Bool.not_false, Bool.not_true, Bool.and_true, Bool.and_false, Bool.or_false, Bool.or_true] at e2); simp [hg, neB, e1, e2]) rfl (by repeat (first | exact Below.refl _ _ | exact (all_tri HTx.out).bel | (refine bl_on ?_ (by assumption))))
              · skip
                go_wp2_with (first | (go_at_call 139; refine (new_any _ _).mono ?_; rintro e w' ⟨⟨x, rfl⟩, hb2⟩))
                go_ret2
                exact says_of (r := true) (by (try simp only [Bool.not_false, Bool.not_true, Bool.and_true, Bool.and_false, Bool.or_false, Bool.or_true] at e1); (try simp only [Bool.not_false, Bool.not_true, Bool.and_true, Bool.and_false, Bool.or_false, Bool.or_true] at e2); simp [hg, neB, e1, e2]) rfl (by repeat (first | exact Below.refl _ _ | exact (all_tri HTx.out).bel | (refine bl_on ?_ (by assumption))))
          · skip
            go_wp2_with (first | (go_at_call 139; refine (new_any _ _).mono ?_; rintro e w' ⟨⟨x, rfl⟩, hb2⟩))
            go_ret2
            exact says_of (r := true) (by (try simp only [Bool.not_false, Bool.not_true, Bool.and_true, Bool.and_false, Bool.or_false, Bool.or_true] at e1); simp [hg, neB, e1]) rfl (by repeat (first | exact Below.refl _ _ | exact (all_tri HTx.out).bel | (refine bl_on ?_ (by assumption))))
    · skip
      go_wp2_with (first | (go_at_call 139; refine (new_any _ _).mono ?_; rintro e w' ⟨⟨x, rfl⟩, hb2⟩))
      go_ret2
      exact says_of (r := false) (by simp [hg, neB]) rfl (by repeat (first | exact Below.refl _ _ | exact (all_tri HTx.out).bel | (refine bl_on ?_ (by assumption))))
set_option maxHeartbeats 4000000 in
set_option maxRecDepth 100000 in
theorem ZZNotEqual_any (p q : Nat) (a b c a' b' c' : Int) (s m o s' m' o' f : ByteArray) (md dd pd : Bool) (hpq : p ≠ q) (pre : Bool) (w : World) (hv : IsVer w p a b c s m o) (hu : IsVer w q a' b' c' s' m' o') (hp : Blk w p) (hq : Blk w q) (hG : GlobE w) (k : Nat) (r : Int) (hr : semver_comparePrerelease.f k s s' = some r) :
    Calls Tryd.prog 92 #[.agg #[.string f, .pointer (some ⟨q, 0, none⟩), .bool dd, .bool md, .bool pd], .pointer (some ⟨p, 0, none⟩), .bool pre] w (Says w (!gate s pre && neB (cmpF a b c a' b' c' s s' r) a b c a' b' c' r s s' md dd pd)) := by
  have HR := Lib.hid hr
  have HV := Lib.hid hv
  have HU := Lib.hid hu
  have HP := Lib.hid hp
  have HQ := Lib.hid hq
  have HG := Lib.hid hG
  clear hr hv hu hp hq hG
  go_enter Tryd.func92, Tryd.ntmps92
  go_wp2_with (first | (go_at_call 123; refine (inner_any _ _ _ _ _ _).mono ?_; rintro e w' ⟨rfl, rfl⟩) | (go_at_call 132; refine (Ne_any p q _ a b c a' b' c' s m o s' m' o' ⟨#[]⟩ f md dd pd hpq pre _ (con_new w q f md dd pd p _ _ _ _ HV.out HU.out HP.out HQ.out HG.out _ rfl) k r HR.out).mono ?_; rintro e w' ⟨⟨x, rfl⟩, hb⟩))
  go_ret2
  exact ⟨⟨_, rfl⟩, bl_on (by repeat (first | exact Below.refl _ _ | apply bl_alloc)) hb⟩
set_option maxHeartbeats 4000000 in
set_option maxRecDepth 100000 in
theorem NotEqualHolds_any (op gv a' b' c' : Int) (s' : ByteArray) (a b c : Int) (s m : ByteArray) (pre : Bool) (w : World) (hg0 : 0 ≤ gv) (hg3 : gv ≤ 3) (hG : GlobE w) (k : Nat) (r : Int) (hr : semver_comparePrerelease.f k s s' = some r) :
    Calls Tryd.prog 44 #[.agg #[.int .i64 op, .int .i64 gv, .int .u64 a', .int .u64 b', .int .u64 c', .string s'], .agg #[.int .u64 a, .int .u64 b, .int .u64 c, .string s, .string m], .bool pre] w fun e w' => e = .returned (.bool (!gate s pre && neB (cmpF a b c a' b' c' s s' r) a b c a' b' c' r s s' (gv == 1) (decide (gv < 3)) (gv == 2))) ∧ Below w.heap.size w w' := by
  have HR := Lib.hid hr
  have HG := Lib.hid hG
  have HB := Lib.hid (boxes_start w op gv a' b' c' s' a b c s m)
  clear hr hG
  go_enter Tryd.func44, Tryd.ntmps44
  go_wp2_with fail
  first | go_region_held3 (fun W => W.cell? ⟨w.heap.size, 0, none⟩ = some (.int .i64 op) ∧ W.cell? ⟨w.heap.size, 1, none⟩ = some (.int .i64 gv) ∧ W.cell? ⟨w.heap.size, 2, none⟩ = some (.int .u64 a') ∧ W.cell? ⟨w.heap.size, 3, none⟩ = some (.int .u64 b') ∧ W.cell? ⟨w.heap.size, 4, none⟩ = some (.int .u64 c') ∧ W.cell? ⟨w.heap.size, 5, none⟩ = some (.string s') ∧ W.cell? ⟨w.heap.size + 1, 0, none⟩ = some (.int .u64 a) ∧ W.cell? ⟨w.heap.size + 1, 1, none⟩ = some (.int .u64 b) ∧ W.cell? ⟨w.heap.size + 1, 2, none⟩ = some (.int .u64 c) ∧ W.cell? ⟨w.heap.size + 1, 3, none⟩ = some (.string s) ∧ W.cell? ⟨w.heap.size + 1, 4, none⟩ = some (.string m) ∧ Hid (Below w.heap.size w W)) (first | assumption | exact boxes_on (drew_below _) HB.out | (apply boxes_on <;> first | assumption | exact boxes_on (drew_below _) HB.out)) (first
    | (go_at_call 85; refine (term_any _ _ _ _ _ _ _ hg0 hg3).mono ?_; rintro e w1 ⟨f, q, rfl, hf, hL⟩; have hLb := hL.bel)
    | (go_at_call 66; refine (version_laid _ _ _ _ _ _).mono ?_; rintro e w2 ⟨p, rfl, hM⟩; have hMb := hM.bel)
    | (go_at_call 92; refine (ZZNotEqual_any p q a b c a' b' c' s m ⟨#[]⟩ s' ⟨#[]⟩ ⟨#[]⟩ f (gv == 1) (decide (gv < 3)) (gv == 2) (laid_ne hL hM) pre _ hM.v (hL.v.below hM.bel) hM.b (kblk_below hL.b hM.bel) (globE_below HG.out (bl_on (bl_on (by repeat (first | exact Below.refl _ _ | apply bl_drew | apply bl_alloc)) hL.bel) hM.bel)) k r HR.out).mono ?_; rintro e w' ⟨⟨x, rfl⟩, hb⟩)) | fail
  rename_i hH
  have HH := Lib.hid hH.2.2.2.2.2.2.2.2.2.2.2.out
  clear hH
  go_wp2_with fail
  go_ret
  exact ⟨rfl, HH.out⟩
def impl_NotEqualHolds.f (k : Nat) (op gv a' b' c' : Int) (s' : ByteArray) (a b c : Int) (s m : ByteArray) (pre : Bool) : Option Bool := if 0 ≤ gv ∧ gv ≤ 3 then (semver_comparePrerelease.f k s s').bind fun r => some (!gate s pre && neB (cmpF a b c a' b' c' s s' r) a b c a' b' c' r s s' (gv == 1) (decide (gv < 3)) (gv == 2)) else none
theorem impl_NotEqualHolds.mono : ∀ op gv a' b' c' s' a b c s m pre k, LeO (impl_NotEqualHolds.f k op gv a' b' c' s' a b c s m pre) (impl_NotEqualHolds.f (k + 1) op gv a' b' c' s' a b c s m pre) := by
  intro op gv a' b' c' s' a b c s m pre k
  exact leO_if (LeO.bind (semver_comparePrerelease.mono s s' k) (fun _ => LeO.refl _)) (LeO.none _)
theorem impl_NotEqualHolds.calls (k : Nat) (op gv a' b' c' : Int) (s' : ByteArray) (a b c : Int) (s m : ByteArray) (pre : Bool) (r : Bool) (w : World) (hGE : GlobE w) (h : impl_NotEqualHolds.f k op gv a' b' c' s' a b c s m pre = some r) :
    Calls Tryd.prog 44 #[.agg #[.int .i64 op, .int .i64 gv, .int .u64 a', .int .u64 b', .int .u64 c', .string s'], .agg #[.int .u64 a, .int .u64 b, .int .u64 c, .string s, .string m], .bool pre] w fun e w' => e = .returned (.bool r) ∧ Below w.heap.size w w' := by
  unfold impl_NotEqualHolds.f at h
  by_cases hc : 0 ≤ gv ∧ gv ≤ 3
  · rw [if_pos hc] at h
    obtain ⟨x, hx, h⟩ := Option.bind_eq_some_iff.1 h
    obtain rfl := Option.some.inj h
    exact NotEqualHolds_any op gv a' b' c' s' a b c s m pre w hc.1 hc.2 hGE k x hx
  · rw [if_neg hc] at h; cases h
end Go.Proofs.YtlooelfkkbgmhaaDoor
