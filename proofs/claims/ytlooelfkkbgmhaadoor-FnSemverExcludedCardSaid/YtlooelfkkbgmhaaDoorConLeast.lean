/-
  The thin package's LeastHolds over one term: the walk down to the comparison, and its contract.
-/
import Derived.Test.YtlooelfkkbgmhaaDoorCon
set_option linter.unusedVariables false
set_option linter.unusedSimpArgs false
namespace Go.Proofs.YtlooelfkkbgmhaaDoor
open Go Go.RowKit Go.Proofs.YtlooelfkkbgmhaaDoorW.PrintWords Go.Proofs.YtlooelfkkbgmhaaDoorW.PrintLast
def geB (cm : Int) : Bool := decide (0 ≤ cm)
set_option maxHeartbeats 4000000 in
set_option maxRecDepth 100000 in
theorem Ge_any (p q z : Nat) (a b c a' b' c' : Int) (s m o s' m' o' g f : ByteArray) (md dd pd : Bool) (hpq : p ≠ q) (pre : Bool) (w : World) (hT : Tri w p q z a b c a' b' c' s m o s' m' o' g f md dd pd w) (k : Nat) (r : Int) (hr : semver_comparePrerelease.f k s s' = some r) :
    Calls Tryd.prog 133 #[.pointer (some ⟨p, 0, none⟩), .pointer (some ⟨z, 0, none⟩), .bool pre] w (Says w (!gate s pre && geB (cmpF a b c a' b' c' s s' r))) := by
  have HTx := Lib.hid (all_of hT)
  have HR := Lib.hid hr
  clear hT hr
  obtain ⟨h0, h1, h2, h3, h4, h5, k0, k1, k2, k3, k4, k5, j0, j1, j2, j3, j4, j5, hh⟩ := HTx.out
  go_enter Tryd.func133, Tryd.ntmps133
  go_upto_region 1 with fail
  go_cut [17] (fun t W => t = .bool (gate s pre) ∧ Hid (All w p q z a b c a' b' c' s m o s' m' o' g f md dd pd W))
  case first =>
    by_cases g : s.toList = []
    · have g1 : s.toList.isEmpty = true := by rw [g]; rfl
      have g2 : (!s.toList.isEmpty) = false := by rw [g]; rfl
      have g3 : gate s pre = false := by unfold gate; rw [g2]; rfl
      go_wp2_with ((go_at_call 114; refine (Pre_any _ _ _ _ _ _ _).mono ?_; rintro e w' ⟨rfl, hb⟩))
      go_meet
      exact ⟨by rw [g3], Lib.hid (all_on (by assumption) HTx.out)⟩
    · have g1 : s.toList.isEmpty = false := by cases h : s.toList with | nil => exact absurd h g | cons _ _ => rfl
      have g2 : (!s.toList.isEmpty) = true := by rw [g1]; rfl
      have g3 : gate s pre = !pre := by unfold gate; rw [g2]; rfl
      clear g
      go_wp2_with ((go_at_call 114; refine (Pre_any _ _ _ _ _ _ _).mono ?_; rintro e w' ⟨rfl, hb⟩))
      all_goals go_meet
      all_goals exact ⟨by rw [g3], Lib.hid (all_on (by assumption) HTx.out)⟩
  case rest =>
    obtain ⟨rfl, HTy⟩ := hcut
    clear HTx h0 h1 h2 h3 h4 h5 k0 k1 k2 k3 k4 k5 j0 j1 j2 j3 j4 j5 hh
    have HTx := HTy
    clear HTy
    obtain ⟨h0, h1, h2, h3, h4, h5, k0, k1, k2, k3, k4, k5, j0, j1, j2, j3, j4, j5, hh⟩ := HTx.out
    cases hg : gate s pre
    · skip
      go_wp2_with (first | (go_at_call 76; refine (Compare_any p q a b c a' b' c' s m o s' m' o' _ (all_tri HTx.out).v (all_tri HTx.out).u (all_tri HTx.out).E k r HR.out).mono ?_; rintro e w' ⟨rfl, hb⟩) | (go_at_call 139; refine (new_any _ _).mono ?_; rintro e w' ⟨⟨x, rfl⟩, hb2⟩))
      · rename_i ht
        go_ret2
        exact says_of (r := true) (by simp [hg, geB, ht]) rfl (by repeat (first | exact Below.refl _ _ | exact (all_tri HTx.out).bel | (refine bl_on ?_ (by assumption))))
      · rename_i ht
        go_ret2
        exact says_of (r := false) (by simp [hg, geB, ht]) rfl (by repeat (first | exact Below.refl _ _ | exact (all_tri HTx.out).bel | (refine bl_on ?_ (by assumption))))
    · skip
      go_wp2_with (first | (go_at_call 139; refine (new_any _ _).mono ?_; rintro e w' ⟨⟨x, rfl⟩, hb2⟩))
      go_ret2
      exact says_of (r := false) (by simp [hg, geB]) rfl (by repeat (first | exact Below.refl _ _ | exact (all_tri HTx.out).bel | (refine bl_on ?_ (by assumption))))
set_option maxHeartbeats 4000000 in
set_option maxRecDepth 100000 in
theorem ZZLeast_any (p q : Nat) (a b c a' b' c' : Int) (s m o s' m' o' f : ByteArray) (md dd pd : Bool) (hpq : p ≠ q) (pre : Bool) (w : World) (hv : IsVer w p a b c s m o) (hu : IsVer w q a' b' c' s' m' o') (hp : Blk w p) (hq : Blk w q) (hG : GlobE w) (k : Nat) (r : Int) (hr : semver_comparePrerelease.f k s s' = some r) :
    Calls Tryd.prog 93 #[.agg #[.string f, .pointer (some ⟨q, 0, none⟩), .bool dd, .bool md, .bool pd], .pointer (some ⟨p, 0, none⟩), .bool pre] w (Says w (!gate s pre && geB (cmpF a b c a' b' c' s s' r))) := by
  have HR := Lib.hid hr
  have HV := Lib.hid hv
  have HU := Lib.hid hu
  have HP := Lib.hid hp
  have HQ := Lib.hid hq
  have HG := Lib.hid hG
  clear hr hv hu hp hq hG
  go_enter Tryd.func93, Tryd.ntmps93
  go_wp2_with (first | (go_at_call 123; refine (inner_any _ _ _ _ _ _).mono ?_; rintro e w' ⟨rfl, rfl⟩) | (go_at_call 133; refine (Ge_any p q _ a b c a' b' c' s m o s' m' o' ⟨#[]⟩ f md dd pd hpq pre _ (con_new w q f md dd pd p _ _ _ _ HV.out HU.out HP.out HQ.out HG.out _ rfl) k r HR.out).mono ?_; rintro e w' ⟨⟨x, rfl⟩, hb⟩))
  go_ret2
  exact ⟨⟨_, rfl⟩, bl_on (by repeat (first | exact Below.refl _ _ | apply bl_alloc)) hb⟩
set_option maxHeartbeats 4000000 in
set_option maxRecDepth 100000 in
theorem LeastHolds_any (op gv a' b' c' : Int) (s' : ByteArray) (a b c : Int) (s m : ByteArray) (pre : Bool) (w : World) (hg0 : 0 ≤ gv) (hg3 : gv ≤ 3) (hG : GlobE w) (k : Nat) (r : Int) (hr : semver_comparePrerelease.f k s s' = some r) :
    Calls Tryd.prog 45 #[.agg #[.int .i64 op, .int .i64 gv, .int .u64 a', .int .u64 b', .int .u64 c', .string s'], .agg #[.int .u64 a, .int .u64 b, .int .u64 c, .string s, .string m], .bool pre] w fun e w' => e = .returned (.bool (!gate s pre && geB (cmpF a b c a' b' c' s s' r))) ∧ Below w.heap.size w w' := by
  have HR := Lib.hid hr
  have HG := Lib.hid hG
  have HB := Lib.hid (boxes_start w op gv a' b' c' s' a b c s m)
  clear hr hG
  go_enter Tryd.func45, Tryd.ntmps45
  go_wp2_with fail
  first | go_region_held3 (fun W => W.cell? ⟨w.heap.size, 0, none⟩ = some (.int .i64 op) ∧ W.cell? ⟨w.heap.size, 1, none⟩ = some (.int .i64 gv) ∧ W.cell? ⟨w.heap.size, 2, none⟩ = some (.int .u64 a') ∧ W.cell? ⟨w.heap.size, 3, none⟩ = some (.int .u64 b') ∧ W.cell? ⟨w.heap.size, 4, none⟩ = some (.int .u64 c') ∧ W.cell? ⟨w.heap.size, 5, none⟩ = some (.string s') ∧ W.cell? ⟨w.heap.size + 1, 0, none⟩ = some (.int .u64 a) ∧ W.cell? ⟨w.heap.size + 1, 1, none⟩ = some (.int .u64 b) ∧ W.cell? ⟨w.heap.size + 1, 2, none⟩ = some (.int .u64 c) ∧ W.cell? ⟨w.heap.size + 1, 3, none⟩ = some (.string s) ∧ W.cell? ⟨w.heap.size + 1, 4, none⟩ = some (.string m) ∧ Hid (Below w.heap.size w W)) (first | assumption | exact boxes_on (drew_below _) HB.out | (apply boxes_on <;> first | assumption | exact boxes_on (drew_below _) HB.out)) (first
    | (go_at_call 85; refine (term_any _ _ _ _ _ _ _ hg0 hg3).mono ?_; rintro e w1 ⟨f, q, rfl, hf, hL⟩; have hLb := hL.bel)
    | (go_at_call 66; refine (version_laid _ _ _ _ _ _).mono ?_; rintro e w2 ⟨p, rfl, hM⟩; have hMb := hM.bel)
    | (go_at_call 93; refine (ZZLeast_any p q a b c a' b' c' s m ⟨#[]⟩ s' ⟨#[]⟩ ⟨#[]⟩ f (gv == 1) (decide (gv < 3)) (gv == 2) (laid_ne hL hM) pre _ hM.v (hL.v.below hM.bel) hM.b (kblk_below hL.b hM.bel) (globE_below HG.out (bl_on (bl_on (by repeat (first | exact Below.refl _ _ | apply bl_drew | apply bl_alloc)) hL.bel) hM.bel)) k r HR.out).mono ?_; rintro e w' ⟨⟨x, rfl⟩, hb⟩)) | fail
  rename_i hH
  have HH := Lib.hid hH.2.2.2.2.2.2.2.2.2.2.2.out
  clear hH
  go_wp2_with fail
  go_ret
  exact ⟨rfl, HH.out⟩
def impl_LeastHolds.f (k : Nat) (op gv a' b' c' : Int) (s' : ByteArray) (a b c : Int) (s m : ByteArray) (pre : Bool) : Option Bool := if 0 ≤ gv ∧ gv ≤ 3 then (semver_comparePrerelease.f k s s').bind fun r => some (!gate s pre && geB (cmpF a b c a' b' c' s s' r)) else none
theorem impl_LeastHolds.mono : ∀ op gv a' b' c' s' a b c s m pre k, LeO (impl_LeastHolds.f k op gv a' b' c' s' a b c s m pre) (impl_LeastHolds.f (k + 1) op gv a' b' c' s' a b c s m pre) := by
  intro op gv a' b' c' s' a b c s m pre k
  exact leO_if (LeO.bind (semver_comparePrerelease.mono s s' k) (fun _ => LeO.refl _)) (LeO.none _)
theorem impl_LeastHolds.calls (k : Nat) (op gv a' b' c' : Int) (s' : ByteArray) (a b c : Int) (s m : ByteArray) (pre : Bool) (r : Bool) (w : World) (hGE : GlobE w) (h : impl_LeastHolds.f k op gv a' b' c' s' a b c s m pre = some r) :
    Calls Tryd.prog 45 #[.agg #[.int .i64 op, .int .i64 gv, .int .u64 a', .int .u64 b', .int .u64 c', .string s'], .agg #[.int .u64 a, .int .u64 b, .int .u64 c, .string s, .string m], .bool pre] w fun e w' => e = .returned (.bool r) ∧ Below w.heap.size w w' := by
  unfold impl_LeastHolds.f at h
  by_cases hc : 0 ≤ gv ∧ gv ≤ 3
  · rw [if_pos hc] at h
    obtain ⟨x, hx, h⟩ := Option.bind_eq_some_iff.1 h
    obtain rfl := Option.some.inj h
    exact LeastHolds_any op gv a' b' c' s' a b c s m pre w hc.1 hc.2 hGE k x hx
  · rw [if_neg hc] at h; cases h
end Go.Proofs.YtlooelfkkbgmhaaDoor
