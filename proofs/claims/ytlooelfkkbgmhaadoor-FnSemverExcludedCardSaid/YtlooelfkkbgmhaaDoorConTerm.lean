/-
  The check of one term, and its contract.
-/
import Derived.Test.YtlooelfkkbgmhaaDoorConMost
import Derived.Test.YtlooelfkkbgmhaaDoorConBelow
import Derived.Test.YtlooelfkkbgmhaaDoorConLeast
import Derived.Test.YtlooelfkkbgmhaaDoorConAbove
import Derived.Test.YtlooelfkkbgmhaaDoorConNotEqual
import Derived.Test.YtlooelfkkbgmhaaDoorConTilde
import Derived.Test.YtlooelfkkbgmhaaDoorConCaret
set_option linter.unusedVariables false
set_option linter.unusedSimpArgs false
namespace Go.Proofs.YtlooelfkkbgmhaaDoor
open Go Go.RowKit Go.Proofs.YtlooelfkkbgmhaaDoorW.PrintWords Go.Proofs.YtlooelfkkbgmhaaDoorW.PrintLast
/-- what a term of an operator says -/
def opB (op : Int) (cm a b c a' b' c' r : Int) (s s' : ByteArray) (md dd pd : Bool) : Bool :=
  if op = 0 then teB cm a b a' b' c' md dd pd else if op = 1 then neB cm a b c a' b' c' r s s' md dd pd else if op = 2 then gtB cm a b a' b' md dd pd else if op = 3 then ltB cm else if op = 4 then geB cm
    else if op = 5 then leB cm a b a' b' md dd else if op = 6 then tiB cm a b a' b' c' md pd else caB cm a b c a' b' c' md pd

set_option maxHeartbeats 4000000 in
set_option maxRecDepth 100000 in
theorem check_0 (p q z : Nat) (a b c a' b' c' : Int) (s m o s' m' o' g : ByteArray) (md dd pd : Bool) (hpq : p ≠ q) (pre : Bool) (w : World) (hT : Tri w p q z a b c a' b' c' s m o s' m' o' g (⟨#[61]⟩ : ByteArray) md dd pd w) (k : Nat) (r : Int) (hr : semver_comparePrerelease.f k s s' = some r) :
    Calls Tryd.prog 134 #[.pointer (some ⟨z, 0, none⟩), .pointer (some ⟨p, 0, none⟩), .bool pre] w (Says w (!gate s pre && teB (cmpF a b c a' b' c' s s' r) a b a' b' c' md dd pd)) := by
  have HT := Lib.hid hT
  have HR := Lib.hid hr
  obtain ⟨j0, j1, j2, j3, j4, j5⟩ := hT.z
  clear hT hr j0 j1 j3 j4 j5
  go_enter Tryd.func134, Tryd.ntmps134
  go_wp2_with (go_at_call 130; refine (Te_any p q z a b c a' b' c' s m o s' m' o' g (⟨#[61]⟩ : ByteArray) md dd pd hpq pre _ HT.out k r HR.out).mono ?_; rintro e w' ⟨⟨x, rfl⟩, hb⟩)
  go_ret2
  exact ⟨⟨_, rfl⟩, hb⟩
set_option maxHeartbeats 4000000 in
set_option maxRecDepth 100000 in
theorem check_1 (p q z : Nat) (a b c a' b' c' : Int) (s m o s' m' o' g : ByteArray) (md dd pd : Bool) (hpq : p ≠ q) (pre : Bool) (w : World) (hT : Tri w p q z a b c a' b' c' s m o s' m' o' g (⟨#[33, 61]⟩ : ByteArray) md dd pd w) (k : Nat) (r : Int) (hr : semver_comparePrerelease.f k s s' = some r) :
    Calls Tryd.prog 134 #[.pointer (some ⟨z, 0, none⟩), .pointer (some ⟨p, 0, none⟩), .bool pre] w (Says w (!gate s pre && neB (cmpF a b c a' b' c' s s' r) a b c a' b' c' r s s' md dd pd)) := by
  have HT := Lib.hid hT
  have HR := Lib.hid hr
  obtain ⟨j0, j1, j2, j3, j4, j5⟩ := hT.z
  clear hT hr j0 j1 j3 j4 j5
  go_enter Tryd.func134, Tryd.ntmps134
  go_wp2_with (go_at_call 132; refine (Ne_any p q z a b c a' b' c' s m o s' m' o' g (⟨#[33, 61]⟩ : ByteArray) md dd pd hpq pre _ HT.out k r HR.out).mono ?_; rintro e w' ⟨⟨x, rfl⟩, hb⟩)
  go_ret2
  exact ⟨⟨_, rfl⟩, hb⟩
set_option maxHeartbeats 4000000 in
set_option maxRecDepth 100000 in
theorem check_2 (p q z : Nat) (a b c a' b' c' : Int) (s m o s' m' o' g : ByteArray) (md dd pd : Bool) (hpq : p ≠ q) (pre : Bool) (w : World) (hT : Tri w p q z a b c a' b' c' s m o s' m' o' g (⟨#[62]⟩ : ByteArray) md dd pd w) (k : Nat) (r : Int) (hr : semver_comparePrerelease.f k s s' = some r) :
    Calls Tryd.prog 134 #[.pointer (some ⟨z, 0, none⟩), .pointer (some ⟨p, 0, none⟩), .bool pre] w (Says w (!gate s pre && gtB (cmpF a b c a' b' c' s s' r) a b a' b' md dd pd)) := by
  have HT := Lib.hid hT
  have HR := Lib.hid hr
  obtain ⟨j0, j1, j2, j3, j4, j5⟩ := hT.z
  clear hT hr j0 j1 j3 j4 j5
  go_enter Tryd.func134, Tryd.ntmps134
  go_wp2_with (go_at_call 131; refine (Gt_any p q z a b c a' b' c' s m o s' m' o' g (⟨#[62]⟩ : ByteArray) md dd pd hpq pre _ HT.out k r HR.out).mono ?_; rintro e w' ⟨⟨x, rfl⟩, hb⟩)
  go_ret2
  exact ⟨⟨_, rfl⟩, hb⟩
set_option maxHeartbeats 4000000 in
set_option maxRecDepth 100000 in
theorem check_3 (p q z : Nat) (a b c a' b' c' : Int) (s m o s' m' o' g : ByteArray) (md dd pd : Bool) (hpq : p ≠ q) (pre : Bool) (w : World) (hT : Tri w p q z a b c a' b' c' s m o s' m' o' g (⟨#[60]⟩ : ByteArray) md dd pd w) (k : Nat) (r : Int) (hr : semver_comparePrerelease.f k s s' = some r) :
    Calls Tryd.prog 134 #[.pointer (some ⟨z, 0, none⟩), .pointer (some ⟨p, 0, none⟩), .bool pre] w (Says w (!gate s pre && ltB (cmpF a b c a' b' c' s s' r))) := by
  have HT := Lib.hid hT
  have HR := Lib.hid hr
  obtain ⟨j0, j1, j2, j3, j4, j5⟩ := hT.z
  clear hT hr j0 j1 j3 j4 j5
  go_enter Tryd.func134, Tryd.ntmps134
  go_wp2_with (go_at_call 129; refine (Lt_any p q z a b c a' b' c' s m o s' m' o' g (⟨#[60]⟩ : ByteArray) md dd pd hpq pre _ HT.out k r HR.out).mono ?_; rintro e w' ⟨⟨x, rfl⟩, hb⟩)
  go_ret2
  exact ⟨⟨_, rfl⟩, hb⟩
set_option maxHeartbeats 4000000 in
set_option maxRecDepth 100000 in
theorem check_4 (p q z : Nat) (a b c a' b' c' : Int) (s m o s' m' o' g : ByteArray) (md dd pd : Bool) (hpq : p ≠ q) (pre : Bool) (w : World) (hT : Tri w p q z a b c a' b' c' s m o s' m' o' g (⟨#[62, 61]⟩ : ByteArray) md dd pd w) (k : Nat) (r : Int) (hr : semver_comparePrerelease.f k s s' = some r) :
    Calls Tryd.prog 134 #[.pointer (some ⟨z, 0, none⟩), .pointer (some ⟨p, 0, none⟩), .bool pre] w (Says w (!gate s pre && geB (cmpF a b c a' b' c' s s' r))) := by
  have HT := Lib.hid hT
  have HR := Lib.hid hr
  obtain ⟨j0, j1, j2, j3, j4, j5⟩ := hT.z
  clear hT hr j0 j1 j3 j4 j5
  go_enter Tryd.func134, Tryd.ntmps134
  go_wp2_with (go_at_call 133; refine (Ge_any p q z a b c a' b' c' s m o s' m' o' g (⟨#[62, 61]⟩ : ByteArray) md dd pd hpq pre _ HT.out k r HR.out).mono ?_; rintro e w' ⟨⟨x, rfl⟩, hb⟩)
  go_ret2
  exact ⟨⟨_, rfl⟩, hb⟩
set_option maxHeartbeats 4000000 in
set_option maxRecDepth 100000 in
theorem check_5 (p q z : Nat) (a b c a' b' c' : Int) (s m o s' m' o' g : ByteArray) (md dd pd : Bool) (hpq : p ≠ q) (pre : Bool) (w : World) (hT : Tri w p q z a b c a' b' c' s m o s' m' o' g (⟨#[60, 61]⟩ : ByteArray) md dd pd w) (k : Nat) (r : Int) (hr : semver_comparePrerelease.f k s s' = some r) :
    Calls Tryd.prog 134 #[.pointer (some ⟨z, 0, none⟩), .pointer (some ⟨p, 0, none⟩), .bool pre] w (Says w (!gate s pre && leB (cmpF a b c a' b' c' s s' r) a b a' b' md dd)) := by
  have HT := Lib.hid hT
  have HR := Lib.hid hr
  obtain ⟨j0, j1, j2, j3, j4, j5⟩ := hT.z
  clear hT hr j0 j1 j3 j4 j5
  go_enter Tryd.func134, Tryd.ntmps134
  go_wp2_with (go_at_call 122; refine (Le_any p q z a b c a' b' c' s m o s' m' o' g (⟨#[60, 61]⟩ : ByteArray) md dd pd hpq pre _ HT.out k r HR.out).mono ?_; rintro e w' ⟨⟨x, rfl⟩, hb⟩)
  go_ret2
  exact ⟨⟨_, rfl⟩, hb⟩
set_option maxHeartbeats 4000000 in
set_option maxRecDepth 100000 in
theorem check_6 (p q z : Nat) (a b c a' b' c' : Int) (s m o s' m' o' g : ByteArray) (md dd pd : Bool) (hpq : p ≠ q) (pre : Bool) (w : World) (hT : Tri w p q z a b c a' b' c' s m o s' m' o' g (⟨#[126]⟩ : ByteArray) md dd pd w) (k : Nat) (r : Int) (hr : semver_comparePrerelease.f k s s' = some r) :
    Calls Tryd.prog 134 #[.pointer (some ⟨z, 0, none⟩), .pointer (some ⟨p, 0, none⟩), .bool pre] w (Says w (!gate s pre && tiB (cmpF a b c a' b' c' s s' r) a b a' b' c' md pd)) := by
  have HT := Lib.hid hT
  have HR := Lib.hid hr
  obtain ⟨j0, j1, j2, j3, j4, j5⟩ := hT.z
  clear hT hr j0 j1 j3 j4 j5
  go_enter Tryd.func134, Tryd.ntmps134
  go_wp2_with (go_at_call 140; refine (Ti_any p q z a b c a' b' c' s m o s' m' o' g (⟨#[126]⟩ : ByteArray) md dd pd hpq pre _ HT.out k r HR.out).mono ?_; rintro e w' ⟨⟨x, rfl⟩, hb⟩)
  go_ret2
  exact ⟨⟨_, rfl⟩, hb⟩
set_option maxHeartbeats 4000000 in
set_option maxRecDepth 100000 in
theorem check_7 (p q z : Nat) (a b c a' b' c' : Int) (s m o s' m' o' g : ByteArray) (md dd pd : Bool) (hpq : p ≠ q) (pre : Bool) (w : World) (hT : Tri w p q z a b c a' b' c' s m o s' m' o' g (⟨#[94]⟩ : ByteArray) md dd pd w) (k : Nat) (r : Int) (hr : semver_comparePrerelease.f k s s' = some r) :
    Calls Tryd.prog 134 #[.pointer (some ⟨z, 0, none⟩), .pointer (some ⟨p, 0, none⟩), .bool pre] w (Says w (!gate s pre && caB (cmpF a b c a' b' c' s s' r) a b c a' b' c' md pd)) := by
  have HT := Lib.hid hT
  have HR := Lib.hid hr
  obtain ⟨j0, j1, j2, j3, j4, j5⟩ := hT.z
  clear hT hr j0 j1 j3 j4 j5
  go_enter Tryd.func134, Tryd.ntmps134
  go_wp2_with (go_at_call 141; refine (Ca_any p q z a b c a' b' c' s m o s' m' o' g (⟨#[94]⟩ : ByteArray) md dd pd hpq pre _ HT.out k r HR.out).mono ?_; rintro e w' ⟨⟨x, rfl⟩, hb⟩)
  go_ret2
  exact ⟨⟨_, rfl⟩, hb⟩
theorem check_any (p q z : Nat) (a b c a' b' c' : Int) (s m o s' m' o' g : ByteArray) (md dd pd : Bool) (op : Int) (h0 : 0 ≤ op) (h8 : op < 8) (hpq : p ≠ q) (pre : Bool) (w : World) (hT : Tri w p q z a b c a' b' c' s m o s' m' o' g (opS op) md dd pd w) (k : Nat) (r : Int) (hr : semver_comparePrerelease.f k s s' = some r) :
    Calls Tryd.prog 134 #[.pointer (some ⟨z, 0, none⟩), .pointer (some ⟨p, 0, none⟩), .bool pre] w (Says w (!gate s pre && opB op (cmpF a b c a' b' c' s s' r) a b c a' b' c' r s s' md dd pd)) := by
  have h : op = 0 ∨ op = 1 ∨ op = 2 ∨ op = 3 ∨ op = 4 ∨ op = 5 ∨ op = 6 ∨ op = 7 := by omega
  rcases h with rfl | rfl | rfl | rfl | rfl | rfl | rfl | rfl
  · exact check_0 p q z a b c a' b' c' s m o s' m' o' g md dd pd hpq pre w hT k r hr
  · exact check_1 p q z a b c a' b' c' s m o s' m' o' g md dd pd hpq pre w hT k r hr
  · exact check_2 p q z a b c a' b' c' s m o s' m' o' g md dd pd hpq pre w hT k r hr
  · exact check_3 p q z a b c a' b' c' s m o s' m' o' g md dd pd hpq pre w hT k r hr
  · exact check_4 p q z a b c a' b' c' s m o s' m' o' g md dd pd hpq pre w hT k r hr
  · exact check_5 p q z a b c a' b' c' s m o s' m' o' g md dd pd hpq pre w hT k r hr
  · exact check_6 p q z a b c a' b' c' s m o s' m' o' g md dd pd hpq pre w hT k r hr
  · exact check_7 p q z a b c a' b' c' s m o s' m' o' g md dd pd hpq pre w hT k r hr
set_option maxHeartbeats 4000000 in
set_option maxRecDepth 100000 in
theorem ZZCheck_any (p q : Nat) (a b c a' b' c' : Int) (s m o s' m' o' f : ByteArray) (md dd pd : Bool) (op : Int) (h0 : 0 ≤ op) (h8 : op < 8) (hpq : p ≠ q) (pre : Bool) (w : World) (hv : IsVer w p a b c s m o) (hu : IsVer w q a' b' c' s' m' o') (hp : Blk w p) (hq : Blk w q) (hG : GlobE w) (k : Nat) (r : Int) (hr : semver_comparePrerelease.f k s s' = some r) :
    Calls Tryd.prog 96 #[.agg #[.string (opS op), .pointer (some ⟨q, 0, none⟩), .bool dd, .bool md, .bool pd], .pointer (some ⟨p, 0, none⟩), .bool pre] w (Says w (!gate s pre && opB op (cmpF a b c a' b' c' s s' r) a b c a' b' c' r s s' md dd pd)) := by
  have HR := Lib.hid hr
  have HV := Lib.hid hv
  have HU := Lib.hid hu
  have HP := Lib.hid hp
  have HQ := Lib.hid hq
  have HG := Lib.hid hG
  clear hr hv hu hp hq hG
  go_enter Tryd.func96, Tryd.ntmps96
  go_wp2_with (first | (go_at_call 123; refine (inner_any _ _ _ _ _ _).mono ?_; rintro e w' ⟨rfl, rfl⟩) | (go_at_call 134; refine (check_any p q _ a b c a' b' c' s m o s' m' o' ⟨#[]⟩ md dd pd op h0 h8 hpq pre _ (con_new w q (opS op) md dd pd p _ _ _ _ HV.out HU.out HP.out HQ.out HG.out _ rfl) k r HR.out).mono ?_; rintro e w' ⟨⟨x, rfl⟩, hb⟩))
  go_ret2
  exact ⟨⟨_, rfl⟩, bl_on (by repeat (first | exact Below.refl _ _ | apply bl_alloc)) hb⟩
set_option maxHeartbeats 4000000 in
set_option maxRecDepth 100000 in
theorem TermHolds_any (op gv a' b' c' : Int) (s' : ByteArray) (a b c : Int) (s m : ByteArray) (pre : Bool) (w : World) (hg0 : 0 ≤ gv) (hg3 : gv ≤ 3) (ho0 : 0 ≤ op) (ho8 : op < 8) (hG : GlobE w) (k : Nat) (r : Int) (hr : semver_comparePrerelease.f k s s' = some r) :
    Calls Tryd.prog 48 #[.agg #[.int .i64 op, .int .i64 gv, .int .u64 a', .int .u64 b', .int .u64 c', .string s'], .agg #[.int .u64 a, .int .u64 b, .int .u64 c, .string s, .string m], .bool pre] w fun e w' => e = .returned (.bool (!gate s pre && opB op (cmpF a b c a' b' c' s s' r) a b c a' b' c' r s s' (gv == 1) (decide (gv < 3)) (gv == 2))) ∧ Below w.heap.size w w' := by
  have HR := Lib.hid hr
  have HG := Lib.hid hG
  have HB := Lib.hid (boxes_start w op gv a' b' c' s' a b c s m)
  clear hr hG
  go_enter Tryd.func48, Tryd.ntmps48
  go_wp2_with fail
  first | go_region_held3 (fun W => W.cell? ⟨w.heap.size, 0, none⟩ = some (.int .i64 op) ∧ W.cell? ⟨w.heap.size, 1, none⟩ = some (.int .i64 gv) ∧ W.cell? ⟨w.heap.size, 2, none⟩ = some (.int .u64 a') ∧ W.cell? ⟨w.heap.size, 3, none⟩ = some (.int .u64 b') ∧ W.cell? ⟨w.heap.size, 4, none⟩ = some (.int .u64 c') ∧ W.cell? ⟨w.heap.size, 5, none⟩ = some (.string s') ∧ W.cell? ⟨w.heap.size + 1, 0, none⟩ = some (.int .u64 a) ∧ W.cell? ⟨w.heap.size + 1, 1, none⟩ = some (.int .u64 b) ∧ W.cell? ⟨w.heap.size + 1, 2, none⟩ = some (.int .u64 c) ∧ W.cell? ⟨w.heap.size + 1, 3, none⟩ = some (.string s) ∧ W.cell? ⟨w.heap.size + 1, 4, none⟩ = some (.string m) ∧ Hid (Below w.heap.size w W)) (first | assumption | exact boxes_on (drew_below _) HB.out | (apply boxes_on <;> first | assumption | exact boxes_on (drew_below _) HB.out)) (first
    | (go_at_call 85; refine (term_any _ _ _ _ _ _ _ hg0 hg3).mono ?_; rintro e w1 ⟨f, q, rfl, hf, hL⟩; obtain rfl := hf ho0 ho8; have hLb := hL.bel)
    | (go_at_call 66; refine (version_laid _ _ _ _ _ _).mono ?_; rintro e w2 ⟨p, rfl, hM⟩; have hMb := hM.bel)
    | (go_at_call 96; refine (ZZCheck_any p q a b c a' b' c' s m ⟨#[]⟩ s' ⟨#[]⟩ ⟨#[]⟩ (opS op) (gv == 1) (decide (gv < 3)) (gv == 2) op ho0 ho8 (laid_ne hL hM) pre _ hM.v (hL.v.below hM.bel) hM.b (kblk_below hL.b hM.bel) (globE_below HG.out (bl_on (bl_on (by repeat (first | exact Below.refl _ _ | apply bl_drew | apply bl_alloc)) hL.bel) hM.bel)) k r HR.out).mono ?_; rintro e w' ⟨⟨x, rfl⟩, hb⟩)) | fail
  rename_i hH
  have HH := Lib.hid hH.2.2.2.2.2.2.2.2.2.2.2.out
  clear hH
  go_wp2_with fail
  go_ret
  exact ⟨rfl, HH.out⟩
def impl_TermHolds.f (k : Nat) (op gv a' b' c' : Int) (s' : ByteArray) (a b c : Int) (s m : ByteArray) (pre : Bool) : Option Bool := if 0 ≤ gv ∧ gv ≤ 3 ∧ 0 ≤ op ∧ op < 8 then (semver_comparePrerelease.f k s s').bind fun r => some (!gate s pre && opB op (cmpF a b c a' b' c' s s' r) a b c a' b' c' r s s' (gv == 1) (decide (gv < 3)) (gv == 2)) else none
theorem impl_TermHolds.mono : ∀ op gv a' b' c' s' a b c s m pre k, LeO (impl_TermHolds.f k op gv a' b' c' s' a b c s m pre) (impl_TermHolds.f (k + 1) op gv a' b' c' s' a b c s m pre) := by
  intro op gv a' b' c' s' a b c s m pre k
  exact leO_if (LeO.bind (semver_comparePrerelease.mono s s' k) (fun _ => LeO.refl _)) (LeO.none _)
theorem impl_TermHolds.calls (k : Nat) (op gv a' b' c' : Int) (s' : ByteArray) (a b c : Int) (s m : ByteArray) (pre : Bool) (r : Bool) (w : World) (hGE : GlobE w) (h : impl_TermHolds.f k op gv a' b' c' s' a b c s m pre = some r) :
    Calls Tryd.prog 48 #[.agg #[.int .i64 op, .int .i64 gv, .int .u64 a', .int .u64 b', .int .u64 c', .string s'], .agg #[.int .u64 a, .int .u64 b, .int .u64 c, .string s, .string m], .bool pre] w fun e w' => e = .returned (.bool r) ∧ Below w.heap.size w w' := by
  unfold impl_TermHolds.f at h
  by_cases hc : 0 ≤ gv ∧ gv ≤ 3 ∧ 0 ≤ op ∧ op < 8
  · rw [if_pos hc] at h
    obtain ⟨x, hx, h⟩ := Option.bind_eq_some_iff.1 h
    obtain rfl := Option.some.inj h
    exact TermHolds_any op gv a' b' c' s' a b c s m pre w hc.1 hc.2.1 hc.2.2.1 hc.2.2.2 hGE k x hx
  · rw [if_neg hc] at h; cases h
end Go.Proofs.YtlooelfkkbgmhaaDoor
