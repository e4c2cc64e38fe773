-- written by a program of mine (wip/tools/bigprint.py over myprint.py) for this claim. Not trusted: Lean checks it.
import Derived.Test.YtlooelfkkbgmhaaDoorCmp
import Derived.Test.YtlooelfkkbgmhaaDoorQSA
import Derived.Test.YtlooelfkkbgmhaaDoorQlawssvRun
import Derived.Test.YtlooelfkkbgmhaaDoorQspecBare
import Derived.Test.YtlooelfkkbgmhaaDoorQspecPlain
import Derived.Test.YtlooelfkkbgmhaaDoorQeqA24
namespace Go.Proofs.YtlooelfkkbgmhaaDoor.QS
open Go.RowKit Go.Proofs.YtlooelfkkbgmhaaDoorW.PrintWords Go.Proofs.YtlooelfkkbgmhaaDoorW.PrintLast
set_option linter.unusedVariables false
set_option linter.unusedSimpArgs false

attribute [local go_sem high] eqA24
/-! ### laws_FnSemverIncRun: function 9 -/
mutual
def laws_FnSemverIncRun.j0 : Nat → List Int → Bool → Int → Int → Int → ByteArray → ByteArray → Option (Bool)
 | 0, _, _, _, _, _, _, _ => none
 | k + 1, x1, x17, x174000, x174001, x174002, x174003, x174004 => if x17 = true then (some true) else ((laws_svGood.f k (([(⟨x174000, x174001, x174002, x174003, x174004⟩ : S24)] : List (S24)))).bind fun t178 => (if t178 = true then ((spec_Plain.f k x174000 x174001 x174002 x174003 x174004).bind fun t179 => (if t179 = true then (if (x1.length : Int) > 64 then (laws_FnSemverIncRun.j1 k x1 true x174000 x174001 x174002 x174003 x174004) else (laws_FnSemverIncRun.j1 k x1 ((IntKind.u64.wrap ((IntKind.u64.wrap ((x174000 / 9223372036854775808) + (x174001 / 9223372036854775808))) + (x174002 / 9223372036854775808))) != 0) x174000 x174001 x174002 x174003 x174004)) else (laws_FnSemverIncRun.j1 k x1 true x174000 x174001 x174002 x174003 x174004))) else (laws_FnSemverIncRun.j1 k x1 true x174000 x174001 x174002 x174003 x174004)))
def laws_FnSemverIncRun.j1 : Nat → List Int → Bool → Int → Int → Int → ByteArray → ByteArray → Option (Bool)
 | 0, _, _, _, _, _, _, _ => none
 | k + 1, x1, x45, x174000, x174001, x174002, x174003, x174004 => if x45 = true then (some true) else ((laws_svRun.f k x174000 x174001 x174002 x174003 x174004 x1).bind fun t180 => ((spec_Bare.f x174000 x174001 x174002 x174003 x174004).bind fun bt183 => (laws_FnSemverIncRun.l0 k t180 (x174003.toList != ([] : List UInt8)) x1 (x1.length : Int) 0 bt183.1 bt183.2.1 bt183.2.2.1 bt183.2.2.2.1 bt183.2.2.2.2)))
def laws_FnSemverIncRun.l0 : Nat → List (S24) → Bool → List Int → Int → Int → Int → Int → Int → ByteArray → ByteArray → Option (Bool)
 | 0, _, _, _, _, _, _, _, _, _, _ => none
 | k + 1, x5, x7, x54, x55, x56, x189000, x189001, x189002, x189003, x189004 => if x56 < x55 then (if 0 ≤ x56 then (if x56 < (x54.length : Int) then (if (rd x54 x56) > 1 then (laws_FnSemverIncRun.j3 k x5 x56 x54 x55 x56 (IntKind.u64.wrap (x189000 + 1)) 0 0 (⟨#[]⟩ : ByteArray) (⟨#[]⟩ : ByteArray)) else (if (rd x54 x56) = 1 then (laws_FnSemverIncRun.j3 k x5 x56 x54 x55 x56 x189000 (IntKind.u64.wrap (x189001 + 1)) 0 x189003 x189004) else (if x7 = true then (laws_FnSemverIncRun.j3 k x5 x56 x54 x55 x56 x189000 x189001 x189002 x189003 x189004) else (laws_FnSemverIncRun.j3 k x5 x56 x54 x55 x56 x189000 x189001 (IntKind.u64.wrap (x189002 + 1)) x189003 x189004)))) else (none)) else (none)) else (some true)
def laws_FnSemverIncRun.j3 : Nat → List (S24) → Int → List Int → Int → Int → Int → Int → Int → ByteArray → ByteArray → Option (Bool)
 | 0, _, _, _, _, _, _, _, _, _, _ => none
 | k + 1, x5, x8, x54, x55, x56, x189000, x189001, x189002, x189003, x189004 => if 0 ≤ x8 then (if x8 < (x5.length : Int) then (if 0 ≤ (wrap64 (x8 + 1)) then (if (wrap64 (x8 + 1)) < (x5.length : Int) then ((impl_VersionLess.f k ((rd_T24 x5 x8).f0) ((rd_T24 x5 x8).f1) ((rd_T24 x5 x8).f2) ((rd_T24 x5 x8).f3) ((rd_T24 x5 x8).f4) ((rd_T24 x5 (wrap64 (x8 + 1))).f0) ((rd_T24 x5 (wrap64 (x8 + 1))).f1) ((rd_T24 x5 (wrap64 (x8 + 1))).f2) ((rd_T24 x5 (wrap64 (x8 + 1))).f3) ((rd_T24 x5 (wrap64 (x8 + 1))).f4)).bind fun t192 => (if t192 = true then (if 0 < (x5.length : Int) then ((impl_VersionLess.f k ((rd_T24 x5 0).f0) ((rd_T24 x5 0).f1) ((rd_T24 x5 0).f2) ((rd_T24 x5 0).f3) ((rd_T24 x5 0).f4) ((rd_T24 x5 (wrap64 (x8 + 1))).f0) ((rd_T24 x5 (wrap64 (x8 + 1))).f1) ((rd_T24 x5 (wrap64 (x8 + 1))).f2) ((rd_T24 x5 (wrap64 (x8 + 1))).f3) ((rd_T24 x5 (wrap64 (x8 + 1))).f4)).bind fun t195 => (if t195 = true then (if (!(((rd_T24 x5 (wrap64 (x8 + 1))).f0) == x189000) || (!(((rd_T24 x5 (wrap64 (x8 + 1))).f1) == x189001) || (!(((rd_T24 x5 (wrap64 (x8 + 1))).f2) == x189002) || (!((((rd_T24 x5 (wrap64 (x8 + 1))).f3).toList) == x189003.toList) || (!((((rd_T24 x5 (wrap64 (x8 + 1))).f4).toList) == x189004.toList)))))) = true then (some false) else (laws_FnSemverIncRun.l0 k x5 false x54 x55 (wrap64 (x56 + 1)) x189000 x189001 x189002 x189003 x189004)) else (some false))) else (none)) else (some false))) else (none)) else (none)) else (none)) else (none)
end
def laws_FnSemverIncRun.f (k : Nat) (a0_0 : Int) (a0_1 : Int) (a0_2 : Int) (a0_3 : ByteArray) (a0_4 : ByteArray) (l1 : List Int) : Option (Bool) := (laws_zzFits14.f a0_0 a0_1 a0_2 a0_3 a0_4).bind fun t174 => (if t174 = true then (laws_FnSemverIncRun.j0 k l1 (decide ((l1.length : Int) > 2147483647)) a0_0 a0_1 a0_2 a0_3 a0_4) else (laws_FnSemverIncRun.j0 k l1 true a0_0 a0_1 a0_2 a0_3 a0_4))
theorem laws_FnSemverIncRun.mono_l : ∀ k, (∀ y0 y1 y2 y3 y4 y5 y6, LeO (laws_FnSemverIncRun.j0 k y0 y1 y2 y3 y4 y5 y6) (laws_FnSemverIncRun.j0 (k + 1) y0 y1 y2 y3 y4 y5 y6)) ∧ (∀ y0 y1 y2 y3 y4 y5 y6, LeO (laws_FnSemverIncRun.j1 k y0 y1 y2 y3 y4 y5 y6) (laws_FnSemverIncRun.j1 (k + 1) y0 y1 y2 y3 y4 y5 y6)) ∧ (∀ y0 y1 y2 y3 y4 y5 y6 y7 y8 y9, LeO (laws_FnSemverIncRun.l0 k y0 y1 y2 y3 y4 y5 y6 y7 y8 y9) (laws_FnSemverIncRun.l0 (k + 1) y0 y1 y2 y3 y4 y5 y6 y7 y8 y9)) ∧ (∀ y0 y1 y2 y3 y4 y5 y6 y7 y8 y9, LeO (laws_FnSemverIncRun.j3 k y0 y1 y2 y3 y4 y5 y6 y7 y8 y9) (laws_FnSemverIncRun.j3 (k + 1) y0 y1 y2 y3 y4 y5 y6 y7 y8 y9))
 | 0 => ⟨fun _ _ _ _ _ _ _ r h => by simp [laws_FnSemverIncRun.j0] at h, fun _ _ _ _ _ _ _ r h => by simp [laws_FnSemverIncRun.j1] at h, fun _ _ _ _ _ _ _ _ _ _ r h => by simp [laws_FnSemverIncRun.l0] at h, fun _ _ _ _ _ _ _ _ _ _ r h => by simp [laws_FnSemverIncRun.j3] at h⟩
 | k + 1 => by
  obtain ⟨ih0, ih1, ih2, ih3⟩ := laws_FnSemverIncRun.mono_l k
  refine ⟨?_, ?_, ?_, ?_⟩
  ·intro y0 y1 y2 y3 y4 y5 y6
   unfold laws_FnSemverIncRun.j0
   repeat' first
   | (with_reducible exact ih0 _ _ _ _ _ _ _)
   | (with_reducible exact ih1 _ _ _ _ _ _ _)
   | (with_reducible exact ih2 _ _ _ _ _ _ _ _ _ _)
   | (with_reducible exact ih3 _ _ _ _ _ _ _ _ _ _)
   | (with_reducible exact impl_VersionLess.mono _ _ _ _ _ _ _ _ _ _ _)
   | (with_reducible exact laws_svGood.mono _ _)
   | (with_reducible exact laws_svRun.mono _ _ _ _ _ _ _)
   | (with_reducible exact spec_Plain.mono _ _ _ _ _ _)
   | (with_reducible exact LeO.refl _)
   | (with_reducible exact LeO.none _)
   | (with_reducible refine LeO.ite ?_ ?_)
   | (with_reducible refine LeO.bind ?_ (fun _ => ?_))
   | exact ih0 _ _ _ _ _ _ _
   | exact ih1 _ _ _ _ _ _ _
   | exact ih2 _ _ _ _ _ _ _ _ _ _
   | exact ih3 _ _ _ _ _ _ _ _ _ _
   | exact impl_VersionLess.mono _ _ _ _ _ _ _ _ _ _ _
   | exact laws_svGood.mono _ _
   | exact laws_svRun.mono _ _ _ _ _ _ _
   | exact spec_Plain.mono _ _ _ _ _ _
   | exact LeO.none _
   | refine LeO.ite ?_ ?_
   | refine LeO.bind ?_ (fun _ => ?_)
  ·intro y0 y1 y2 y3 y4 y5 y6
   unfold laws_FnSemverIncRun.j1
   repeat' first
   | (with_reducible exact ih0 _ _ _ _ _ _ _)
   | (with_reducible exact ih1 _ _ _ _ _ _ _)
   | (with_reducible exact ih2 _ _ _ _ _ _ _ _ _ _)
   | (with_reducible exact ih3 _ _ _ _ _ _ _ _ _ _)
   | (with_reducible exact impl_VersionLess.mono _ _ _ _ _ _ _ _ _ _ _)
   | (with_reducible exact laws_svGood.mono _ _)
   | (with_reducible exact laws_svRun.mono _ _ _ _ _ _ _)
   | (with_reducible exact spec_Plain.mono _ _ _ _ _ _)
   | (with_reducible exact LeO.refl _)
   | (with_reducible exact LeO.none _)
   | (with_reducible refine LeO.ite ?_ ?_)
   | (with_reducible refine LeO.bind ?_ (fun _ => ?_))
   | exact ih0 _ _ _ _ _ _ _
   | exact ih1 _ _ _ _ _ _ _
   | exact ih2 _ _ _ _ _ _ _ _ _ _
   | exact ih3 _ _ _ _ _ _ _ _ _ _
   | exact impl_VersionLess.mono _ _ _ _ _ _ _ _ _ _ _
   | exact laws_svGood.mono _ _
   | exact laws_svRun.mono _ _ _ _ _ _ _
   | exact spec_Plain.mono _ _ _ _ _ _
   | exact LeO.none _
   | refine LeO.ite ?_ ?_
   | refine LeO.bind ?_ (fun _ => ?_)
  ·intro y0 y1 y2 y3 y4 y5 y6 y7 y8 y9
   unfold laws_FnSemverIncRun.l0
   repeat' first
   | (with_reducible exact ih0 _ _ _ _ _ _ _)
   | (with_reducible exact ih1 _ _ _ _ _ _ _)
   | (with_reducible exact ih2 _ _ _ _ _ _ _ _ _ _)
   | (with_reducible exact ih3 _ _ _ _ _ _ _ _ _ _)
   | (with_reducible exact impl_VersionLess.mono _ _ _ _ _ _ _ _ _ _ _)
   | (with_reducible exact laws_svGood.mono _ _)
   | (with_reducible exact laws_svRun.mono _ _ _ _ _ _ _)
   | (with_reducible exact spec_Plain.mono _ _ _ _ _ _)
   | (with_reducible exact LeO.refl _)
   | (with_reducible exact LeO.none _)
   | (with_reducible refine LeO.ite ?_ ?_)
   | (with_reducible refine LeO.bind ?_ (fun _ => ?_))
   | exact ih0 _ _ _ _ _ _ _
   | exact ih1 _ _ _ _ _ _ _
   | exact ih2 _ _ _ _ _ _ _ _ _ _
   | exact ih3 _ _ _ _ _ _ _ _ _ _
   | exact impl_VersionLess.mono _ _ _ _ _ _ _ _ _ _ _
   | exact laws_svGood.mono _ _
   | exact laws_svRun.mono _ _ _ _ _ _ _
   | exact spec_Plain.mono _ _ _ _ _ _
   | exact LeO.none _
   | refine LeO.ite ?_ ?_
   | refine LeO.bind ?_ (fun _ => ?_)
  ·intro y0 y1 y2 y3 y4 y5 y6 y7 y8 y9
   unfold laws_FnSemverIncRun.j3
   repeat' first
   | (with_reducible exact ih0 _ _ _ _ _ _ _)
   | (with_reducible exact ih1 _ _ _ _ _ _ _)
   | (with_reducible exact ih2 _ _ _ _ _ _ _ _ _ _)
   | (with_reducible exact ih3 _ _ _ _ _ _ _ _ _ _)
   | (with_reducible exact impl_VersionLess.mono _ _ _ _ _ _ _ _ _ _ _)
   | (with_reducible exact laws_svGood.mono _ _)
   | (with_reducible exact laws_svRun.mono _ _ _ _ _ _ _)
   | (with_reducible exact spec_Plain.mono _ _ _ _ _ _)
   | (with_reducible exact LeO.refl _)
   | (with_reducible exact LeO.none _)
   | (with_reducible refine LeO.ite ?_ ?_)
   | (with_reducible refine LeO.bind ?_ (fun _ => ?_))
   | exact ih0 _ _ _ _ _ _ _
   | exact ih1 _ _ _ _ _ _ _
   | exact ih2 _ _ _ _ _ _ _ _ _ _
   | exact ih3 _ _ _ _ _ _ _ _ _ _
   | exact impl_VersionLess.mono _ _ _ _ _ _ _ _ _ _ _
   | exact laws_svGood.mono _ _
   | exact laws_svRun.mono _ _ _ _ _ _ _
   | exact spec_Plain.mono _ _ _ _ _ _
   | exact LeO.none _
   | refine LeO.ite ?_ ?_
   | refine LeO.bind ?_ (fun _ => ?_)
theorem laws_FnSemverIncRun.mono : ∀ a0 a1 a2 a3 a4 a5 k, LeO (laws_FnSemverIncRun.f k a0 a1 a2 a3 a4 a5) (laws_FnSemverIncRun.f (k + 1) a0 a1 a2 a3 a4 a5) := by
 intro a0 a1 a2 a3 a4 a5 k
 obtain ⟨ih0, ih1, ih2, ih3⟩ := laws_FnSemverIncRun.mono_l k
 unfold laws_FnSemverIncRun.f
 repeat' first
   | (with_reducible exact ih0 _ _ _ _ _ _ _)
   | (with_reducible exact ih1 _ _ _ _ _ _ _)
   | (with_reducible exact ih2 _ _ _ _ _ _ _ _ _ _)
   | (with_reducible exact ih3 _ _ _ _ _ _ _ _ _ _)
   | (with_reducible exact impl_VersionLess.mono _ _ _ _ _ _ _ _ _ _ _)
   | (with_reducible exact laws_svGood.mono _ _)
   | (with_reducible exact laws_svRun.mono _ _ _ _ _ _ _)
   | (with_reducible exact spec_Plain.mono _ _ _ _ _ _)
   | (with_reducible exact LeO.refl _)
   | (with_reducible exact LeO.none _)
   | (with_reducible refine LeO.ite ?_ ?_)
   | (with_reducible refine LeO.bind ?_ (fun _ => ?_))
   | exact ih0 _ _ _ _ _ _ _
   | exact ih1 _ _ _ _ _ _ _
   | exact ih2 _ _ _ _ _ _ _ _ _ _
   | exact ih3 _ _ _ _ _ _ _ _ _ _
   | exact impl_VersionLess.mono _ _ _ _ _ _ _ _ _ _ _
   | exact laws_svGood.mono _ _
   | exact laws_svRun.mono _ _ _ _ _ _ _
   | exact spec_Plain.mono _ _ _ _ _ _
   | exact LeO.none _
   | refine LeO.ite ?_ ?_
   | refine LeO.bind ?_ (fun _ => ?_)
def laws_FnSemverIncRun.T5 : Bool × List (List Nat × List Nat) := (true, [([], []), ([], []), ([0, 1], [0, 1]), ([], []), ([3, 2], [3]), ([], []), ([5], [5]), ([6], [6]), ([], []), ([2, 4, 0, 1, 2, 8], [2]), ([8, 4, 9, 0, 1, 2, 3, 4, 8, 9], [4, 8]), ([7, 10, 0, 1, 2, 3, 4, 5, 6, 7, 8, 9, 10], [7])])
def laws_FnSemverIncRun.B5 : List Nat := [0, 0, 3, 0, 15, 0, 32, 96, 0, 287, 799, 2047]
theorem laws_FnSemverIncRun.tab5 : rtab .any (opsOf Tryd.f9 5) = laws_FnSemverIncRun.T5 := by kernel_rfl
theorem laws_FnSemverIncRun.bits5 : waitsOk laws_FnSemverIncRun.T5.2 laws_FnSemverIncRun.B5 = true := by kernel_rfl
def laws_FnSemverIncRun.T16 : Bool × List (List Nat × List Nat) := (true, [([], []), ([], []), ([0, 1], [0, 1]), ([2], [2]), ([], []), ([], []), ([5], [5]), ([4, 6], [4, 6]), ([7], [7]), ([3, 8], [3, 8]), ([9], [9]), ([10, 9], [10]), ([11], [11]), ([12, 11], [11, 12]), ([13, 11], [11, 13]), ([11], [11]), ([11], [11]), ([16, 11], [11, 16]), ([15, 17, 11], [11, 15, 17]), ([18, 11], [11, 18]), ([14, 19, 11, 11], [11, 14, 19]), ([20, 11], [11, 20]), ([11, 21], [11, 21]), ([22, 20], [22]), ([23], [23]), ([23], [23]), ([25, 23], [23, 25]), ([24, 26, 23], [23, 24, 26]), ([27, 23], [23, 27]), ([23], [23]), ([28, 29, 23], [23, 28, 29]), ([23, 30], [23, 30])])
def laws_FnSemverIncRun.B16 : List Nat := [0, 0, 3, 7, 0, 0, 32, 112, 240, 511, 1023, 2047, 4095, 8191, 16383, 4095, 4095, 69631, 233471, 495615, 1048575, 2097151, 4194303, 8388607, 16777215, 16777215, 50331647, 134217727, 268435455, 16777215, 1073741823, 2147483647]
theorem laws_FnSemverIncRun.tab16 : rtab .any (opsOf Tryd.f9 16) = laws_FnSemverIncRun.T16 := by kernel_rfl
theorem laws_FnSemverIncRun.bits16 : waitsOk laws_FnSemverIncRun.T16.2 laws_FnSemverIncRun.B16 = true := by kernel_rfl
end Go.Proofs.YtlooelfkkbgmhaaDoor.QS
