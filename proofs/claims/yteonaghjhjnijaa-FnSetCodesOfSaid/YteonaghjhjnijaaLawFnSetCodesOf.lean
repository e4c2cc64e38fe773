-- written by a program of mine (wip/tools/myrow.py): the row of the law laws_FnSetCodesOf. Not trusted: Lean checks it.
import Derived.Test.YteonaghjhjnijaaRows
import Derived.Test.YteonaghjhjnijaaQWx3
import Derived.Test.YteonaghjhjnijaaMyRow
import Derived.Test.YteonaghjhjnijaaPureFnSetCodesOf
import Derived.WalkKit
import Derived.ProofKit
import Derived.OpenShut
import Derived.ShutString
import Derived.ChangeOld
import Derived.Below
import Derived.Carry
namespace Go.Proofs.Yteonaghjhjnijaa.fnSetCodesOf
open Go.ChangeShapes Go.WideShapes Go.ChangeAt Go.RowKit Go.Proofs.YteonaghjhjnijaaW.PrintWords Go.Proofs.Yteonaghjhjnijaa.QW
set_option linter.unusedVariables false
theorem own : ownKnob Try.prog.godebug = none := by kernel_rfl
theorem laidOut : laidOutB Try.prog = true := by kernel_rfl
set_option maxRecDepth 100000 in
theorem lifted (os : Os) (started : os.Started) (H : Type) (enc : TypeId × Value → H) :
    ReturnsInHanded {} Try.checked os 3 .any (Rows.fnSetCodesOfSpec.pre6 enc Try.prog Try.f3 Rows.fnSetCodesOfRow.domain false) (Rows.fnSetCodesOfSpec.post enc Try.prog Try.f3 false true false false) := by
  refine returnsInHanded_of_change (C := Try.checked) own started (by kernel_rfl) Try.func3
    (ChangeSpec.witness6 (enc := enc) (C := Try.checked) false ⟨#[], #[.string ByteArray.empty, .slice none 0 0, .int .i64 0], []⟩ 8 (by kernel_rfl) (by kernel_rfl) (by kernel_rfl) (by kernel_rfl)) ?_
  intro W base args ds gs before hval0 hW hcnd _
  have hval : ∀ (j : Nat) t v, Try.f3.params[j]? = some t → args[j]? = some v → Value.okWide Try.prog W .any base t v := hval0
  have hW' := hW
  obtain ⟨p, q, hA0, hV, rfl, hfz, hnd⟩ := hW
  have hA : DataW.TrodAll enc Try.prog W 0 (fun _ => true) true Try.f3.params.toList args.toList ds p := hA0
  rw [Try.params3] at hA hval
  obtain ⟨v0, vs0, d0, ds0, p0, q0, hargs, rfl, rfl, h0, r0⟩ := trodAll_cons hA
  obtain ⟨v1, vs1, d1, ds1, p1, q1, rfl, rfl, rfl, h1, r1⟩ := trodAll_cons r0
  obtain ⟨v2, vs2, d2, ds2, p2, q2, rfl, rfl, rfl, h2, r2⟩ := trodAll_cons r1
  obtain ⟨rfl, rfl, rfl⟩ := trodAll_nil r2
  obtain rfl : args = #[v0, v1, v2] := by cases args; simp_all
  obtain ⟨rfl, rfl⟩ := trodVars_none hV
  have k0 := h0
  have lt0 : ∀ x ∈ p0, x.block < W.heap.size := by obtain ⟨m, hm⟩ := k0; exact DataW.trod_lt m _ _ _ hm
  obtain ⟨fuel0, hf0⟩ := h0
  obtain ⟨a0, rfl⟩ : ∃ a, v0 = .string a := by
    obtain ⟨a, rfl, _⟩ := Go.ChangeMaps.open_string Try.underlying9 (hval 0 9 v0 rfl rfl) k0
    exact ⟨a, rfl⟩
  obtain ⟨b0, e0, w0⟩ := (opens_str Try.underlying9) (show DataW.trod enc Try.prog W 0 (fun _ => true) true fuel0 9 [.string a0] = some _ from hf0)
  obtain rfl : a0 = b0 := by simpa [Kd.int, Kd.bool, Kd.string, Kd.scalar] using e0
  have k1 := h1
  have lt1 : ∀ x ∈ p1, x.block < W.heap.size := by obtain ⟨m, hm⟩ := k1; exact DataW.trod_lt m _ _ _ hm
  obtain ⟨fuel1, hf1⟩ := h1
  obtain ⟨A1, len1, cap1, rfl⟩ := okWide_slice Try.underlying22 (hval 1 22 v1 rfl rfl)
  obtain ⟨l1, ⟨B1, c1, e1, hc1, hr1⟩, w1⟩ := (opens_slice Try.underlying22 (by kernel_rfl) (opens_str Try.underlying9)) (show DataW.trod enc Try.prog W 0 (fun _ => true) true fuel1 22 [.slice A1 len1 cap1] = some _ from hf1)
  obtain ⟨rfl, rfl, rfl⟩ : A1 = B1 ∧ len1 = l1.length ∧ cap1 = c1 := by simpa using e1
  have k2 := h2
  have lt2 : ∀ x ∈ p2, x.block < W.heap.size := by obtain ⟨m, hm⟩ := k2; exact DataW.trod_lt m _ _ _ hm
  obtain ⟨fuel2, hf2⟩ := h2
  obtain ⟨a2, rfl⟩ : ∃ a, v2 = .int .i64 a := by
    obtain ⟨a, rfl, _⟩ := open_int Try.underlying3 (hval 2 3 v2 rfl rfl) k2
    exact ⟨a, rfl⟩
  obtain ⟨b2, e2, w2⟩ := (opens_int Try.underlying3) (show DataW.trod enc Try.prog W 0 (fun _ => true) true fuel2 3 [.int .i64 a2] = some _ from hf2)
  obtain rfl : a2 = b2 := by simpa [Kd.int, Kd.bool, Kd.string, Kd.scalar] using e2
  obtain ⟨k, hk⟩ := Pure.FnSetCodesOf a0 l1 a2 w0 w1 w2
  refine (laws_FnSetCodesOf.calls k a0 A1 cap1 l1 a2 true W hr1 hc1 hk).mono fun e W' ⟨he, bel0⟩ => ?_
  have bel : Below W.heap.size W W' := bel0
  subst he
  exact ⟨_, rfl, _, _, _, [], _, [], hW', trodAll_mk1 (shut_bool Try.underlying4 _), (trodAll_cons_mk (Below.trod laidOut (by kernel_rfl) (of_decide_eq_true (by kernel_rfl)) k0 bel lt0) (trodAll_cons_mk (Below.trod laidOut (by kernel_rfl) (of_decide_eq_true (by kernel_rfl)) k1 bel lt1) (trodAll_cons_mk (Below.trod laidOut (by kernel_rfl) (of_decide_eq_true (by kernel_rfl)) k2 bel lt2) trodAll_mk0))), rfl, bel.frame _, fun h => by cases h⟩
theorem over : Rows.fnSetCodesOfRow.holds Try.pinned (OpenSpec.ofChange Rows.fnSetCodesOfSpec) :=
  OpenClaim.holds_of_wide 3 Try.f3 rfl rfl rfl rfl rfl rfl rfl ⟨rfl, rfl, rfl, rfl, rfl⟩ rfl rfl rfl rfl rfl (by kernel_rfl) Try.func3 (by kernel_rfl)
    (of_decide_eq_true (by kernel_rfl)) (by unfold Func.isWrapper; first | (rw [if_pos (by decide +kernel)]; kernel_rfl) | (rw [if_neg (by decide +kernel)]; exact ⟨rfl, rfl⟩))
    (fun os started H enc _ => lifted os started H enc)
theorem proved : Rows.FnSetCodesOfSaid := over
#print axioms proved
end Go.Proofs.Yteonaghjhjnijaa.fnSetCodesOf
namespace Go.Proofs.Yteonaghjhjnijaa
/-- The row, under a short name, for the claim. -/
theorem fnSetCodesOf_holds : Rows.FnSetCodesOfSaid := fnSetCodesOf.proved
end Go.Proofs.Yteonaghjhjnijaa
