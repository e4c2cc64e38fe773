-- written by a program of mine (wip/tools/myrow.py): the row of the law laws_FnSemverPreTail. Not trusted: Lean checks it.
import Derived.Test.YtlooelfkkbgmhaaDoorRows
import Derived.Test.YtlooelfkkbgmhaaDoorCards
import Derived.Test.YtlooelfkkbgmhaaDoorTie
import Derived.Test.YtlooelfkkbgmhaaDoorQSx10
import Derived.Test.YtlooelfkkbgmhaaDoorMyRow
import Derived.Test.YtlooelfkkbgmhaaDoorPureFnSemverPreTail
import Derived.WalkKit
import Derived.ProofKit
import Derived.OpenShut
import Derived.ShutString
import Derived.ChangeOld
import Derived.Below
import Derived.Carry
import Derived.Deep.DeepHandedRow
import Derived.Lib.LaidTab
import Derived.Handy
import Derived.Lay
import Derived.SevenTiedAt
import Derived.MakeChecks
import Derived.Test.YtlooelfkkbgmhaaDoorMyDoor
namespace Go.Proofs.YtlooelfkkbgmhaaDoor.fnSemverPreTail
open Go.ChangeShapes Go.WideShapes Go.ChangeAt Go.RowKit Go.Proofs.YtlooelfkkbgmhaaDoorW.PrintWords Go.Proofs.YtlooelfkkbgmhaaDoor.QS
set_option linter.unusedVariables false
theorem own : ownKnob Tryd.prog.godebug = none := by kernel_rfl
theorem laidOut : laidOutB Tryd.prog = true := by kernel_rfl
set_option maxRecDepth 100000 in
theorem lifted (os : Os) (started : os.Started) (H : Type) (enc : TypeId × Value → H) :
    ReturnsInHanded {} Tryd.checked os 5 .any (fun w args => (Rows.fnSemverPreTailSpec.pre enc Tryd.prog Tryd.f5 Rows.fnSemverPreTailRow.domain false w args ∧ laidMetH Tryd.prog Rows.fnSemverPreTailRow.laid w) ∧ sizedMet enc Tryd.prog Tryd.f5 (OpenSpec.ofChange Rows.fnSemverPreTailSpec) false w args)
      (Rows.fnSemverPreTailSpec.post enc Tryd.prog Tryd.f5 false true false false) := by
  refine returnsInHanded_of_change_and (C := Tryd.checked) (X := fun w _ => laidMetH Tryd.prog Rows.fnSemverPreTailRow.laid w) (fun _ _ _ hh h => h.of_heap hh) own started (by kernel_rfl) Tryd.func5
    (ChangeSpec.witness_shaped (enc := enc) (C := Tryd.checked) (os := os) (X := fun w _ => laidMetH Tryd.prog Rows.fnSemverPreTailRow.laid w) false (World.laidAll Tryd.prog os Rows.fnSemverPreTailRow.laid) #[.string ByteArray.empty, .string ByteArray.empty, .string ByteArray.empty, .string ByteArray.empty] 8 (World.laidAll_os _ _ _)
      (World.shaped_of_ZipB (by kernel_rfl) (by kernel_rfl)) (by kernel_rfl) (by kernel_rfl) (by kernel_rfl)
      (by rw [MakeChecks.laidMetH_plain _ _ _ (by kernel_rfl)]; exact laidMet_laidAll _ (by kernel_rfl) (by kernel_rfl))) ?_
  intro W base args ds gs before hval0 hW hcnd _ hL _
  have hval : ∀ (j : Nat) t v, Tryd.f5.params[j]? = some t → args[j]? = some v → Value.okWide Tryd.prog W .any base t v := hval0
  have gl := glob5 hL
  have hW' := hW
  obtain ⟨p, q, hA0, hV, rfl, hfz, hnd⟩ := hW
  have hA : DataW.TrodAll enc Tryd.prog W 0 (fun _ => true) true Tryd.f5.params.toList args.toList ds p := hA0
  rw [Tryd.params5] at hA hval
  obtain ⟨v0, vs0, d0, ds0, p0, q0, hargs, rfl, rfl, h0, r0⟩ := trodAll_cons hA
  obtain ⟨v1, vs1, d1, ds1, p1, q1, rfl, rfl, rfl, h1, r1⟩ := trodAll_cons r0
  obtain ⟨v2, vs2, d2, ds2, p2, q2, rfl, rfl, rfl, h2, r2⟩ := trodAll_cons r1
  obtain ⟨v3, vs3, d3, ds3, p3, q3, rfl, rfl, rfl, h3, r3⟩ := trodAll_cons r2
  obtain ⟨rfl, rfl, rfl⟩ := trodAll_nil r3
  obtain rfl : args = #[v0, v1, v2, v3] := by cases args; simp_all
  obtain ⟨rfl, rfl⟩ := trodVars_none hV
  have k0 := h0
  have lt0 : ∀ x ∈ p0, x.block < W.heap.size := by obtain ⟨m, hm⟩ := k0; exact DataW.trod_lt m _ _ _ hm
  obtain ⟨fuel0, hf0⟩ := h0
  obtain ⟨a0, rfl⟩ : ∃ a, v0 = .string a := by
    obtain ⟨a, rfl, _⟩ := Go.ChangeMaps.open_string Tryd.underlying9 (hval 0 9 v0 rfl rfl) k0
    exact ⟨a, rfl⟩
  obtain ⟨b0, e0, w0⟩ := (opens_str Tryd.underlying9) (show DataW.trod enc Tryd.prog W 0 (fun _ => true) true fuel0 9 [.string a0] = some _ from hf0)
  obtain rfl : a0 = b0 := by simpa [Kd.int, Kd.bool, Kd.string, Kd.scalar] using e0
  have k1 := h1
  have lt1 : ∀ x ∈ p1, x.block < W.heap.size := by obtain ⟨m, hm⟩ := k1; exact DataW.trod_lt m _ _ _ hm
  obtain ⟨fuel1, hf1⟩ := h1
  obtain ⟨a1, rfl⟩ : ∃ a, v1 = .string a := by
    obtain ⟨a, rfl, _⟩ := Go.ChangeMaps.open_string Tryd.underlying9 (hval 1 9 v1 rfl rfl) k1
    exact ⟨a, rfl⟩
  obtain ⟨b1, e1, w1⟩ := (opens_str Tryd.underlying9) (show DataW.trod enc Tryd.prog W 0 (fun _ => true) true fuel1 9 [.string a1] = some _ from hf1)
  obtain rfl : a1 = b1 := by simpa [Kd.int, Kd.bool, Kd.string, Kd.scalar] using e1
  have k2 := h2
  have lt2 : ∀ x ∈ p2, x.block < W.heap.size := by obtain ⟨m, hm⟩ := k2; exact DataW.trod_lt m _ _ _ hm
  obtain ⟨fuel2, hf2⟩ := h2
  obtain ⟨a2, rfl⟩ : ∃ a, v2 = .string a := by
    obtain ⟨a, rfl, _⟩ := Go.ChangeMaps.open_string Tryd.underlying9 (hval 2 9 v2 rfl rfl) k2
    exact ⟨a, rfl⟩
  obtain ⟨b2, e2, w2⟩ := (opens_str Tryd.underlying9) (show DataW.trod enc Tryd.prog W 0 (fun _ => true) true fuel2 9 [.string a2] = some _ from hf2)
  obtain rfl : a2 = b2 := by simpa [Kd.int, Kd.bool, Kd.string, Kd.scalar] using e2
  have k3 := h3
  have lt3 : ∀ x ∈ p3, x.block < W.heap.size := by obtain ⟨m, hm⟩ := k3; exact DataW.trod_lt m _ _ _ hm
  obtain ⟨fuel3, hf3⟩ := h3
  obtain ⟨a3, rfl⟩ : ∃ a, v3 = .string a := by
    obtain ⟨a, rfl, _⟩ := Go.ChangeMaps.open_string Tryd.underlying9 (hval 3 9 v3 rfl rfl) k3
    exact ⟨a, rfl⟩
  obtain ⟨b3, e3, w3⟩ := (opens_str Tryd.underlying9) (show DataW.trod enc Tryd.prog W 0 (fun _ => true) true fuel3 9 [.string a3] = some _ from hf3)
  obtain rfl : a3 = b3 := by simpa [Kd.int, Kd.bool, Kd.string, Kd.scalar] using e3
  obtain ⟨k, hk⟩ := Pure.FnSemverPreTail a0 a1 a2 a3 w0 w1 w2 w3
  refine (laws_FnSemverPreTail.calls k a0 a1 a2 a3 true W gl.1 hk).mono fun e W' ⟨he, bel0⟩ => ?_
  have bel : Below W.heap.size W W' := bel0
  subst he
  exact ⟨_, rfl, _, _, _, [], _, [], hW', trodAll_mk1 (shut_bool Tryd.underlying4 _), (trodAll_cons_mk (Below.trod laidOut (by kernel_rfl) (of_decide_eq_true (by kernel_rfl)) k0 bel lt0) (trodAll_cons_mk (Below.trod laidOut (by kernel_rfl) (of_decide_eq_true (by kernel_rfl)) k1 bel lt1) (trodAll_cons_mk (Below.trod laidOut (by kernel_rfl) (of_decide_eq_true (by kernel_rfl)) k2 bel lt2) (trodAll_cons_mk (Below.trod laidOut (by kernel_rfl) (of_decide_eq_true (by kernel_rfl)) k3 bel lt3) trodAll_mk0)))), rfl, bel.frame _, fun h => by cases h⟩
theorem over : Rows.fnSemverPreTailRow.holds Tryd.pinned (OpenSpec.ofChange Rows.fnSemverPreTailSpec) :=
  OpenClaim.holds_of_wide 5 Tryd.f5 rfl rfl rfl rfl rfl rfl rfl ⟨rfl, rfl, rfl, rfl, rfl⟩ rfl rfl rfl rfl rfl (by kernel_rfl) Tryd.func5 (by kernel_rfl)
    (of_decide_eq_true (by kernel_rfl)) (by unfold Func.isWrapper; first | (rw [if_pos (by decide +kernel)]; kernel_rfl) | (rw [if_neg (by decide +kernel)]; exact ⟨rfl, rfl⟩))
    (fun os started H enc _ => lifted os started H enc)
theorem proved : Rows.FnSemverPreTailCardSaid :=
  Claim7.holds_tied_plain_at .later [] _ _ _ _ over (fun _ h => by cases h) (by kernel_rfl) (fun _ h => by cases h) fnSemverPreTail_row_tie rfl ⟨rfl, rfl⟩ (by kernel_rfl) rfl
    (fun f fn hf hfn => by
      obtain rfl : f = 5 := Option.some.inj ((show Tryd.prog.funcNamed Rows.fnSemverPreTailRow.func = some 5 by kernel_rfl).symm.trans hf) |>.symm
      obtain rfl : fn = Tryd.f5 := (Option.some.inj (Tryd.func5.symm.trans hfn)).symm
      exact ⟨by kernel_rfl, fun j t ht => by
        rw [Tryd.params5] at ht
        have hm : t ∈ [9] := by simpa using Array.mem_of_getElem? ht
        have hall : ([9].all fun u => !Tryd.prog.wantsStandIn u) = true := by kernel_rfl
        exact (show Tryd.prog.wantsStandIn t = false by simpa using List.all_eq_true.1 hall t hm)⟩)
    (by kernel_rfl)
#print axioms proved
end Go.Proofs.YtlooelfkkbgmhaaDoor.fnSemverPreTail
namespace Go.Proofs.YtlooelfkkbgmhaaDoor
/-- The row, under a short name, for the claim. -/
theorem fnSemverPreTail_holds : Rows.FnSemverPreTailCardSaid := fnSemverPreTail.proved
end Go.Proofs.YtlooelfkkbgmhaaDoor
