-- written by a program of mine (wip/tools/myrow.py): the row of the law laws_FnRefTells. Not trusted: Lean checks it.
import Derived.Test.YtapdpmjbfplmfaaRows
import Derived.Test.YtapdpmjbfplmfaaQRefx2
import Derived.Test.YtapdpmjbfplmfaaMyRow
import Derived.Test.YtapdpmjbfplmfaaPureFnRefTells
import Derived.WalkKit
import Derived.ProofKit
import Derived.OpenShut
import Derived.ShutString
import Derived.ChangeOld
import Derived.Below
import Derived.Carry
namespace Go.Proofs.Ytapdpmjbfplmfaa.fnRefTells
open Go.ChangeShapes Go.WideShapes Go.ChangeAt Go.RowKit Go.Proofs.YtapdpmjbfplmfaaW.PrintWords Go.Proofs.Ytapdpmjbfplmfaa.QRef
set_option linter.unusedVariables false
theorem own : ownKnob Try.prog.godebug = none := by kernel_rfl
theorem laidOut : laidOutB Try.prog = true := by kernel_rfl
theorem opens_T34 (w : World) : Opens Try.prog w k34 34 wf34 := by
  intro H enc base spare held fuel cs x h
  obtain ⟨xs, n, _, rfl, hl, hlen, hf⟩ := DataW.trod_struct Try.underlying34 h
  rw [show Try.prog.cellsOf 34 = 4 from by kernel_rfl] at hl
  match cs, hl with
  | [c0, c1, c2, c3], _ =>
    match xs, hlen with
    | [y0, y1, y2, y3], _ =>
      have g0 : DataW.trod enc Try.prog w base spare held n 9 (([c0, c1, c2, c3].drop 0).take (Try.prog.cellsOf 9)) = some y0 := hf 0 _ rfl
      rw [show Try.prog.cellsOf 9 = 1 from by kernel_rfl] at g0
      obtain ⟨a0, k0, w0⟩ := (opens_str Try.underlying9) (show DataW.trod enc Try.prog w base spare held n 9 [c0] = some y0 from g0)
      have g1 : DataW.trod enc Try.prog w base spare held n 9 (([c0, c1, c2, c3].drop 1).take (Try.prog.cellsOf 9)) = some y1 := hf 1 _ rfl
      rw [show Try.prog.cellsOf 9 = 1 from by kernel_rfl] at g1
      obtain ⟨a1, k1, w1⟩ := (opens_str Try.underlying9) (show DataW.trod enc Try.prog w base spare held n 9 [c1] = some y1 from g1)
      have g2 : DataW.trod enc Try.prog w base spare held n 9 (([c0, c1, c2, c3].drop 2).take (Try.prog.cellsOf 9)) = some y2 := hf 2 _ rfl
      rw [show Try.prog.cellsOf 9 = 1 from by kernel_rfl] at g2
      obtain ⟨a2, k2, w2⟩ := (opens_str Try.underlying9) (show DataW.trod enc Try.prog w base spare held n 9 [c2] = some y2 from g2)
      have g3 : DataW.trod enc Try.prog w base spare held n 9 (([c0, c1, c2, c3].drop 3).take (Try.prog.cellsOf 9)) = some y3 := hf 3 _ rfl
      rw [show Try.prog.cellsOf 9 = 1 from by kernel_rfl] at g3
      obtain ⟨a3, k3, w3⟩ := (opens_str Try.underlying9) (show DataW.trod enc Try.prog w base spare held n 9 [c3] = some y3 from g3)
      exact ⟨⟨a0, a1, a2, a3⟩, ⟨[c0], [c1, c2, c3], rfl, k0, ⟨[c1], [c2, c3], rfl, k1, ⟨[c2], [c3], rfl, k2, k3⟩⟩⟩, ⟨w0, w1, w2, w3⟩⟩
set_option maxRecDepth 100000 in
theorem lifted (os : Os) (started : os.Started) (H : Type) (enc : TypeId × Value → H) :
    ReturnsInHanded {} Try.checked os 7 .any (Rows.fnRefTellsSpec.pre6 enc Try.prog Try.f7 Rows.fnRefTellsRow.domain false) (Rows.fnRefTellsSpec.post enc Try.prog Try.f7 false true false false) := by
  refine returnsInHanded_of_change (C := Try.checked) own started (by kernel_rfl) Try.func7
    (ChangeSpec.witness6 (enc := enc) (C := Try.checked) false ⟨#[], #[.agg #[.string ByteArray.empty, .string ByteArray.empty, .string ByteArray.empty, .string ByteArray.empty]], []⟩ 8 (by kernel_rfl) (by kernel_rfl) (by kernel_rfl) (by kernel_rfl)) ?_
  intro W base args ds gs before hval0 hW hcnd _
  have hval : ∀ (j : Nat) t v, Try.f7.params[j]? = some t → args[j]? = some v → Value.okWide Try.prog W .any base t v := hval0
  have hW' := hW
  obtain ⟨p, q, hA0, hV, rfl, hfz, hnd⟩ := hW
  have hA : DataW.TrodAll enc Try.prog W 0 (fun _ => true) true Try.f7.params.toList args.toList ds p := hA0
  rw [Try.params7] at hA hval
  obtain ⟨v0, vs0, d0, ds0, p0, q0, hargs, rfl, rfl, h0, r0⟩ := trodAll_cons hA
  obtain ⟨rfl, rfl, rfl⟩ := trodAll_nil r0
  obtain rfl : args = #[v0] := by cases args; simp_all
  obtain ⟨rfl, rfl⟩ := trodVars_none hV
  have k0 := h0
  have lt0 : ∀ x ∈ p0, x.block < W.heap.size := by obtain ⟨m, hm⟩ := k0; exact DataW.trod_lt m _ _ _ hm
  obtain ⟨fuel0, hf0⟩ := h0
  obtain ⟨cs0, rfl, hsz0⟩ := okWide_struct Try.underlying34 (hval 0 34 v0 rfl rfl)
  obtain ⟨l0⟩ := cs0
  obtain ⟨x0, K0, w0⟩ := (opens_T34 W) (show DataW.trod enc Try.prog W 0 (fun _ => true) true fuel0 34 l0 = some _ from hf0)
  obtain rfl := k34_open K0
  obtain ⟨k, hk⟩ := Pure.FnRefTells x0 w0
  refine (laws_FnRefTells.calls k x0.f0 x0.f1 x0.f2 x0.f3 true W hk).mono fun e W' ⟨he, bel0⟩ => ?_
  have bel : Below W.heap.size W W' := bel0
  subst he
  exact ⟨_, rfl, _, _, _, [], _, [], hW', trodAll_mk1 (shut_bool Try.underlying4 _), (trodAll_cons_mk (Below.trod laidOut (by kernel_rfl) (of_decide_eq_true (by kernel_rfl)) k0 bel lt0) trodAll_mk0), rfl, bel.frame _, fun h => by cases h⟩
theorem over : Rows.fnRefTellsRow.holds Try.pinned (OpenSpec.ofChange Rows.fnRefTellsSpec) :=
  OpenClaim.holds_of_wide 7 Try.f7 rfl rfl rfl rfl rfl rfl rfl ⟨rfl, rfl, rfl, rfl, rfl⟩ rfl rfl rfl rfl rfl (by kernel_rfl) Try.func7 (by kernel_rfl)
    (of_decide_eq_true (by kernel_rfl)) (by unfold Func.isWrapper; first | (rw [if_pos (by decide +kernel)]; kernel_rfl) | (rw [if_neg (by decide +kernel)]; exact ⟨rfl, rfl⟩))
    (fun os started H enc _ => lifted os started H enc)
theorem proved : Rows.FnRefTellsSaid := over
#print axioms proved
end Go.Proofs.Ytapdpmjbfplmfaa.fnRefTells
namespace Go.Proofs.Ytapdpmjbfplmfaa
/-- The row, under a short name, for the claim. -/
theorem fnRefTells_holds : Rows.FnRefTellsSaid := fnRefTells.proved
end Go.Proofs.Ytapdpmjbfplmfaa
