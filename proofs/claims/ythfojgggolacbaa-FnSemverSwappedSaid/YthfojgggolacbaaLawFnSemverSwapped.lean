-- written by a program of mine (wip/tools/myrow.py): the row of the law laws_FnSemverSwapped. Not trusted: Lean checks it.
import Derived.Test.YthfojgggolacbaaRows
import Derived.Test.YthfojgggolacbaaQWx3
import Derived.Test.YthfojgggolacbaaMyRow
import Derived.Test.YthfojgggolacbaaPureFnSemverSwapped
import Derived.WalkKit
import Derived.ProofKit
import Derived.OpenShut
import Derived.ShutString
import Derived.ChangeOld
import Derived.Below
import Derived.Carry
namespace Go.Proofs.Ythfojgggolacbaa.fnSemverSwapped
open Go.ChangeShapes Go.WideShapes Go.ChangeAt Go.RowKit Go.Proofs.YthfojgggolacbaaW.PrintWords Go.Proofs.Ythfojgggolacbaa.QW
set_option linter.unusedVariables false
theorem own : ownKnob Try.prog.godebug = none := by kernel_rfl
theorem laidOut : laidOutB Try.prog = true := by kernel_rfl
theorem opens_T28 (w : World) : Opens Try.prog w k28 28 wf28 := by
  intro H enc base spare held fuel cs x h
  obtain ⟨xs, n, _, rfl, hl, hlen, hf⟩ := DataW.trod_struct Try.underlying28 h
  rw [show Try.prog.cellsOf 28 = 5 from by kernel_rfl] at hl
  obtain ⟨c0, cs0, rfl, hl0⟩ := len_cons (n := 4) hl
  obtain ⟨c1, cs1, rfl, hl1⟩ := len_cons (n := 3) hl0
  obtain ⟨c2, cs2, rfl, hl2⟩ := len_cons (n := 2) hl1
  obtain ⟨c3, cs3, rfl, hl3⟩ := len_cons (n := 1) hl2
  obtain ⟨c4, cs4, rfl, hl4⟩ := len_cons (n := 0) hl3
  obtain rfl := len_nil hl4
  have hlem : xs.length = 5 := hlen
  obtain ⟨y0, xs0, rfl, hm0⟩ := len_cons (n := 4) hlem
  obtain ⟨y1, xs1, rfl, hm1⟩ := len_cons (n := 3) hm0
  obtain ⟨y2, xs2, rfl, hm2⟩ := len_cons (n := 2) hm1
  obtain ⟨y3, xs3, rfl, hm3⟩ := len_cons (n := 1) hm2
  obtain ⟨y4, xs4, rfl, hm4⟩ := len_cons (n := 0) hm3
  obtain rfl := len_nil hm4
  have g0 : DataW.trod enc Try.prog w base spare held n 26 (([c0, c1, c2, c3, c4].drop 0).take (Try.prog.cellsOf 26)) = some y0 := hf 0 _ rfl
  rw [show Try.prog.cellsOf 26 = 1 from by kernel_rfl] at g0
  obtain ⟨a0, k0, w0⟩ := (opens_int Try.underlying26) (show DataW.trod enc Try.prog w base spare held n 26 [c0] = some y0 from g0)
  have g1 : DataW.trod enc Try.prog w base spare held n 26 (([c0, c1, c2, c3, c4].drop 1).take (Try.prog.cellsOf 26)) = some y1 := hf 1 _ rfl
  rw [show Try.prog.cellsOf 26 = 1 from by kernel_rfl] at g1
  obtain ⟨a1, k1, w1⟩ := (opens_int Try.underlying26) (show DataW.trod enc Try.prog w base spare held n 26 [c1] = some y1 from g1)
  have g2 : DataW.trod enc Try.prog w base spare held n 26 (([c0, c1, c2, c3, c4].drop 2).take (Try.prog.cellsOf 26)) = some y2 := hf 2 _ rfl
  rw [show Try.prog.cellsOf 26 = 1 from by kernel_rfl] at g2
  obtain ⟨a2, k2, w2⟩ := (opens_int Try.underlying26) (show DataW.trod enc Try.prog w base spare held n 26 [c2] = some y2 from g2)
  have g3 : DataW.trod enc Try.prog w base spare held n 9 (([c0, c1, c2, c3, c4].drop 3).take (Try.prog.cellsOf 9)) = some y3 := hf 3 _ rfl
  rw [show Try.prog.cellsOf 9 = 1 from by kernel_rfl] at g3
  obtain ⟨a3, k3, w3⟩ := (opens_str Try.underlying9) (show DataW.trod enc Try.prog w base spare held n 9 [c3] = some y3 from g3)
  have g4 : DataW.trod enc Try.prog w base spare held n 9 (([c0, c1, c2, c3, c4].drop 4).take (Try.prog.cellsOf 9)) = some y4 := hf 4 _ rfl
  rw [show Try.prog.cellsOf 9 = 1 from by kernel_rfl] at g4
  obtain ⟨a4, k4, w4⟩ := (opens_str Try.underlying9) (show DataW.trod enc Try.prog w base spare held n 9 [c4] = some y4 from g4)
  exact ⟨⟨a0, a1, a2, a3, a4⟩, ⟨[c0], [c1, c2, c3, c4], rfl, k0, ⟨[c1], [c2, c3, c4], rfl, k1, ⟨[c2], [c3, c4], rfl, k2, ⟨[c3], [c4], rfl, k3, k4⟩⟩⟩⟩, ⟨w0, w1, w2, w3, w4⟩⟩
set_option maxRecDepth 100000 in
theorem lifted (os : Os) (started : os.Started) (H : Type) (enc : TypeId × Value → H) :
    ReturnsInHanded {} Try.checked os 3 .any (Rows.fnSemverSwappedSpec.pre6 enc Try.prog Try.f3 Rows.fnSemverSwappedRow.domain false) (Rows.fnSemverSwappedSpec.post enc Try.prog Try.f3 false true false false) := by
  refine returnsInHanded_of_change (C := Try.checked) own started (by kernel_rfl) Try.func3
    (ChangeSpec.witness6 (enc := enc) (C := Try.checked) false ⟨#[], #[.slice none 0 0, .int .i64 0, .int .i64 0], []⟩ 8 (by kernel_rfl) (by kernel_rfl) (by kernel_rfl) (by kernel_rfl)) ?_
  intro W base args ds gs before hval0 hW hcnd _
  have hval : ∀ (j : Nat) t v, Try.f3.params[j]? = some t → args[j]? = some v → Value.okWide Try.prog W .any base t v := hval0
  have hW' := hW
  obtain ⟨p, q, hA0, hV, rfl, hfz, hnd⟩ := hW
  have hA : DataW.TrodAll enc Try.prog W 0 (fun _ => true) true Try.f3.params.toList args.toList ds p := hA0
  rw [Try.params3] at hA hval
  obtain ⟨v0, vs0, d0, ds0, p0, q0, hargs, rfl, rfl, h0, r0⟩ := trodAll_cons hA
  obtain ⟨v1, vs1, d1, ds1, p1, q1, rfl, rfl, rfl, h1, r1⟩ := trodAll_cons r0
  obtain ⟨v2, vs2, d2, ds2, p2, q2, rfl, rfl, rfl, h2, r2⟩ := trodAll_cons r1
  obtain ⟨rfl, rfl, rfl⟩ := trodAll_nil r2
  obtain rfl : args = #[v0, v1, v2] := by cases args; simp_all
  obtain ⟨rfl, rfl⟩ := trodVars_none hV
  have k0 := h0
  have lt0 : ∀ x ∈ p0, x.block < W.heap.size := by obtain ⟨m, hm⟩ := k0; exact DataW.trod_lt m _ _ _ hm
  obtain ⟨fuel0, hf0⟩ := h0
  obtain ⟨A0, len0, cap0, rfl⟩ := okWide_slice Try.underlying22 (hval 0 22 v0 rfl rfl)
  obtain ⟨l0, ⟨B0, c0, e0, hc0, hr0⟩, w0⟩ := (opens_slice Try.underlying22 (by kernel_rfl) (opens_T28 W)) (show DataW.trod enc Try.prog W 0 (fun _ => true) true fuel0 22 [.slice A0 len0 cap0] = some _ from hf0)
  obtain ⟨rfl, rfl, rfl⟩ : A0 = B0 ∧ len0 = l0.length ∧ cap0 = c0 := by simpa using e0
  have k1 := h1
  have lt1 : ∀ x ∈ p1, x.block < W.heap.size := by obtain ⟨m, hm⟩ := k1; exact DataW.trod_lt m _ _ _ hm
  obtain ⟨fuel1, hf1⟩ := h1
  obtain ⟨a1, rfl⟩ : ∃ a, v1 = .int .i64 a := by
    obtain ⟨a, rfl, _⟩ := open_int Try.underlying3 (hval 1 3 v1 rfl rfl) k1
    exact ⟨a, rfl⟩
  obtain ⟨b1, e1, w1⟩ := (opens_int Try.underlying3) (show DataW.trod enc Try.prog W 0 (fun _ => true) true fuel1 3 [.int .i64 a1] = some _ from hf1)
  obtain rfl : a1 = b1 := by simpa [Kd.int, Kd.bool, Kd.string, Kd.scalar] using e1
  have k2 := h2
  have lt2 : ∀ x ∈ p2, x.block < W.heap.size := by obtain ⟨m, hm⟩ := k2; exact DataW.trod_lt m _ _ _ hm
  obtain ⟨fuel2, hf2⟩ := h2
  obtain ⟨a2, rfl⟩ : ∃ a, v2 = .int .i64 a := by
    obtain ⟨a, rfl, _⟩ := open_int Try.underlying3 (hval 2 3 v2 rfl rfl) k2
    exact ⟨a, rfl⟩
  obtain ⟨b2, e2, w2⟩ := (opens_int Try.underlying3) (show DataW.trod enc Try.prog W 0 (fun _ => true) true fuel2 3 [.int .i64 a2] = some _ from hf2)
  obtain rfl : a2 = b2 := by simpa [Kd.int, Kd.bool, Kd.string, Kd.scalar] using e2
  obtain ⟨k, hk⟩ := Pure.FnSemverSwapped l0 a1 a2 w0 w1 w2
  refine (laws_FnSemverSwapped.calls k A0 cap0 l0 a1 a2 true W hr0 hc0 hk).mono fun e W' ⟨he, bel0⟩ => ?_
  have bel : Below W.heap.size W W' := bel0
  subst he
  exact ⟨_, rfl, _, _, _, [], _, [], hW', trodAll_mk1 (shut_bool Try.underlying4 _), (trodAll_cons_mk (Below.trod laidOut (by kernel_rfl) (of_decide_eq_true (by kernel_rfl)) k0 bel lt0) (trodAll_cons_mk (Below.trod laidOut (by kernel_rfl) (of_decide_eq_true (by kernel_rfl)) k1 bel lt1) (trodAll_cons_mk (Below.trod laidOut (by kernel_rfl) (of_decide_eq_true (by kernel_rfl)) k2 bel lt2) trodAll_mk0))), rfl, bel.frame _, fun h => by cases h⟩
theorem over : Rows.fnSemverSwappedRow.holds Try.pinned (OpenSpec.ofChange Rows.fnSemverSwappedSpec) :=
  OpenClaim.holds_of_wide 3 Try.f3 rfl rfl rfl rfl rfl rfl rfl ⟨rfl, rfl, rfl, rfl, rfl⟩ rfl rfl rfl rfl rfl (by kernel_rfl) Try.func3 (by kernel_rfl)
    (of_decide_eq_true (by kernel_rfl)) (by unfold Func.isWrapper; first | (rw [if_pos (by decide +kernel)]; kernel_rfl) | (rw [if_neg (by decide +kernel)]; exact ⟨rfl, rfl⟩))
    (fun os started H enc _ => lifted os started H enc)
theorem proved : Rows.FnSemverSwappedSaid := over
#print axioms proved
end Go.Proofs.Ythfojgggolacbaa.fnSemverSwapped
namespace Go.Proofs.Ythfojgggolacbaa
/-- The row, under a short name, for the claim. -/
theorem fnSemverSwapped_holds : Rows.FnSemverSwappedSaid := fnSemverSwapped.proved
end Go.Proofs.Ythfojgggolacbaa
