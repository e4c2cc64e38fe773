-- the row of laws.FnCronDelayNext.
import Derived.Test.YtdgglkihiibmhaaRows
import Derived.Test.YtdgglkihiibmhaaTime8
import Derived.WalkKit
import Derived.ProofKit
import Derived.OpenShut
import Derived.ShutString
import Derived.ChangeOld
import Derived.Below
import Derived.Carry
namespace Go.Proofs.Ytdgglkihiibmhaa.fnCronDelayNext
open Go.ChangeShapes Go.WideShapes Go.ChangeAt Go.RowKit 
set_option linter.unusedVariables false
theorem own : ownKnob Try.prog.godebug = none := by kernel_rfl
theorem laidOut : laidOutB Try.prog = true := by kernel_rfl
set_option maxRecDepth 100000 in
theorem opens_T23 {H : Type} {enc : TypeId × Value → H} {w : World} {base : Nat} {spare : Nat → Bool} {held : Bool} {fuel : Nat} {cs : List Value} {x : DataW H × List MemPlace} (h : DataW.trod enc Try.prog w base spare held fuel 23 cs = some x) : ∃ s n, cs = [.int .i64 s, .int .i64 n] := by
  obtain ⟨xs, n, _, rfl, hl, hlen, hf⟩ := DataW.trod_struct Try.underlying23 h
  rw [show Try.prog.cellsOf 23 = 2 from by kernel_rfl] at hl
  match cs, hl with
  | [c0, c1], _ =>
    match xs, hlen with
    | [y0, y1], _ =>
      have g0 : DataW.trod enc Try.prog w base spare held n 2 (([c0, c1].drop 0).take (Try.prog.cellsOf 2)) = some y0 := hf 0 _ rfl
      rw [show Try.prog.cellsOf 2 = 1 from by kernel_rfl] at g0
      obtain ⟨a0, e0, _, _⟩ := DataW.trod_int Try.underlying2 g0
      have g1 : DataW.trod enc Try.prog w base spare held n 3 (([c0, c1].drop 1).take (Try.prog.cellsOf 3)) = some y1 := hf 1 _ rfl
      rw [show Try.prog.cellsOf 3 = 1 from by kernel_rfl] at g1
      obtain ⟨a1, e1, _, _⟩ := DataW.trod_int Try.underlying3 g1
      simp at e0 e1
      subst e0 e1
      exact ⟨a0, a1, rfl⟩
set_option maxRecDepth 100000 in
theorem lifted (os : Os) (started : os.Started) (H : Type) (enc : TypeId × Value → H) :
    ReturnsInHanded {} Try.checked os 3 .any (Rows.fnCronDelayNextSpec.pre6 enc Try.prog Try.f3 Rows.fnCronDelayNextRow.domain false) (Rows.fnCronDelayNextSpec.post enc Try.prog Try.f3 false true false false) := by
  refine returnsInHanded_of_change (C := Try.checked) own started (by kernel_rfl) Try.func3
    (ChangeSpec.witness6 (enc := enc) (C := Try.checked) false ⟨#[], #[.int .i64 0, .agg #[.int .i64 0, .int .i64 0]], []⟩ 8 (by kernel_rfl) (by kernel_rfl) (by kernel_rfl) (by kernel_rfl)) ?_
  intro W base args ds gs before hval0 hW hcnd _
  have hval : ∀ (j : Nat) t v, Try.f3.params[j]? = some t → args[j]? = some v → Value.okWide Try.prog W .any base t v := hval0
  have hW' := hW
  obtain ⟨p, q, hA0, hV, rfl, hfz, hnd⟩ := hW
  have hA : DataW.TrodAll enc Try.prog W 0 (fun _ => true) true Try.f3.params.toList args.toList ds p := hA0
  rw [Try.params3] at hA hval
  obtain ⟨v0, vs0, d0, ds0, p0, q0, hargs, rfl, rfl, h0, r0⟩ := trodAll_cons hA
  obtain ⟨v1, vs1, d1, ds1, p1, q1, rfl, rfl, rfl, h1, r1⟩ := trodAll_cons r0
  obtain ⟨rfl, rfl, rfl⟩ := trodAll_nil r1
  obtain rfl : args = #[v0, v1] := by cases args; simp_all
  obtain ⟨rfl, rfl⟩ := trodVars_none hV
  have k0 := h0
  have lt0 : ∀ x ∈ p0, x.block < W.heap.size := by obtain ⟨m, hm⟩ := k0; exact DataW.trod_lt m _ _ _ hm
  have k1 := h1
  have lt1 : ∀ x ∈ p1, x.block < W.heap.size := by obtain ⟨m, hm⟩ := k1; exact DataW.trod_lt m _ _ _ hm
  obtain ⟨a0, rfl, e0, e1, w0⟩ := open_int Try.underlying2 (hval 0 2 v0 rfl rfl) h0
  obtain ⟨fuel1, hf1⟩ := h1
  obtain ⟨cs1, rfl, hsz1⟩ := okWide_struct Try.underlying23 (hval 1 23 v1 rfl rfl)
  obtain ⟨l1⟩ := cs1
  obtain ⟨s, n, rfl⟩ := opens_T23 (show DataW.trod enc Try.prog W 0 (fun _ => true) true fuel1 23 l1 = some _ from hf1)
  have hx0 : -9223372036854775808 ≤ a0 ∧ a0 ≤ 9223372036854775807 := by simpa [Lit.wf, IntKind.min, IntKind.max, IntKind.signed, IntKind.bits] using w0
  refine (law_any a0 s n W hx0.1 hx0.2).mono fun e W' ⟨he, bel0⟩ => ?_
  have bel : Below W.heap.size W W' := bel0
  subst he
  exact ⟨_, rfl, _, _, _, [], _, [], hW', trodAll_mk1 (shut_bool Try.underlying4 _), (trodAll_cons_mk (Below.trod laidOut (by kernel_rfl) (of_decide_eq_true (by kernel_rfl)) k0 bel lt0) (trodAll_cons_mk (Below.trod laidOut (by kernel_rfl) (of_decide_eq_true (by kernel_rfl)) k1 bel lt1) trodAll_mk0)), rfl, bel.frame _, fun h => by cases h⟩
theorem over : Rows.fnCronDelayNextRow.holds Try.pinned (OpenSpec.ofChange Rows.fnCronDelayNextSpec) :=
  OpenClaim.holds_of_wide 3 Try.f3 rfl rfl rfl rfl rfl rfl rfl ⟨rfl, rfl, rfl, rfl, rfl⟩ rfl rfl rfl rfl rfl (by kernel_rfl) Try.func3 (by kernel_rfl)
    (of_decide_eq_true (by kernel_rfl)) (by unfold Func.isWrapper; first | (rw [if_pos (by decide +kernel)]; kernel_rfl) | (rw [if_neg (by decide +kernel)]; exact ⟨rfl, rfl⟩))
    (fun os started H enc _ => lifted os started H enc)
theorem proved : Rows.FnCronDelayNextSaid := over
#print axioms proved
end Go.Proofs.Ytdgglkihiibmhaa.fnCronDelayNext
namespace Go.Proofs.Ytdgglkihiibmhaa
/-- The row, under a short name, for the claim. -/
theorem fnCronDelayNext_holds : Rows.FnCronDelayNextSaid := fnCronDelayNext.proved
end Go.Proofs.Ytdgglkihiibmhaa
