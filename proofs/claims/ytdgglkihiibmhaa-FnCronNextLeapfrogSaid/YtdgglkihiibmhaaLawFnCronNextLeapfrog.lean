-- the row of laws.FnCronNextLeapfrog: whatever comes in, the law returns true.
import Derived.Test.YtdgglkihiibmhaaRows
import Derived.Test.YtdgglkihiibmhaaLeb
import Derived.WalkKit
import Derived.ProofKit
import Derived.OpenShut
import Derived.ShutString
import Derived.ChangeOld
import Derived.Below
import Derived.Carry
namespace Go.Proofs.Ytdgglkihiibmhaa.fnCronNextLeapfrog
open Go Go.ChangeShapes Go.WideShapes Go.ChangeAt Go.RowKit Go.Proofs.Ytdgglkihiibmhaa
set_option linter.unusedVariables false
theorem own : ownKnob Try.prog.godebug = none := by kernel_rfl
theorem laidOut : laidOutB Try.prog = true := by kernel_rfl
set_option maxRecDepth 100000 in
theorem opens_T27 {H : Type} {enc : TypeId × Value → H} {w : World} {base : Nat} {spare : Nat → Bool} {held : Bool} {fuel : Nat} {cs : List Value} {x : DataW H × List MemPlace} (h : DataW.trod enc Try.prog w base spare held fuel 27 cs = some x) : ∃ (ev : Bool) (f : Six) (d : Int), cs = [.bool ev, .int .i64 d, .int .u64 f.se, .int .u64 f.mi, .int .u64 f.ho, .int .u64 f.dom, .int .u64 f.mo, .int .u64 f.dow] := by
  obtain ⟨xs, n, _, rfl, hl, hlen, hf⟩ := DataW.trod_struct Try.underlying27 h
  rw [show Try.prog.cellsOf 27 = 8 from by kernel_rfl] at hl
  match cs, hl with
  | [c0, c1, c2, c3, c4, c5, c6, c7], _ =>
    match xs, hlen with
    | [y0, y1, y2, y3, y4, y5, y6, y7], _ =>
      have g0 : DataW.trod enc Try.prog w base spare held n 4 (([c0, c1, c2, c3, c4, c5, c6, c7].drop 0).take (Try.prog.cellsOf 4)) = some y0 := hf 0 _ rfl
      rw [show Try.prog.cellsOf 4 = 1 from by kernel_rfl] at g0
      obtain ⟨a0, e0, _⟩ := DataW.trod_bool Try.underlying4 g0
      have g1 : DataW.trod enc Try.prog w base spare held n 2 (([c0, c1, c2, c3, c4, c5, c6, c7].drop 1).take (Try.prog.cellsOf 2)) = some y1 := hf 1 _ rfl
      rw [show Try.prog.cellsOf 2 = 1 from by kernel_rfl] at g1
      obtain ⟨a1, e1, _, w1⟩ := DataW.trod_int Try.underlying2 g1
      have g2 : DataW.trod enc Try.prog w base spare held n 25 (([c0, c1, c2, c3, c4, c5, c6, c7].drop 2).take (Try.prog.cellsOf 25)) = some y2 := hf 2 _ rfl
      rw [show Try.prog.cellsOf 25 = 1 from by kernel_rfl] at g2
      obtain ⟨a2, e2, _, w2⟩ := DataW.trod_int Try.underlying25 g2
      have g3 : DataW.trod enc Try.prog w base spare held n 25 (([c0, c1, c2, c3, c4, c5, c6, c7].drop 3).take (Try.prog.cellsOf 25)) = some y3 := hf 3 _ rfl
      rw [show Try.prog.cellsOf 25 = 1 from by kernel_rfl] at g3
      obtain ⟨a3, e3, _, w3⟩ := DataW.trod_int Try.underlying25 g3
      have g4 : DataW.trod enc Try.prog w base spare held n 25 (([c0, c1, c2, c3, c4, c5, c6, c7].drop 4).take (Try.prog.cellsOf 25)) = some y4 := hf 4 _ rfl
      rw [show Try.prog.cellsOf 25 = 1 from by kernel_rfl] at g4
      obtain ⟨a4, e4, _, w4⟩ := DataW.trod_int Try.underlying25 g4
      have g5 : DataW.trod enc Try.prog w base spare held n 25 (([c0, c1, c2, c3, c4, c5, c6, c7].drop 5).take (Try.prog.cellsOf 25)) = some y5 := hf 5 _ rfl
      rw [show Try.prog.cellsOf 25 = 1 from by kernel_rfl] at g5
      obtain ⟨a5, e5, _, w5⟩ := DataW.trod_int Try.underlying25 g5
      have g6 : DataW.trod enc Try.prog w base spare held n 25 (([c0, c1, c2, c3, c4, c5, c6, c7].drop 6).take (Try.prog.cellsOf 25)) = some y6 := hf 6 _ rfl
      rw [show Try.prog.cellsOf 25 = 1 from by kernel_rfl] at g6
      obtain ⟨a6, e6, _, w6⟩ := DataW.trod_int Try.underlying25 g6
      have g7 : DataW.trod enc Try.prog w base spare held n 25 (([c0, c1, c2, c3, c4, c5, c6, c7].drop 7).take (Try.prog.cellsOf 25)) = some y7 := hf 7 _ rfl
      rw [show Try.prog.cellsOf 25 = 1 from by kernel_rfl] at g7
      obtain ⟨a7, e7, _, w7⟩ := DataW.trod_int Try.underlying25 g7
      simp at e0 e1 e2 e3 e4 e5 e6 e7
      subst e0 e1 e2 e3 e4 e5 e6 e7
      simp [Lit.wf, IntKind.min, IntKind.max, IntKind.signed, IntKind.bits] at w2 w3 w4 w5 w6 w7
      refine ⟨a0, ⟨a2.toNat, a3.toNat, a4.toNat, a5.toNat, a6.toNat, a7.toNat, by omega, by omega, by omega, by omega, by omega, by omega⟩, a1, ?_⟩
      rw [Int.toNat_of_nonneg w2.1, Int.toNat_of_nonneg w3.1, Int.toNat_of_nonneg w4.1, Int.toNat_of_nonneg w5.1, Int.toNat_of_nonneg w6.1, Int.toNat_of_nonneg w7.1]
set_option maxRecDepth 100000 in
theorem opens_T23 {H : Type} {enc : TypeId × Value → H} {w : World} {base : Nat} {spare : Nat → Bool} {held : Bool} {fuel : Nat} {cs : List Value} {x : DataW H × List MemPlace} (h : DataW.trod enc Try.prog w base spare held fuel 23 cs = some x) : ∃ s n : Int, cs = [.int .i64 s, .int .i64 n] ∧ -9223372036854775808 ≤ s ∧ s ≤ 9223372036854775807 := by
  obtain ⟨xs, n, _, rfl, hl, hlen, hf⟩ := DataW.trod_struct Try.underlying23 h
  rw [show Try.prog.cellsOf 23 = 2 from by kernel_rfl] at hl
  match cs, hl with
  | [c0, c1], _ =>
    match xs, hlen with
    | [y0, y1], _ =>
      have g0 : DataW.trod enc Try.prog w base spare held n 2 (([c0, c1].drop 0).take (Try.prog.cellsOf 2)) = some y0 := hf 0 _ rfl
      rw [show Try.prog.cellsOf 2 = 1 from by kernel_rfl] at g0
      obtain ⟨a0, e0, _, w0⟩ := DataW.trod_int Try.underlying2 g0
      have g1 : DataW.trod enc Try.prog w base spare held n 3 (([c0, c1].drop 1).take (Try.prog.cellsOf 3)) = some y1 := hf 1 _ rfl
      rw [show Try.prog.cellsOf 3 = 1 from by kernel_rfl] at g1
      obtain ⟨a1, e1, _, w1⟩ := DataW.trod_int Try.underlying3 g1
      simp at e0 e1
      subst e0 e1
      simp [Lit.wf, IntKind.min, IntKind.max, IntKind.signed, IntKind.bits] at w0
      exact ⟨a0, a1, rfl, w0.1, w0.2⟩
set_option maxRecDepth 100000 in
theorem lifted (os : Os) (started : os.Started) (H : Type) (enc : TypeId × Value → H) :
    ReturnsInHanded {} Try.checked os 5 .any (Rows.fnCronNextLeapfrogSpec.pre6 enc Try.prog Try.f5 Rows.fnCronNextLeapfrogRow.domain false) (Rows.fnCronNextLeapfrogSpec.post enc Try.prog Try.f5 false true false false) := by
  refine returnsInHanded_of_change (C := Try.checked) own started (by kernel_rfl) Try.func5
    (ChangeSpec.witness6 (enc := enc) (C := Try.checked) false ⟨#[], #[.agg #[.bool false, .int .i64 0, .int .u64 0, .int .u64 0, .int .u64 0, .int .u64 0, .int .u64 0, .int .u64 0], .int .i64 0, .int .u64 0, .int .u64 0, .agg #[.int .i64 0, .int .i64 0]], []⟩ 8 (by kernel_rfl) (by kernel_rfl) (by kernel_rfl) (by kernel_rfl)) ?_
  intro W base args ds gs before hval0 hW hcnd _
  have hval : ∀ (j : Nat) t v, Try.f5.params[j]? = some t → args[j]? = some v → Value.okWide Try.prog W .any base t v := hval0
  have hW' := hW
  obtain ⟨p, q, hA0, hV, rfl, hfz, hnd⟩ := hW
  have hA : DataW.TrodAll enc Try.prog W 0 (fun _ => true) true Try.f5.params.toList args.toList ds p := hA0
  rw [Try.params5] at hA hval
  obtain ⟨v0, vs0, dd0, ds0, p0, q0, hargs, rfl, rfl, h0, r0⟩ := trodAll_cons hA
  obtain ⟨v1, vs1, dd1, ds1, p1, q1, rfl, rfl, rfl, h1, r1⟩ := trodAll_cons r0
  obtain ⟨v2, vs2, dd2, ds2, p2, q2, rfl, rfl, rfl, h2, r2⟩ := trodAll_cons r1
  obtain ⟨v3, vs3, dd3, ds3, p3, q3, rfl, rfl, rfl, h3, r3⟩ := trodAll_cons r2
  obtain ⟨v4, vs4, dd4, ds4, p4, q4, rfl, rfl, rfl, h4, r4⟩ := trodAll_cons r3
  obtain ⟨rfl, rfl, rfl⟩ := trodAll_nil r4
  obtain rfl : args = #[v0, v1, v2, v3, v4] := by cases args; simp_all
  obtain ⟨rfl, rfl⟩ := trodVars_none hV
  have k0 := h0
  have lt0 : ∀ x ∈ p0, x.block < W.heap.size := by obtain ⟨m, hm⟩ := k0; exact DataW.trod_lt m _ _ _ hm
  have k1 := h1
  have lt1 : ∀ x ∈ p1, x.block < W.heap.size := by obtain ⟨m, hm⟩ := k1; exact DataW.trod_lt m _ _ _ hm
  have k2 := h2
  have lt2 : ∀ x ∈ p2, x.block < W.heap.size := by obtain ⟨m, hm⟩ := k2; exact DataW.trod_lt m _ _ _ hm
  have k3 := h3
  have lt3 : ∀ x ∈ p3, x.block < W.heap.size := by obtain ⟨m, hm⟩ := k3; exact DataW.trod_lt m _ _ _ hm
  have k4 := h4
  have lt4 : ∀ x ∈ p4, x.block < W.heap.size := by obtain ⟨m, hm⟩ := k4; exact DataW.trod_lt m _ _ _ hm
  obtain ⟨fuel0, hf0⟩ := h0
  obtain ⟨cs0, rfl, hsz0⟩ := okWide_struct Try.underlying27 (hval 0 27 v0 rfl rfl)
  obtain ⟨l0⟩ := cs0
  obtain ⟨ev0, f0, d0, rfl⟩ := opens_T27 (show DataW.trod enc Try.prog W 0 (fun _ => true) true fuel0 27 l0 = some _ from hf0)
  obtain ⟨a1, rfl, e1_0, e1_1, w1⟩ := open_int Try.underlying3 (hval 1 3 v1 rfl rfl) h1
  have hx1 : -9223372036854775808 ≤ a1 ∧ a1 ≤ 9223372036854775807 := by have hw := w1; simp [Lit.wf, IntKind.min, IntKind.max, IntKind.signed, IntKind.bits] at hw; omega
  obtain ⟨a2, rfl, e2_0, e2_1, w2⟩ := open_int Try.underlying25 (hval 2 25 v2 rfl rfl) h2
  have hx2 : 0 ≤ a2 ∧ a2 < 18446744073709551616 := by have hw := w2; simp [Lit.wf, IntKind.min, IntKind.max, IntKind.signed, IntKind.bits] at hw; omega
  obtain ⟨a3, rfl, e3_0, e3_1, w3⟩ := open_int Try.underlying25 (hval 3 25 v3 rfl rfl) h3
  have hx3 : 0 ≤ a3 ∧ a3 < 18446744073709551616 := by have hw := w3; simp [Lit.wf, IntKind.min, IntKind.max, IntKind.signed, IntKind.bits] at hw; omega
  obtain ⟨fuel4, hf4⟩ := h4
  obtain ⟨cs4, rfl, hsz4⟩ := okWide_struct Try.underlying23 (hval 4 23 v4 rfl rfl)
  obtain ⟨l4⟩ := cs4
  obtain ⟨s4, n4, rfl, hs4⟩ := opens_T23 (show DataW.trod enc Try.prog W 0 (fun _ => true) true fuel4 23 l4 = some _ from hf4)
  refine (leapfrog_int ev0 f0 d0 a1 a2 a3 s4 n4 W hx2 hx3).mono fun e W' ⟨he, bel0⟩ => ?_
  have bel : Below W.heap.size W W' := bel0
  subst he
  exact ⟨_, rfl, _, _, _, [], _, [], hW', trodAll_mk1 (shut_bool Try.underlying4 _), (trodAll_cons_mk (Below.trod laidOut (by kernel_rfl) (of_decide_eq_true (by kernel_rfl)) k0 bel lt0) (trodAll_cons_mk (Below.trod laidOut (by kernel_rfl) (of_decide_eq_true (by kernel_rfl)) k1 bel lt1) (trodAll_cons_mk (Below.trod laidOut (by kernel_rfl) (of_decide_eq_true (by kernel_rfl)) k2 bel lt2) (trodAll_cons_mk (Below.trod laidOut (by kernel_rfl) (of_decide_eq_true (by kernel_rfl)) k3 bel lt3) (trodAll_cons_mk (Below.trod laidOut (by kernel_rfl) (of_decide_eq_true (by kernel_rfl)) k4 bel lt4) trodAll_mk0))))), rfl, bel.frame _, fun h => by cases h⟩
theorem over : Rows.fnCronNextLeapfrogRow.holds Try.pinned (OpenSpec.ofChange Rows.fnCronNextLeapfrogSpec) :=
  OpenClaim.holds_of_wide 5 Try.f5 rfl rfl rfl rfl rfl rfl rfl ⟨rfl, rfl, rfl, rfl, rfl⟩ rfl rfl rfl rfl rfl (by kernel_rfl) Try.func5 (by kernel_rfl)
    (of_decide_eq_true (by kernel_rfl)) (by unfold Func.isWrapper; first | (rw [if_pos (by decide +kernel)]; kernel_rfl) | (rw [if_neg (by decide +kernel)]; exact ⟨rfl, rfl⟩))
    (fun os started H enc _ => lifted os started H enc)
theorem proved : Rows.FnCronNextLeapfrogSaid := over
#print axioms proved
end Go.Proofs.Ytdgglkihiibmhaa.fnCronNextLeapfrog
namespace Go.Proofs.Ytdgglkihiibmhaa
/-- The row, under a short name, for the claim. -/
theorem fnCronNextLeapfrog_holds : Rows.FnCronNextLeapfrogSaid := fnCronNextLeapfrog.proved
end Go.Proofs.Ytdgglkihiibmhaa
