-- written by a program of mine (wip/tools/myrow.py): the row of the law laws_FnSemverExcluded. Not trusted: Lean checks it.
import Derived.Test.YtlooelfkkbgmhaaDoorRows
import Derived.Test.YtlooelfkkbgmhaaDoorCards
import Derived.Test.YtlooelfkkbgmhaaDoorTie
import Derived.Test.YtlooelfkkbgmhaaDoorQSX
import Derived.Test.YtlooelfkkbgmhaaDoorMyRow
import Derived.Test.YtlooelfkkbgmhaaDoorPureFnSemverExcluded
import Derived.WalkKit
import Derived.ProofKit
import Derived.OpenShut
import Derived.ShutString
import Derived.ChangeOld
import Derived.Below
import Derived.Carry
import Derived.Deep.DeepHandedRow
import Derived.Lib.LaidTab
import Derived.Handy
import Derived.Lay
import Derived.SevenTiedAt
import Derived.MakeChecks
import Derived.Test.YtlooelfkkbgmhaaDoorMyDoor
import Derived.Test.YtlooelfkkbgmhaaDoorUHeap
namespace Go.Proofs.YtlooelfkkbgmhaaDoor.fnSemverExcluded
open Go.ChangeShapes Go.WideShapes Go.ChangeAt Go.RowKit Go.Proofs.YtlooelfkkbgmhaaDoorW.PrintWords Go.Proofs.YtlooelfkkbgmhaaDoor.QS
set_option linter.unusedVariables false
theorem own : ownKnob Tryd.prog.godebug = none := by kernel_rfl
theorem laidOut : laidOutB Tryd.prog = true := by kernel_rfl
theorem opens_T36 (w : World) : Opens Tryd.prog w k36 36 wf36 := by
  intro H enc base spare held fuel cs x h
  obtain ⟨xs, n, _, rfl, hl, hlen, hf⟩ := DataW.trod_struct Tryd.underlying36 h
  rw [show Tryd.prog.cellsOf 36 = 6 from by kernel_rfl] at hl
  obtain ⟨c0, cs0, rfl, hl0⟩ := len_cons (n := 5) hl
  obtain ⟨c1, cs1, rfl, hl1⟩ := len_cons (n := 4) hl0
  obtain ⟨c2, cs2, rfl, hl2⟩ := len_cons (n := 3) hl1
  obtain ⟨c3, cs3, rfl, hl3⟩ := len_cons (n := 2) hl2
  obtain ⟨c4, cs4, rfl, hl4⟩ := len_cons (n := 1) hl3
  obtain ⟨c5, cs5, rfl, hl5⟩ := len_cons (n := 0) hl4
  obtain rfl := len_nil hl5
  have hlem : xs.length = 6 := hlen
  obtain ⟨y0, xs0, rfl, hm0⟩ := len_cons (n := 5) hlem
  obtain ⟨y1, xs1, rfl, hm1⟩ := len_cons (n := 4) hm0
  obtain ⟨y2, xs2, rfl, hm2⟩ := len_cons (n := 3) hm1
  obtain ⟨y3, xs3, rfl, hm3⟩ := len_cons (n := 2) hm2
  obtain ⟨y4, xs4, rfl, hm4⟩ := len_cons (n := 1) hm3
  obtain ⟨y5, xs5, rfl, hm5⟩ := len_cons (n := 0) hm4
  obtain rfl := len_nil hm5
  have g0 : DataW.trod enc Tryd.prog w base spare held n 3 (([c0, c1, c2, c3, c4, c5].drop 0).take (Tryd.prog.cellsOf 3)) = some y0 := hf 0 _ rfl
  rw [show Tryd.prog.cellsOf 3 = 1 from by kernel_rfl] at g0
  obtain ⟨a0, k0, w0⟩ := (opens_int Tryd.underlying3) (show DataW.trod enc Tryd.prog w base spare held n 3 [c0] = some y0 from g0)
  have g1 : DataW.trod enc Tryd.prog w base spare held n 3 (([c0, c1, c2, c3, c4, c5].drop 1).take (Tryd.prog.cellsOf 3)) = some y1 := hf 1 _ rfl
  rw [show Tryd.prog.cellsOf 3 = 1 from by kernel_rfl] at g1
  obtain ⟨a1, k1, w1⟩ := (opens_int Tryd.underlying3) (show DataW.trod enc Tryd.prog w base spare held n 3 [c1] = some y1 from g1)
  have g2 : DataW.trod enc Tryd.prog w base spare held n 22 (([c0, c1, c2, c3, c4, c5].drop 2).take (Tryd.prog.cellsOf 22)) = some y2 := hf 2 _ rfl
  rw [show Tryd.prog.cellsOf 22 = 1 from by kernel_rfl] at g2
  obtain ⟨a2, k2, w2⟩ := (opens_int Tryd.underlying22) (show DataW.trod enc Tryd.prog w base spare held n 22 [c2] = some y2 from g2)
  have g3 : DataW.trod enc Tryd.prog w base spare held n 22 (([c0, c1, c2, c3, c4, c5].drop 3).take (Tryd.prog.cellsOf 22)) = some y3 := hf 3 _ rfl
  rw [show Tryd.prog.cellsOf 22 = 1 from by kernel_rfl] at g3
  obtain ⟨a3, k3, w3⟩ := (opens_int Tryd.underlying22) (show DataW.trod enc Tryd.prog w base spare held n 22 [c3] = some y3 from g3)
  have g4 : DataW.trod enc Tryd.prog w base spare held n 22 (([c0, c1, c2, c3, c4, c5].drop 4).take (Tryd.prog.cellsOf 22)) = some y4 := hf 4 _ rfl
  rw [show Tryd.prog.cellsOf 22 = 1 from by kernel_rfl] at g4
  obtain ⟨a4, k4, w4⟩ := (opens_int Tryd.underlying22) (show DataW.trod enc Tryd.prog w base spare held n 22 [c4] = some y4 from g4)
  have g5 : DataW.trod enc Tryd.prog w base spare held n 9 (([c0, c1, c2, c3, c4, c5].drop 5).take (Tryd.prog.cellsOf 9)) = some y5 := hf 5 _ rfl
  rw [show Tryd.prog.cellsOf 9 = 1 from by kernel_rfl] at g5
  obtain ⟨a5, k5, w5⟩ := (opens_str Tryd.underlying9) (show DataW.trod enc Tryd.prog w base spare held n 9 [c5] = some y5 from g5)
  exact ⟨⟨a0, a1, a2, a3, a4, a5⟩, ⟨[c0], [c1, c2, c3, c4, c5], rfl, k0, ⟨[c1], [c2, c3, c4, c5], rfl, k1, ⟨[c2], [c3, c4, c5], rfl, k2, ⟨[c3], [c4, c5], rfl, k3, ⟨[c4], [c5], rfl, k4, k5⟩⟩⟩⟩⟩, ⟨w0, w1, w2, w3, w4, w5⟩⟩
theorem opens_T24 (w : World) : Opens Tryd.prog w k24 24 wf24 := by
  intro H enc base spare held fuel cs x h
  obtain ⟨xs, n, _, rfl, hl, hlen, hf⟩ := DataW.trod_struct Tryd.underlying24 h
  rw [show Tryd.prog.cellsOf 24 = 5 from by kernel_rfl] at hl
  obtain ⟨c0, cs0, rfl, hl0⟩ := len_cons (n := 4) hl
  obtain ⟨c1, cs1, rfl, hl1⟩ := len_cons (n := 3) hl0
  obtain ⟨c2, cs2, rfl, hl2⟩ := len_cons (n := 2) hl1
  obtain ⟨c3, cs3, rfl, hl3⟩ := len_cons (n := 1) hl2
  obtain ⟨c4, cs4, rfl, hl4⟩ := len_cons (n := 0) hl3
  obtain rfl := len_nil hl4
  have hlem : xs.length = 5 := hlen
  obtain ⟨y0, xs0, rfl, hm0⟩ := len_cons (n := 4) hlem
  obtain ⟨y1, xs1, rfl, hm1⟩ := len_cons (n := 3) hm0
  obtain ⟨y2, xs2, rfl, hm2⟩ := len_cons (n := 2) hm1
  obtain ⟨y3, xs3, rfl, hm3⟩ := len_cons (n := 1) hm2
  obtain ⟨y4, xs4, rfl, hm4⟩ := len_cons (n := 0) hm3
  obtain rfl := len_nil hm4
  have g0 : DataW.trod enc Tryd.prog w base spare held n 22 (([c0, c1, c2, c3, c4].drop 0).take (Tryd.prog.cellsOf 22)) = some y0 := hf 0 _ rfl
  rw [show Tryd.prog.cellsOf 22 = 1 from by kernel_rfl] at g0
  obtain ⟨a0, k0, w0⟩ := (opens_int Tryd.underlying22) (show DataW.trod enc Tryd.prog w base spare held n 22 [c0] = some y0 from g0)
  have g1 : DataW.trod enc Tryd.prog w base spare held n 22 (([c0, c1, c2, c3, c4].drop 1).take (Tryd.prog.cellsOf 22)) = some y1 := hf 1 _ rfl
  rw [show Tryd.prog.cellsOf 22 = 1 from by kernel_rfl] at g1
  obtain ⟨a1, k1, w1⟩ := (opens_int Tryd.underlying22) (show DataW.trod enc Tryd.prog w base spare held n 22 [c1] = some y1 from g1)
  have g2 : DataW.trod enc Tryd.prog w base spare held n 22 (([c0, c1, c2, c3, c4].drop 2).take (Tryd.prog.cellsOf 22)) = some y2 := hf 2 _ rfl
  rw [show Tryd.prog.cellsOf 22 = 1 from by kernel_rfl] at g2
  obtain ⟨a2, k2, w2⟩ := (opens_int Tryd.underlying22) (show DataW.trod enc Tryd.prog w base spare held n 22 [c2] = some y2 from g2)
  have g3 : DataW.trod enc Tryd.prog w base spare held n 9 (([c0, c1, c2, c3, c4].drop 3).take (Tryd.prog.cellsOf 9)) = some y3 := hf 3 _ rfl
  rw [show Tryd.prog.cellsOf 9 = 1 from by kernel_rfl] at g3
  obtain ⟨a3, k3, w3⟩ := (opens_str Tryd.underlying9) (show DataW.trod enc Tryd.prog w base spare held n 9 [c3] = some y3 from g3)
  have g4 : DataW.trod enc Tryd.prog w base spare held n 9 (([c0, c1, c2, c3, c4].drop 4).take (Tryd.prog.cellsOf 9)) = some y4 := hf 4 _ rfl
  rw [show Tryd.prog.cellsOf 9 = 1 from by kernel_rfl] at g4
  obtain ⟨a4, k4, w4⟩ := (opens_str Tryd.underlying9) (show DataW.trod enc Tryd.prog w base spare held n 9 [c4] = some y4 from g4)
  exact ⟨⟨a0, a1, a2, a3, a4⟩, ⟨[c0], [c1, c2, c3, c4], rfl, k0, ⟨[c1], [c2, c3, c4], rfl, k1, ⟨[c2], [c3, c4], rfl, k2, ⟨[c3], [c4], rfl, k3, k4⟩⟩⟩⟩, ⟨w0, w1, w2, w3, w4⟩⟩
set_option maxRecDepth 100000 in
theorem lifted (os : Os) (started : os.Started) (H : Type) (enc : TypeId × Value → H) :
    ReturnsInHanded {} Tryd.checked os 14 .any (fun w args => (Rows.fnSemverExcludedSpec.pre enc Tryd.prog Tryd.f14 Rows.fnSemverExcludedRow.domain false w args ∧ laidMetH Tryd.prog Rows.fnSemverExcludedRow.laid w) ∧ sizedMet enc Tryd.prog Tryd.f14 (OpenSpec.ofChange Rows.fnSemverExcludedSpec) false w args)
      (Rows.fnSemverExcludedSpec.post enc Tryd.prog Tryd.f14 false true false false) := by
  refine returnsInHanded_of_change_and (C := Tryd.checked) (X := fun w _ => laidMetH Tryd.prog Rows.fnSemverExcludedRow.laid w) (fun _ _ _ hh h => h.of_heap hh) own started (by kernel_rfl) Tryd.func14
    (ChangeSpec.witness_shaped (enc := enc) (C := Tryd.checked) (os := os) (X := fun w _ => laidMetH Tryd.prog Rows.fnSemverExcludedRow.laid w) false (World.laidAll Tryd.prog os Rows.fnSemverExcludedRow.laid) #[.slice none 0 0, .agg #[.int .u64 0, .int .u64 0, .int .u64 0, .string ByteArray.empty, .string ByteArray.empty]] 8 (World.laidAll_os _ _ _)
      (World.shaped_of_ZipB (by kernel_rfl) (by kernel_rfl)) (by kernel_rfl) (by kernel_rfl) (by kernel_rfl)
      (by rw [MakeChecks.laidMetH_plain _ _ _ (by kernel_rfl)]; exact laidMet_laidAll _ (by kernel_rfl) (by kernel_rfl))) ?_
  intro W base args ds gs before hval0 hW hcnd _ hL _
  have hval : ∀ (j : Nat) t v, Tryd.f14.params[j]? = some t → args[j]? = some v → Value.okWide Tryd.prog W .any base t v := hval0
  have gl := glob5 hL
  have hW' := hW
  obtain ⟨p, q, hA0, hV, rfl, hfz, hnd⟩ := hW
  have hA : DataW.TrodAll enc Tryd.prog W 0 (fun _ => true) true Tryd.f14.params.toList args.toList ds p := hA0
  rw [Tryd.params14] at hA hval
  obtain ⟨v0, vs0, d0, ds0, p0, q0, hargs, rfl, rfl, h0, r0⟩ := trodAll_cons hA
  obtain ⟨v1, vs1, d1, ds1, p1, q1, rfl, rfl, rfl, h1, r1⟩ := trodAll_cons r0
  obtain ⟨rfl, rfl, rfl⟩ := trodAll_nil r1
  obtain rfl : args = #[v0, v1] := by cases args; simp_all
  obtain ⟨rfl, rfl⟩ := trodVars_none hV
  have k0 := h0
  have lt0 : ∀ x ∈ p0, x.block < W.heap.size := by obtain ⟨m, hm⟩ := k0; exact DataW.trod_lt m _ _ _ hm
  obtain ⟨fuel0, hf0⟩ := h0
  obtain ⟨A0, len0, cap0, rfl⟩ := okWide_slice Tryd.underlying54 (hval 0 54 v0 rfl rfl)
  obtain ⟨l0, ⟨B0, c0, e0, hc0, hr0⟩, w0⟩ := (opens_slice Tryd.underlying54 (by kernel_rfl) (opens_slice Tryd.underlying65 (by kernel_rfl) (opens_T36 W))) (show DataW.trod enc Tryd.prog W 0 (fun _ => true) true fuel0 54 [.slice A0 len0 cap0] = some _ from hf0)
  obtain ⟨rfl, rfl, rfl⟩ : A0 = B0 ∧ len0 = l0.length ∧ cap0 = c0 := by simpa using e0
  have k1 := h1
  have lt1 : ∀ x ∈ p1, x.block < W.heap.size := by obtain ⟨m, hm⟩ := k1; exact DataW.trod_lt m _ _ _ hm
  obtain ⟨fuel1, hf1⟩ := h1
  obtain ⟨cs1, rfl, hsz1⟩ := okWide_struct Tryd.underlying24 (hval 1 24 v1 rfl rfl)
  obtain ⟨l1⟩ := cs1
  obtain ⟨x1, K1, w1⟩ := (opens_T24 W) (show DataW.trod enc Tryd.prog W 0 (fun _ => true) true fuel1 24 l1 = some _ from hf1)
  obtain rfl := k24_open K1
  obtain ⟨k, hk⟩ := Pure.FnSemverExcluded l0 x1 w0 w1
  refine (laws_FnSemverExcluded.calls k (fun _ => True) A0 cap0 l0 x1.f0 x1.f1 x1.f2 x1.f3 x1.f4 true W (⟨_, _, rfl, hc0, fun W_ hW_ => Kd.Heap.C (Kd.heap_slice _ (Kd.heap_iso _ (Kd.heap_pair (Kd.heap_int _) (Kd.heap_pair (Kd.heap_int _) (Kd.heap_pair (Kd.heap_int _) (Kd.heap_pair (Kd.heap_int _) (Kd.heap_pair (Kd.heap_int _) Kd.heap_string))))))) (fun k_ hk_ => hW_ k_ trivial hk_) hr0⟩ : Kd.V (Kd.slice 36 k36) 65 W W.heap.size (fun _ => True) (.slice A0 l0.length cap0) l0) gl.1 hk).mono fun e W' ⟨he, bel0⟩ => ?_
  have bel : Below W.heap.size W W' := bel0
  subst he
  exact ⟨_, rfl, _, _, _, [], _, [], hW', trodAll_mk1 (shut_bool Tryd.underlying4 _), (trodAll_cons_mk (Below.trod laidOut (by kernel_rfl) (of_decide_eq_true (by kernel_rfl)) k0 bel lt0) (trodAll_cons_mk (Below.trod laidOut (by kernel_rfl) (of_decide_eq_true (by kernel_rfl)) k1 bel lt1) trodAll_mk0)), rfl, bel.frame _, fun h => by cases h⟩
theorem over : Rows.fnSemverExcludedRow.holds Tryd.pinned (OpenSpec.ofChange Rows.fnSemverExcludedSpec) :=
  OpenClaim.holds_of_wide 14 Tryd.f14 rfl rfl rfl rfl rfl rfl rfl ⟨rfl, rfl, rfl, rfl, rfl⟩ rfl rfl rfl rfl rfl (by kernel_rfl) Tryd.func14 (by kernel_rfl)
    (of_decide_eq_true (by kernel_rfl)) (by unfold Func.isWrapper; first | (rw [if_pos (by decide +kernel)]; kernel_rfl) | (rw [if_neg (by decide +kernel)]; exact ⟨rfl, rfl⟩))
    (fun os started H enc _ => lifted os started H enc)
theorem proved : Rows.FnSemverExcludedCardSaid :=
  Claim7.holds_tied_plain_at .later [] _ _ _ _ over (fun _ h => by cases h) (by kernel_rfl) (fun _ h => by cases h) fnSemverExcluded_row_tie rfl ⟨rfl, rfl⟩ (by kernel_rfl) rfl
    (fun f fn hf hfn => by
      obtain rfl : f = 14 := Option.some.inj ((show Tryd.prog.funcNamed Rows.fnSemverExcludedRow.func = some 14 by kernel_rfl).symm.trans hf) |>.symm
      obtain rfl : fn = Tryd.f14 := (Option.some.inj (Tryd.func14.symm.trans hfn)).symm
      exact ⟨by kernel_rfl, fun j t ht => by
        rw [Tryd.params14] at ht
        have hm : t ∈ [54, 24] := by have hx := Array.mem_of_getElem? ht; first | (simpa using hx) | (simp at hx ⊢; grind)
        have hall : ([54, 24].all fun u => !Tryd.prog.wantsStandIn u) = true := by kernel_rfl
        exact (show Tryd.prog.wantsStandIn t = false by simpa using List.all_eq_true.1 hall t hm)⟩)
    (by kernel_rfl)
#print axioms proved
end Go.Proofs.YtlooelfkkbgmhaaDoor.fnSemverExcluded
namespace Go.Proofs.YtlooelfkkbgmhaaDoor
/-- The row, under a short name, for the claim. -/
theorem fnSemverExcluded_holds : Rows.FnSemverExcludedCardSaid := fnSemverExcluded.proved
end Go.Proofs.YtlooelfkkbgmhaaDoor
