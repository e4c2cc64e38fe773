/-
  The wrappers that note their numbers in a trace.
-/
import Derived.Test.YtnphijkoaalpnaaTra0
import Derived.Deep.Cut
import Derived.LoopTactic
import Derived.Deep.LoopGhost
import Derived.Outline
set_option linter.unusedVariables false
set_option linter.unusedSimpArgs false
namespace Go.Proofs.Ytnphijkoaalpnaa
open Go Go.RowKit Go.Proofs.YtnphijkoaalpnaaW.PrintWords Go.Proofs.YtnphijkoaalpnaaW.PrintLast

set_option maxHeartbeats 8000000 in
set_option maxRecDepth 100000 in
/-- the wrappers of a list of numbers -/
theorem noting_any (tr : Nat) (A : Option Addr) (c : Nat) (l : List Int) (w : World) (hr : (Kd.int .i64).C w A l.length l) (hn : l.length ≤ 2147483647) :
    Calls Try.prog 7 #[.pointer (some ⟨tr, 0, none⟩), .slice A l.length c] w fun e w' => ∃ t v ps, e = .returned v ∧ w'.heap[t]? = some (.cells #[.pointer (some ⟨tr, 0, none⟩)] 32 (0, 0)) ∧ Kd.R (clK t) 35 w' w.heap.size (fun _ => True) v ps ∧ HoldI w' ps l ∧ Below w.heap.size w w' := by
  have HN := Aside0.mk hn
  go_enter Try.func7, Try.ntmps7
  go_wp2
  have HS := Aside0.mk (show w.heap.size ≤ (w.alloc (.cells #[.pointer (some ⟨tr, 0, none⟩)] 32)).heap.size by simp)
  have HA := Aside0.mk (heap_new0 w w.heap.size (.cells #[.pointer (some ⟨tr, 0, none⟩)] 32) rfl)
  have HX := Aside0.mk (bl_alloc (Below.refl w.heap.size w) (.cells #[.pointer (some ⟨tr, 0, none⟩)] 32))
  have HR := Aside0.mk (Kd.C_below hr HX.out)
  clear hr
  generalize w.alloc (.cells #[.pointer (some ⟨tr, 0, none⟩)] 32) = W0 at HS HA HX HR ⊢
  obtain ⟨t, ht⟩ : ∃ t, t = w.heap.size := ⟨_, rfl⟩
  go_loopg [5, 10] (l.length + 1) (fun g v5 v10 w' => ∃ (x : Int) (ps : List Nat), v10 = .int .i64 x ∧ Aside0 (0 ≤ x ∧ x ≤ l.length ∧ g + x.toNat = l.length + 1) ∧ Aside0 (Kd.R (clK w.heap.size) 35 w' W0.heap.size (fun _ => True) v5 ps) ∧ Aside0 (HoldI w' ps (l.take x.toNat)) ∧ Aside0 (Below W0.heap.size W0 w'))
  case atStart => exact ⟨0, [], rfl, ⟨by omega, by omega, by simp⟩, ⟨Kd.R_nil _ _ _ _ _⟩, ⟨by refine ⟨by simp, fun j hj => ?_⟩; simp at hj⟩, ⟨Below.refl _ _⟩⟩
  case round =>
    obtain ⟨x, ps, rfl, HI, HO, HH, HB⟩ := hrel
    by_cases hlt : x < (l.length : Int)
    · have c1 : decide (x < (l.length : Int)) = true := decide_eq_true hlt
      have p0 : 0 ≤ x := HI.out.1
      have p1 : x < (l.length : Int) := hlt
      obtain ⟨ad, e0, g0⟩ := Kd.at_int HR.out x p0 p1
      cases e0
      replace g0 := cell_on HB.out g0
      obtain ⟨tm, htm⟩ : ∃ tm, tm = rd l x := ⟨_, rfl⟩
      rw [← htm] at g0
      have HM := Aside0.mk htm
      have E1 := Aside0.mk (wrap_next p0 p1 HN.out)
      have E2 := Aside0.mk (take_next (0 : Int) l x p0 p1)
      clear htm hlt
      replace p0 := eq_true p0
      replace p1 := eq_true p1
      have HQ := Aside0.mk (heap_new0 wr wr.heap.size (.cells #[.int .i64 tm] 3) rfl)
      have HW := Aside0.mk (bl_alloc (Below.refl wr.heap.size wr) (.cells #[.int .i64 tm] 3))
      go_upto_region 5 with fail
      generalize wr.alloc (.cells #[.int .i64 tm] 3) = w3 at HQ HW ⊢
      go_wp2_with (at_builtin; refine Kd.R_append (clK w.heap.size) (w0 := W0) W0.heap.size rfl (.tmp 14) (.tmp 16) 27 35 .nilFunc 8 rfl Try.underlying27 info35 rfl Nat.one_pos (by omega) u5 ps wr.heap.size [.func (.func 10) #[] #[.pointer (some ⟨w.heap.size, 0, none⟩), .pointer (some ⟨wr.heap.size, 0, none⟩)]] (fun _ => True) (fun _ => False) rfl rfl ?aP ?aK (fun _ _ => trivial) ?aO ?aB ?aS ?aL ?_; (case aP => exact rfl); (case aK => exact fun _ h => h.elim); (case aO => exact Kd.R_below HO.out HW.out); (case aB => exact bl_on HB.out HW.out); (case aS => exact (bl_on HB.out HW.out).size); (case aL => have h1 := HH.out.1; rw [List.length_take] at h1; have h2 := HN.out; omega); intro v1 w1 hR1 hB1 hg1 _; have HR1 := Aside0.mk hR1; have HB1 := Aside0.mk hB1; have HG1 := Aside0.mk hg1; clear hR1 hB1 hg1)
      go_roundg (gk - 1)
      case measure => have h1 := HI.out; have h2 := of_eq_true p1; omega
      case rel => exact ⟨wrap64 (x + 1), ps ++ [wr.heap.size], rfl, ⟨by rw [E1.out]; have h1 := HI.out; have h2 := of_eq_true p1; omega⟩, HR1, ⟨by rw [E1.out, E2.out, ← (show tm = l.getD x.toNat 0 from HM.out)]; exact hold_grown (hold_snoc (hold_on HH.out HW.out) HQ.out) (Kd.R_below HO.out HW.out) HG1.out⟩, HB1⟩
    · have c1 : decide (x < (l.length : Int)) = false := decide_eq_false hlt
      have E0 : Aside0 (l.take x.toNat = l) := ⟨by have h1 := HI.out; rw [List.take_of_length_le (by omega)]⟩
      clear hlt
      go_wp2
      go_ret
      exact ⟨w.heap.size, _, ps, rfl, (HB.out.block _ (Array.getElem?_eq_some_iff.1 HA.out).1).trans HA.out, Kd.R_lower HO.out HS.out, by rw [E0.out] at HH; exact HH.out, HX.out.trans (HB.out.mono HS.out)⟩
end Go.Proofs.Ytnphijkoaalpnaa
