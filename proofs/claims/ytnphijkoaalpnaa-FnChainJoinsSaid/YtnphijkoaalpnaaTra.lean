/-
  What a chain of wrappers leaves in its trace.
-/
import Derived.Test.YtnphijkoaalpnaaTra3
set_option linter.unusedVariables false
set_option linter.unusedSimpArgs false
namespace Go.Proofs.Ytnphijkoaalpnaa
open Go Go.RowKit Go.Proofs.YtnphijkoaalpnaaW.PrintWords Go.Proofs.YtnphijkoaalpnaaW.PrintLast

theorem trs_nil {B tr : Nat} {W : World} (h : W.heap[tr]? = some (.cells #[.slice none 0 0] 22 (0, 0))) : TrS B tr W [] := ⟨_, h, Kd.R_nil _ _ _ _ _⟩
theorem stay_low {tr : Nat} {w w1 w2 : World} (h : Below tr w w1) {B : Nat} (h1 : Stay B tr w1 w2) : Below tr w w2 := h.trans h1.1
set_option maxHeartbeats 8000000 in
set_option maxRecDepth 100000 in
theorem trace_any (A : Option Addr) (c : Nat) (l : List Int) (w : World) (hr : (Kd.int .i64).C w A l.length l) (hn : l.length ≤ 1000) :
    Calls Try.prog 4 #[.slice A l.length c] w fun e w' => ∃ v, e = .returned v ∧ Kd.R (Kd.int .i64) 3 w' w.heap.size (fun _ => True) v (outL l) ∧ Below w.heap.size w w' := by
  have HN := Aside0.mk hn
  go_enter Try.func4, Try.ntmps4
  go_upto_region 2 with fail
  have HS := Aside0.mk (show w.heap.size < (w.alloc (.cells #[.slice none 0 0] 22)).heap.size by simp)
  have HA := Aside0.mk (heap_new0 w w.heap.size (.cells #[.slice none 0 0] 22) rfl)
  have HX := Aside0.mk (bl_alloc (Below.refl w.heap.size w) (.cells #[.slice none 0 0] 22))
  have HR := Aside0.mk (Kd.C_below hr HX.out)
  clear hr
  generalize w.alloc (.cells #[.slice none 0 0] 22) = W0 at HS HA HX HR ⊢
  obtain ⟨tr, htr⟩ : ∃ tr, tr = w.heap.size := ⟨_, rfl⟩
  rw [← htr] at HS HA HX ⊢
  have HTR := Aside0.mk htr
  clear htr
  have hnil : ∀ (u : Value) (w : World), (nilAhead 153 34 u "Run").run Try.prog w = .ok (some false) w := fun _ _ => by kernel_rfl
  have hmet : ∀ (u : Value) (w : World), (method 153 34 u "Run").run Try.prog w = .ok (27, u) w := fun _ _ => by kernel_rfl
  go_upto_region 3 with (first
    | (go_at_call 7; (with_reducible refine (noting_any tr A c l _ HR.out (Nat.le_trans HN.out (by decide))).mono ?_); rintro e w1 ⟨t, v, ps, rfl, ht1, hR1, hH1, hB1⟩; obtain ⟨A1, c1, e1, -, hC1⟩ := Kd.R_reads hR1; subst e1; have HT1 := Aside0.mk ht1; have HC1 := Aside0.mk hC1; have HH1 := Aside0.mk hH1; have HB1 := Aside0.mk hB1; clear ht1 hR1 hC1 hH1 hB1)
    | (go_at_call 6; (with_reducible refine (chain6 A1 ps.length c1 _).mono ?_); rintro e w2 ⟨rfl, hB2⟩; have HB2 := Aside0.mk hB2; clear hB2)
    | (go_at_call 8; (with_reducible refine (then8 tr t A1 c1 ps l (.func (.func 9) #[] #[.pointer (some ⟨tr, 0, none⟩)]) _ (Kd.C_below HC1.out HB2.out) (hold_on HH1.out HB2.out) ?qs ?ts (Nat.le_trans HN.out (by decide)) rfl).mono ?_); (case qs => intro j hj hq; have h1 := HH1.out.2 j hj; have h2 := (HB1.out.block tr HS.out).trans HA.out; rw [hq, h2] at h1; cases h1); (case ts => exact Nat.lt_of_lt_of_le HS.out (Nat.le_trans HB1.out.size HB2.out.size)); rintro e w3 ⟨v3, rfl, hJ3, hB3⟩; obtain ⟨u3, rfl⟩ := job_iface hJ3; have HJ3 := Aside0.mk hJ3; have HB3 := Aside0.mk (bl_on HB1.out (bl_on HB2.out hB3)); have HB4 := Aside0.mk (bl_on HB2.out hB3); clear hJ3 hB3)
    | (go_at_call 27; (with_reducible refine (run_job w3.heap.size tr t l u3 _ [] HJ3.out ?ls (blk_lo HB4.out (Array.getElem?_eq_some_iff.1 HT1.out).1 HT1.out) (trs_nil (blk_lo HB3.out HS.out HA.out)) (by have h1 := HN.out; simp; omega)).mono ?_); (case ls => have h1 := HS.out; have h2 := HB3.out.size; have h3 := (Array.getElem?_eq_some_iff.1 HT1.out).1; have h4 := HB4.out.size; exact ⟨by omega, by omega, (fun he => by have h5 := HT1.out; have h6 := blk_lo HB1.out HS.out HA.out; rw [he, h6] at h5; cases h5), Nat.le_refl _⟩); rintro e w4 ⟨rfl, hT4, hY4⟩; have HT4 := Aside0.mk hT4; have HY4 := Aside0.mk hY4; clear hT4 hY4))
  obtain ⟨v4, h4, hR4⟩ := HT4.out
  obtain ⟨A4, c4, e4, -, -⟩ := Kd.R_reads hR4
  subst e4
  have HR4 := Aside0.mk hR4
  have g4 : w4.cell? ⟨tr, 0, none⟩ = some (.slice A4 ([] ++ outL l).length c4) := cellsOf h4 0
  clear hR4 h4
  go_wp2
  go_ret
  refine ⟨_, rfl, ?_, ?_⟩
  · have h1 := HTR.out; have h2 := HS.out; have h3 := HB3.out.size
    exact Kd.R_mono (Kd.R_lower HR4.out (by omega)) (fun _ _ => trivial)
  · have h1 := HTR.out
    rw [← h1]
    exact (HX.out.trans (HB3.out.mono (Nat.le_of_lt HS.out))).trans HY4.out.1
end Go.Proofs.Ytnphijkoaalpnaa
namespace Go.Proofs.Ytnphijkoaalpnaa.QW
open Go Go.RowKit Go.Proofs.YtnphijkoaalpnaaW.PrintWords Go.Proofs.YtnphijkoaalpnaaW.PrintLast
/-- what a chain notes; asked of at most a thousand wrappers -/
def impl_ChainTrace.f (l : List Int) : Option (List Int) := if l.length ≤ 1000 then some (outL l) else none
theorem impl_ChainTrace.calls (A0 : Option Addr) (c0 : Nat) (l0 : List Int) (r : List Int) (w : World) (hr0 : Kd.C (Kd.int .i64) w A0 l0.length l0) (hc0 : l0.length ≤ c0) (h : impl_ChainTrace.f l0 = some r) :
    Calls Try.prog 4 #[.slice A0 l0.length c0] w fun e w' => ∃ v : Value, e = .returned v ∧ Kd.R (Kd.int .i64) 3 w' w.heap.size (fun _ => True) v r ∧ Below w.heap.size w w' := by
  unfold impl_ChainTrace.f at h
  by_cases hc : l0.length ≤ 1000
  · rw [if_pos hc] at h
    obtain rfl := Option.some.inj h
    exact trace_any A0 c0 l0 w hr0 hc
  · rw [if_neg hc] at h; cases h
end Go.Proofs.Ytnphijkoaalpnaa.QW
