/-
  A chain of wrappers run.
-/
import Derived.Test.YtnphijkoaalpnaaTra2
set_option linter.unusedVariables false
set_option linter.unusedSimpArgs false
namespace Go.Proofs.Ytnphijkoaalpnaa
open Go Go.RowKit Go.Proofs.YtnphijkoaalpnaaW.PrintWords Go.Proofs.YtnphijkoaalpnaaW.PrintLast

set_option maxHeartbeats 4000000 in
set_option maxRecDepth 100000 in
/-- the innermost job notes 0 -/
theorem job9 (B tr : Nat) (W : World) (xs : List Int) (hl : tr < B ∧ B ≤ W.heap.size) (hn : xs.length + 1 ≤ 2147483647) (hT : TrS B tr W xs) :
    Calls Try.prog 9 #[.pointer (some ⟨tr, 0, none⟩)] W (PostR B tr W (xs ++ [0])) := by
  have HL := Aside0.mk hl
  have HM := Aside0.mk hn
  obtain ⟨vs, hT0, hv⟩ := hT
  obtain ⟨A, c, e0, -, -⟩ := Kd.R_reads hv
  subst e0
  have HR := Aside0.mk hv
  have HH := Aside0.mk hT0
  have g1 : W.cell? ⟨tr, 0, none⟩ = some (.slice A xs.length c) := cellsOf hT0 0
  clear hl hn hv hT0
  go_enter Try.func9, Try.ntmps9
  go_wp2_with (at_builtin; refine Kd.R_append (Kd.int .i64) (w0 := W) B rfl (.tmp 1) (.tmp 2) 22 3 (.int .i64 0) 8 rfl Try.underlying22 info3 rfl Nat.one_pos (by omega) (.slice A xs.length c) xs 0 [.int .i64 0] (fun k => B ≤ k) (fun _ => False) rfl rfl rfl (fun _ h => h.elim) (fun k hk => Nat.le_trans HL.out.2 hk) HR.out (Below.refl _ _) HL.out.2 (by have h1 := HM.out; omega) ?_; intro v1 w1 hR hB _ _; obtain ⟨A1, c1, e1, -, -⟩ := Kd.R_reads hR; simp only [List.length_append, List.length_cons, List.length_nil, Nat.zero_add] at e1; subst e1; have HR1 := Aside0.mk hR; have HB1 := Aside0.mk hB; have fz := frozenOf (blk_lo HB1.out HL.out.1 HH.out) 0; have g2 := cell_lo HB1.out HL.out.1 g1; clear hR)
  go_end0
  exact ⟨rfl, trs_set HL.out.1 (blk_lo HB1.out HL.out.1 HH.out) HR1.out, stay_trans (stay_below HB1.out (Nat.le_of_lt HL.out.1)) (stay_set B tr w1 _)⟩
set_option maxHeartbeats 4000000 in
set_option maxRecDepth 100000 in
theorem run9 (tr : Nat) (W : World) (P : Ending → World → Prop) (h : Calls Try.prog 9 #[.pointer (some ⟨tr, 0, none⟩)] W P) (hP : ∀ e w', P e w' → e = .returned (.tuple #[])) :
    Calls Try.prog 27 #[fv9 tr] W P := by
  have H := Aside0.mk h
  have HP := Aside0.mk hP
  clear h hP
  show Calls Try.prog 27 #[.func (.func 9) #[] #[.pointer (some ⟨tr, 0, none⟩)]] W P
  go_enter Try.func27, Try.ntmps27
  go_wp2_with (go_at_call 9; (with_reducible refine H.out.mono ?_); rintro e w1 hw; obtain rfl := HP.out e w1 hw; have HW := Aside0.mk hw; clear hw)
  go_end0
  exact HW.out
set_option maxHeartbeats 4000000 in
set_option maxRecDepth 100000 in
theorem run11 (t q b : Nat) (W : World) (P : Ending → World → Prop) (h : Calls Try.prog 11 #[.pointer (some ⟨t, 0, none⟩), .pointer (some ⟨q, 0, none⟩), .pointer (some ⟨b, 0, none⟩)] W P) (hP : ∀ e w', P e w' → e = .returned (.tuple #[])) :
    Calls Try.prog 27 #[fv11 t q b] W P := by
  have H := Aside0.mk h
  have HP := Aside0.mk hP
  clear h hP
  show Calls Try.prog 27 #[.func (.func 11) #[] #[.pointer (some ⟨t, 0, none⟩), .pointer (some ⟨q, 0, none⟩), .pointer (some ⟨b, 0, none⟩)]] W P
  go_enter Try.func27, Try.ntmps27
  go_wp2_with (go_at_call 11; (with_reducible refine H.out.mono ?_); rintro e w1 hw; obtain rfl := HP.out e w1 hw; have HW := Aside0.mk hw; clear hw)
  go_end0
  exact HW.out
/-- what a chain of these wrappers notes -/
def outL : List Int → List Int
  | [] => [0]
  | a :: l => a :: outL l ++ [wrap64 (-a)]
theorem outL_length : ∀ l : List Int, (outL l).length = 2 * l.length + 1
  | [] => rfl
  | a :: l => by simp [outL, outL_length l]; omega
theorem job_iface {B tr t : Nat} {W : World} : ∀ {l : List Int} {v : Value}, Job B tr t W v l → ∃ u, v = .iface 34 u
  | [], v, h => ⟨_, h⟩
  | a :: l, v, h => by obtain ⟨q, b, v', e, _⟩ := h; exact ⟨_, e⟩
theorem job_on {B tr t : Nat} {W W' : World} : ∀ {l : List Int} {v : Value}, Job B tr t W v l → (∀ k, k < B → k ≠ tr → W'.heap[k]? = W.heap[k]?) → Job B tr t W' v l
  | [], v, h, hs => h
  | a :: l, v, h, hs => by
    obtain ⟨q, b, v', e, hk, hq, hb, hj⟩ := h
    exact ⟨q, b, v', e, hk, (hs q hk.1 hk.2.2.1).trans hq, (hs b hk.2.1 hk.2.2.2).trans hb, job_on hj hs⟩
theorem job_up {B B' tr t : Nat} {W : World} (hB : B ≤ B') : ∀ {l : List Int} {v : Value}, Job B tr t W v l → Job B' tr t W v l
  | [], v, h => h
  | a :: l, v, h => by
    obtain ⟨q, b, v', e, hk, hq, hb, hj⟩ := h
    exact ⟨q, b, v', e, ⟨by omega, by omega, hk.2.2.1, hk.2.2.2⟩, hq, hb, job_up hB hj⟩
theorem run_job (B tr t : Nat) : ∀ (l : List Int) (u : Value) (W : World) (xs : List Int), Job B tr t W (.iface 34 u) l → (tr < B ∧ t < B ∧ t ≠ tr ∧ B ≤ W.heap.size) → W.heap[t]? = some (.cells #[.pointer (some ⟨tr, 0, none⟩)] 32 (0, 0)) → TrS B tr W xs → xs.length + 2 * l.length + 2 ≤ 2147483647 →
    Calls Try.prog 27 #[u] W (PostR B tr W (xs ++ outL l))
  | [], u, W, xs, hJ, hl, ht, hT, hn => by
    have e : Value.iface 34 u = .iface 34 (fv9 tr) := hJ
    injection e with _ e
    subst e
    exact run9 tr W _ (job9 B tr W xs ⟨hl.1, hl.2.2.2⟩ (by simp at hn; omega) hT) (fun _ _ h => h.1)
  | a :: l, u, W, xs, hJ, hl, ht, hT, hn => by
    obtain ⟨q, b, v', e, hk, hq, hb, hj⟩ := hJ
    injection e with _ e
    subst e
    obtain ⟨u', rfl⟩ := job_iface hj
    have h1 := job11 B tr t q b a u' (outL l) W xs ⟨hl.1, hl.2.1, hk.1, hk.2.1, hl.2.2.1, hk.2.2.1, hk.2.2.2, hl.2.2.2⟩ (by rw [outL_length]; simp at hn; omega) ht hq hb hT
      (fun W' xs' hs hT' hlen => run_job B tr t l u' W' xs' (job_on hj hs.2) ⟨hl.1, hl.2.1, hl.2.2.1, Nat.le_trans hl.2.2.2 hs.1.size⟩ (stay_blk hs hl.2.1 hl.2.2.1 ht) hT' (by simp at hn; omega))
    have e1 : xs ++ outL (a :: l) = xs ++ a :: outL l ++ [wrap64 (-a)] := by simp [outL]
    rw [e1]
    exact run11 t q b W _ h1 (fun _ _ h => h.1)
set_option maxHeartbeats 4000000 in
set_option maxRecDepth 100000 in
/-- a wrapper over a job -/
theorem wrap10 (t q : Nat) (u : Value) (W : World) :
    Calls Try.prog 10 #[.iface 34 u, .pointer (some ⟨t, 0, none⟩), .pointer (some ⟨q, 0, none⟩)] W fun e w' => e = .returned (.iface 34 (.func (.func 11) #[] #[.pointer (some ⟨t, 0, none⟩), .pointer (some ⟨q, 0, none⟩), .pointer (some ⟨W.heap.size, 0, none⟩)])) ∧ w' = W.alloc (.cells #[.iface 34 u] 26) := by
  go_enter Try.func10, Try.ntmps10
  go_wp2
  go_ret
  exact ⟨rfl, rfl⟩
set_option maxHeartbeats 4000000 in
set_option maxRecDepth 100000 in
theorem chain6 (A : Option Addr) (n c : Nat) (W : World) :
    Calls Try.prog 6 #[.slice A n c] W fun e w' => e = .returned (.agg #[.slice A n c]) ∧ Below W.heap.size W w' := by
  go_enter Try.func6, Try.ntmps6
  go_wp2
  have c0 : (W.alloc (.cells #[.slice A n c] 29)).cell? ⟨W.heap.size, 0, none⟩ = some (.slice A n c) := cellsOf (heap_new0 W _ (.cells #[.slice A n c] 29) rfl) 0
  exact bodyPost_ret (v := .agg #[.slice A n c]) (by simp [results, Try.results6, go_sem, c0]) rfl ⟨rfl, bl_alloc (Below.refl _ _) _⟩
theorem at_clK {t : Nat} {w : World} {A : Option Addr} {n : Nat} {ps : List Nat} (h : (clK t).C w A n ps) (i : Int) (h0 : 0 ≤ i) (h1 : i < n) : ∃ ad, A = some ad ∧ w.cell? (ad.add i.toNat) = some (.func (.func 10) #[] #[.pointer (some ⟨t, 0, none⟩), .pointer (some ⟨rdOf 0 ps i, 0, none⟩)]) :=
  ReadsOf.at_ (Kd.reads_of_C (enc := fun q => .func (.func 10) #[] #[.pointer (some ⟨t, 0, none⟩), .pointer (some ⟨q, 0, none⟩)]) (d := (0 : Nat)) (h1 := fun _ => rfl) h) i h0 h1
theorem rdOf_getD (ps : List Nat) (i : Int) : rdOf 0 ps i = ps.getD i.toNat 0 := by
  simp [rdOf]
set_option maxHeartbeats 8000000 in
set_option maxRecDepth 100000 in
/-- the wrappers of these numbers around a job -/
theorem then8 (tr t : Nat) (A : Option Addr) (c : Nat) (ps : List Nat) (l : List Int) (u : Value) (w : World) (hr : (clK t).C w A ps.length ps) (hH : HoldI w ps l) (hq : ∀ j, j < l.length → ps.getD j 0 ≠ tr) (htr : tr < w.heap.size) (hn : l.length ≤ 2147483647) (hu : u = fv9 tr) :
    Calls Try.prog 8 #[.agg #[.slice A ps.length c], .iface 34 u] w fun e w' => ∃ v, e = .returned v ∧ Job w'.heap.size tr t w' v l ∧ Below w.heap.size w w' := by
  have HN := Aside0.mk hn
  have HQ := Aside0.mk hq
  have HT := Aside0.mk htr
  have HU := Aside0.mk hu
  have HE := Aside0.mk hH.1
  clear hn hq htr hu
  go_enter Try.func8, Try.ntmps8
  go_wp2
  have HS := Aside0.mk (show w.heap.size < (w.alloc (.cells #[.slice A ps.length c] 29)).heap.size by simp)
  have HA := Aside0.mk (heap_new0 w w.heap.size (.cells #[.slice A ps.length c] 29) rfl)
  have HX := Aside0.mk (bl_alloc (Below.refl w.heap.size w) (.cells #[.slice A ps.length c] 29))
  have HR := Aside0.mk (Kd.C_below hr HX.out)
  have HH := Aside0.mk (hold_on hH HX.out)
  clear hr hH
  generalize w.alloc (.cells #[.slice A ps.length c] 29) = W0 at HS HA HX HR HH ⊢
  go_loopg [1, 9] (l.length + 1) (fun g v1 v9 w' => ∃ (x : Int) (u' : Value), v1 = .iface 34 u' ∧ v9 = .int .i64 x ∧ Aside0 (0 ≤ x ∧ x ≤ l.length ∧ g + x.toNat = l.length + 1) ∧ Aside0 (Job w'.heap.size tr t w' (.iface 34 u') (l.drop (l.length - x.toNat))) ∧ Aside0 (Below W0.heap.size W0 w'))
  case atStart => exact ⟨0, u, rfl, rfl, ⟨by omega, by omega, by simp⟩, ⟨by simp [HU.out, Job]⟩, ⟨Below.refl _ _⟩⟩
  case round =>
    obtain ⟨x, u', rfl, rfl, HI, HJ, HB⟩ := hrel
    have g0 : wr.cell? ⟨w.heap.size, 0, none⟩ = some (.slice A ps.length c) := cell_lo HB.out HS.out (cellsOf HA.out 0)
    by_cases hlt : x < (ps.length : Int)
    · have c1 : decide (x < (ps.length : Int)) = true := decide_eq_true hlt
      obtain ⟨y, hy⟩ : ∃ y : Int, y = ps.length - x - 1 := ⟨_, rfl⟩
      have h1 := HI.out
      have h2 := HN.out
      have h3 := HE.out
      have y0 : 0 ≤ y := by omega
      have y1 : y < (ps.length : Int) := by omega
      have e1 : wrap64 ((ps.length : Int) - x) = y + 1 := by unfold wrap64; omega
      have e2 : wrap64 (y + 1 - 1) = y := by unfold wrap64; omega
      have e3 : wrap64 y = y := by unfold wrap64; omega
      obtain ⟨ad, e0, gc⟩ := at_clK HR.out y y0 y1
      cases e0
      replace gc := cell_lo HB.out (World.block_lt_of_cell? _ _ gc) gc
      obtain ⟨q, hqe⟩ : ∃ q, q = rdOf 0 ps y := ⟨_, rfl⟩
      rw [← hqe] at gc
      rw [rdOf_getD] at hqe
      have hq0 := HH.out.2 y.toNat (by omega)
      have hq1 := HQ.out y.toNat (by omega)
      rw [← hqe] at hq0 hq1
      have hq2 := blk_lo HB.out (Array.getElem?_eq_some_iff.1 hq0).1 hq0
      have HQ0 := Aside0.mk hq2
      have HQ1 := Aside0.mk hq1
      have ED : Aside0 (l.drop (l.length - (x + 1).toNat) = l.getD y.toNat 0 :: l.drop (l.length - x.toNat)) := ⟨by
        have h4 : l.length - (x + 1).toNat = y.toNat := by omega
        have h5 : l.length - x.toNat = y.toNat + 1 := by omega
        rw [h4, h5, List.drop_eq_getElem_cons (by omega)]
        simp [List.getD_eq_getElem?_getD, List.getElem?_eq_getElem (show y.toNat < l.length by omega)]⟩
      have E1 : Aside0 (wrap64 (x + 1) = x + 1) := ⟨by unfold wrap64; omega⟩
      have HY := Aside0.mk hy
      have HLT := Aside0.mk hlt
      clear h1 h2 h3 hq0 hq1 hq2 hqe hy hlt
      replace y0 := eq_true y0
      replace y1 := eq_true y1
      go_wp2_with (go_at_call 10; (with_reducible refine (wrap10 t q u' _).mono ?_); rintro e w3 ⟨rfl, hw3⟩; have HW := Aside0.mk hw3; clear hw3)
      go_roundg (gk - 1)
      case measure => have h1 := HI.out; have h2 := HE.out; have h3 := HLT.out; omega
      case rel =>
        refine ⟨wrap64 (x + 1), _, rfl, rfl, ⟨by rw [E1.out]; have h1 := HI.out; have h2 := HE.out; have h3 := HLT.out; omega⟩, ⟨?_⟩, ⟨?_⟩⟩
        · rw [E1.out, ED.out]
          have hb3 : Below wr.heap.size wr w3 := by rw [HW.out]; exact bl_alloc (Below.refl _ _) _
          have hs3 : wr.heap.size < w3.heap.size := by rw [HW.out]; simp
          have hq3 := HQ0.out
          have hq4 := (Array.getElem?_eq_some_iff.1 hq3).1
          have ht := HT.out
          have h5 := HB.out.size
          have h6 := HS.out
          exact ⟨q, wr.heap.size, _, rfl, ⟨by omega, hs3, HQ1.out, by omega⟩, blk_lo hb3 hq4 hq3, by rw [HW.out]; exact heap_new0 _ _ _ rfl, job_up (Nat.le_of_lt hs3) (job_on HJ.out (fun k hk _ => hb3.block k hk))⟩
        · rw [HW.out]; exact bl_alloc HB.out _
    · have c1 : decide (x < (ps.length : Int)) = false := decide_eq_false hlt
      have E0 : Aside0 (l.drop (l.length - x.toNat) = l) := ⟨by have h1 := HI.out; have h2 := HE.out; rw [show l.length - x.toNat = 0 by omega]; rfl⟩
      clear hlt
      go_wp2
      go_ret
      exact ⟨_, rfl, by rw [E0.out] at HJ; exact HJ.out, HX.out.trans (HB.out.mono (Nat.le_of_lt HS.out))⟩
end Go.Proofs.Ytnphijkoaalpnaa
