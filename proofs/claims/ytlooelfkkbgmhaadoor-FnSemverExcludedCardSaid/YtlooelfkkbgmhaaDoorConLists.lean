/-
  The making of constraints out of lists of terms.
-/
import Derived.Test.YtlooelfkkbgmhaaDoorConTerms
set_option linter.unusedVariables false
set_option linter.unusedSimpArgs false
namespace Go.Proofs.YtlooelfkkbgmhaaDoor
open Go Go.RowKit Go.Proofs.YtlooelfkkbgmhaaDoorW.PrintWords Go.Proofs.YtlooelfkkbgmhaaDoorW.PrintLast
open Go.Proofs.YtlooelfkkbgmhaaDoor.QS (S36 k36 rd_T36 rd_L6)

theorem at_Z {w : World} {A : Option Addr} {n : Nat} {xs : List S36} (h : Kd.C zzK w A n xs) (i : Int) (h0 : 0 ≤ i) (h1 : i < n) : ∃ ad q, A = some ad ∧ w.heap[q]? = some (.cells (verC (rd_T36 xs i)) 70 (0, 0)) ∧ w.cell? (ad.add (i.toNat * 5)) = some (.string (opS (rd_T36 xs i).f0)) ∧ w.cell? ⟨(ad.add (i.toNat * 5)).block, (ad.add (i.toNat * 5)).off + 1, none⟩ = some (.pointer (some ⟨q, 0, none⟩)) ∧ w.cell? ⟨(ad.add (i.toNat * 5)).block, (ad.add (i.toNat * 5)).off + 2, none⟩ = some (.bool (decide ((rd_T36 xs i).f1 < 3))) ∧ w.cell? ⟨(ad.add (i.toNat * 5)).block, (ad.add (i.toNat * 5)).off + 3, none⟩ = some (.bool ((rd_T36 xs i).f1 == 1)) ∧ w.cell? ⟨(ad.add (i.toNat * 5)).block, (ad.add (i.toNat * 5)).off + 4, none⟩ = some (.bool ((rd_T36 xs i).f1 == 2)) := by
  obtain ⟨ad, c, e, _, hK, hc0⟩ := Kd.C_get h QS.z36 i h0 h1
  have hc : ∀ j u, c[j]? = some u → w.cell? (ad.add (i.toNat * 5 + j)) = some u := hc0
  obtain ⟨q, rfl, hq⟩ := hK
  exact ⟨ad, q, e, hq, hc 0 _ rfl, by rw [← add_field _ _ 1 (by omega)]; exact hc 1 _ rfl, by rw [← add_field _ _ 2 (by omega)]; exact hc 2 _ rfl, by rw [← add_field _ _ 3 (by omega)]; exact hc 3 _ rfl, by rw [← add_field _ _ 4 (by omega)]; exact hc 4 _ rfl⟩
theorem at_ZL {w : World} {A : Option Addr} {n : Nat} {xs : List (List S36)} (h : Kd.C (Kd.slice 86 zzK) w A n xs) (i : Int) (h0 : 0 ≤ i) (h1 : i < n) : ∃ ad A0 c0, A = some ad ∧ w.cell? (ad.add i.toNat) = some (.slice A0 (rd_L6 xs i).length c0) ∧ (rd_L6 xs i).length ≤ c0 ∧ zzK.C w A0 (rd_L6 xs i).length (rd_L6 xs i) := by
  obtain ⟨ad, c, e, _, hK, hc0⟩ := Kd.C_get h ([] : List S36) i h0 h1
  have hc : ∀ j u, c[j]? = some u → w.cell? (ad.add (i.toNat * 1 + j)) = some u := hc0
  obtain ⟨A0, c0, rfl, l0, g0⟩ := hK
  exact ⟨ad, A0, c0, e, by have hq := hc 0 _ rfl; rwa [Nat.mul_one, Nat.add_zero] at hq, l0, g0⟩

theorem info110 : (Tryd.prog.info? 110).map (fun i => (i.zero, i.size, i.bytes)) = some (some (.pointer none), 1, 8) := by kernel_rfl
theorem info117 : (Tryd.prog.info? 117).map (fun i => (i.zero, i.size, i.bytes)) = some (some (.slice none 0 0), 1, 24) := by kernel_rfl
theorem info4c : (Tryd.prog.info? 4).map (fun i => (i.zero, i.size, i.bytes)) = some (some (.bool false), 1, 1) := by kernel_rfl

theorem R_some {α : Type} {d : Kd α} {e base : Nat} {ok : Nat → Prop} {w : World} {v : Value} {xs : List α} (h : d.R e w base ok v xs) : ∃ A n c, v = .slice A n c := by
  obtain ⟨A, c, h⟩ := Kd.R_slice h
  exact ⟨A, _, c, h⟩
theorem heap_new0 (W : World) (q : Nat) (o : Obj) (h : q = W.heap.size) : (W.alloc o).heap[q]? = some o := by subst h; exact (MapKept.heap_alloc W o).1
theorem heap_old {W : World} {p : Nat} {o o' : Obj} (h : W.heap[p]? = some o) : (W.alloc o').heap[p]? = some o := ((MapKept.heap_alloc W o').2 p (Array.getElem?_eq_some_iff.1 h).1).trans h
/-- a list of terms names a prerelease -/
def hasPre (ts : List S36) : Bool := ts.any fun t => !t.f5.toList.isEmpty

theorem hasPre_snoc (ts : List S36) (t : S36) : hasPre (ts ++ [t]) = (hasPre ts || !t.f5.toList.isEmpty) := by simp [hasPre]

set_option maxHeartbeats 8000000 in
set_option maxRecDepth 100000 in
theorem lists_any (A : Option Addr) (c : Nat) (tss : List (List S36)) (pre : Bool) (w : World) (hr : Kd.C (Kd.slice 86 zzK) w A tss.length tss) (hn : tss.length ≤ 2147483647) (hok : ∀ l ∈ tss, l.length ≤ 2147483647) :
    Calls Tryd.prog 100 #[.slice A tss.length c, .bool pre] w fun e w' => ∃ A1 c1 A2 c2, e = .returned (.agg #[.slice A1 tss.length c1, .slice A2 tss.length c2, .bool pre]) ∧ Kd.C (Kd.slice 110 (coK w)) w' A1 tss.length tss ∧ Kd.C Kd.bool w' A2 tss.length (tss.map hasPre) ∧ Below w.heap.size w w' := by
  have HR := Aside0.mk hr
  have HN := Aside0.mk hn
  have HK := Aside0.mk hok
  clear hr hok hn
  go_enter Tryd.func100, Tryd.ntmps100
  go_wp2
  go_loopg [16] (tss.length + 1) (fun g v16 w' => ∃ (x : Int) (v u : Value), v16 = .int .i64 x ∧ Aside0 (0 ≤ x ∧ x ≤ tss.length ∧ g + x.toNat = tss.length + 1) ∧ Aside0 (Kd.R (Kd.slice 110 (coK w)) 117 w' w.heap.size (fun k => w.heap.size + 2 ≤ k) v (tss.take x.toNat)) ∧ Aside0 (Kd.R Kd.bool 4 w' w.heap.size (fun k => w.heap.size + 2 ≤ k) u ((tss.map hasPre).take x.toNat)) ∧ Aside0 (w'.heap[w.heap.size + 1]? = some (.cells #[v, u, .bool pre] 96 (0, 0))) ∧ Aside0 (∃ a b d, w'.heap[w.heap.size]? = some (.cells #[a, b, d] 96 (0, 0))) ∧ Aside0 (Below w.heap.size w w'))
  case atStart =>
    exact ⟨0, .slice none 0 0, .slice none 0 0, rfl, ⟨by omega, by omega, by simp⟩, ⟨by simpa using Kd.R_nil _ _ _ _ _⟩, ⟨by simpa using Kd.R_nil _ _ _ _ _⟩, ⟨by simpa using (MapKept.heap_alloc (w.alloc _) _).1⟩, ⟨_, _, _, (heap_old (MapKept.heap_alloc w _).1)⟩, ⟨bl_alloc (bl_alloc (Below.refl _ _) _) _⟩⟩
  case round =>
    obtain ⟨x, v, u, rfl, HI, HV, HU, HC, HD, HB⟩ := hrel
    by_cases hlt : x < (tss.length : Int)
    · have c1 : decide (x < (tss.length : Int)) = true := decide_eq_true hlt
      have p0 : 0 ≤ x := HI.out.1
      have p1 : x < (tss.length : Int) := hlt
      obtain ⟨ad, A0, c0, e0, hx, hl, hi⟩ := at_ZL HR.out x p0 p1
      cases e0
      replace hx := (HB.out.cell (World.block_lt_of_cell? w _ hx)).trans hx
      have HX := Aside0.mk hi
      clear hl hi hlt
      replace p0 := eq_true p0
      replace p1 := eq_true p1
      obtain ⟨wo, rfl⟩ : ∃ wo : World, wo = wr := ⟨_, rfl⟩
      obtain ⟨ts, hts⟩ : ∃ ts, ts = rd_L6 tss x := ⟨_, rfl⟩
      rw [← hts] at HX hx
      have HT := Aside0.mk hts
      clear hts
      have HS := Aside0.mk (HK.out ts (by rw [HT.out]; exact getD_mem _ _ _ HI.out.1 (of_eq_true p1)))
      obtain ⟨go, rfl⟩ : ∃ g : Nat, g = gk := ⟨_, rfl⟩
      go_wp2
      go_loopg [8, 9, 22] (ts.length + 1) (fun g v8 v9 v22 w' => ∃ y : Int, v22 = .int .i64 y ∧ v9 = .bool (hasPre (ts.take y.toNat)) ∧ Aside0 (0 ≤ y ∧ y ≤ ts.length ∧ g + y.toNat = ts.length + 1) ∧ Aside0 (Kd.R (coK w) 110 w' wo.heap.size (fun _ => True) v8 (ts.take y.toNat)) ∧ Aside0 (Below wo.heap.size wo w'))
      case atStart => exact ⟨0, rfl, rfl, ⟨by omega, by omega, by simp⟩, ⟨by simpa using Kd.R_nil _ _ _ _ _⟩, ⟨Below.refl _ _⟩⟩
      case round =>
        obtain ⟨y, rfl, rfl, HI2, HO2, HB2⟩ := hrel
        by_cases hlt2 : y < (ts.length : Int)
        · have c3 : decide (y < (ts.length : Int)) = true := decide_eq_true hlt2
          have p2 : 0 ≤ y := HI2.out.1
          have p3 : y < (ts.length : Int) := hlt2
          obtain ⟨ad2, q, e2, gq, g0, g1, g2, g3, g4⟩ := at_Z HX.out y p2 p3
          cases e2
          have HB3 := Aside0.mk (bl_on HB.out HB2.out)
          replace g0 := (HB3.out.cell (World.block_lt_of_cell? w _ g0)).trans g0
          replace g1 := (HB3.out.cell (World.block_lt_of_cell? w _ g1)).trans g1
          replace g2 := (HB3.out.cell (World.block_lt_of_cell? w _ g2)).trans g2
          replace g3 := (HB3.out.cell (World.block_lt_of_cell? w _ g3)).trans g3
          replace g4 := (HB3.out.cell (World.block_lt_of_cell? w _ g4)).trans g4
          obtain ⟨tm, htm⟩ : ∃ tm, tm = rd_T36 ts y := ⟨_, rfl⟩
          rw [← htm] at g0 g2 g3 g4 gq
          have HM := Aside0.mk htm
          have GQ := Aside0.mk gq
          have E1 := Aside0.mk (wrap_next p2 p3 HS.out)
          have E2 := Aside0.mk (take_next QS.z36 ts y p2 p3)
          clear htm hlt2 gq
          replace p2 := eq_true p2
          replace p3 := eq_true p3
          go_upto_region 11 with (first | (go_at_call 123; (with_reducible refine (inner_any _ q _ _ _ _).mono ?_); rintro e w3 ⟨rfl, hw3⟩; have HZ : Aside0 (w3.heap[wr.heap.size + 1 + 1]? = some (.cells (conC tm q) 125 (0, 0))) := ⟨by subst hw3; exact heap_new0 _ _ _ (by simp)⟩; have HT3 : Aside0 (∃ cs, w3.heap[wr.heap.size]? = some (.cells cs 86 (0, 0)) ∧ cs[1]? = some (.pointer (some ⟨q, 0, none⟩))) := ⟨by subst hw3; exact ⟨_, heap_old (heap_old (heap_new0 _ _ _ rfl)), rfl⟩⟩; have HW := Aside0.mk (show Below wr.heap.size wr w3 by subst hw3; exact bl_alloc (bl_alloc (bl_alloc (Below.refl _ _) _) _) _); clear hw3) | (at_builtin; refine Kd.R_append (coK w) (w0 := wo) wo.heap.size rfl (.tmp 26) (.tmp 29) 117 110 (.pointer none) 8 rfl Tryd.underlying117 info110 rfl Nat.one_pos (by omega) u8 (ts.take y.toNat) tm [.pointer (some ⟨wr.heap.size + 1 + 1, 0, none⟩)] (fun _ => True) (fun k => k = wr.heap.size + 1 + 1) rfl rfl ?aP ?aK (fun _ _ => trivial) ?aO ?aB ?aS ?aL ?_; (case aP => exact ⟨_, q, rfl, rfl, Nat.le_trans HB2.out.size (by omega), HZ.out, GQ.out⟩); (case aK => rintro k rfl; refine ⟨trivial, fun he => ?_⟩; have h1 := Kd.R_lt HO2.out _ he.symm; omega); (case aO => exact Kd.R_below HO2.out HW.out); (case aB => exact bl_on HB2.out HW.out); (case aS => exact (bl_on HB2.out HW.out).size); (case aL => have h1 := take_length_le ts y.toNat; have h2 := HS.out; omega); intro v1 w1 hR1 hB1 hg1 _; have HR1 := Aside0.mk hR1; have HB1 := Aside0.mk hB1; have HG1 := Aside0.mk hg1; clear hR1 hB1 hg1))
          obtain ⟨cs3, h3, hc3⟩ := HT3.out
          have k1 : w1.cell? ⟨wr.heap.size, 1, none⟩ = some (.pointer (some ⟨q, 0, none⟩)) := (blk_cell (blk_grown h3 HG1.out (fun he => by have h1 := Kd.R_lt HO2.out _ he.symm; omega)) 1).trans hc3
          have k2 : w1.cell? ⟨q, 3, none⟩ = some (.string tm.f5) := (blk_cell (blk_below GQ.out (bl_on HB.out HB1.out)) 3).trans rfl
          clear h3 hc3 HT3
          cases hp : tm.f5.toList.isEmpty
          · have hp1 : (!tm.f5.toList.isEmpty) = true := by rw [hp]; rfl
            have HP := Aside0.mk hp
            go_wp2
            go_roundg (gk - 1)
            case measure => have h1 := HI2.out; have h2 := of_eq_true p3; omega
            case rel => exact ⟨wrap64 (y + 1), rfl, by rw [E1.out, E2.out, ← (show tm = ts.getD y.toNat QS.z36 from HM.out), hasPre_snoc, HP.out]; simp, ⟨by rw [E1.out]; have h1 := HI2.out; have h2 := of_eq_true p3; omega⟩, ⟨by rw [E1.out, E2.out, ← (show tm = ts.getD y.toNat QS.z36 from HM.out)]; exact HR1.out⟩, HB1⟩
          · have hp1 : (!tm.f5.toList.isEmpty) = false := by rw [hp]; rfl
            have HP := Aside0.mk hp
            go_wp2
            go_roundg (gk - 1)
            case measure => have h1 := HI2.out; have h2 := of_eq_true p3; omega
            case rel => exact ⟨wrap64 (y + 1), rfl, by rw [E1.out, E2.out, ← (show tm = ts.getD y.toNat QS.z36 from HM.out), hasPre_snoc, HP.out]; simp, ⟨by rw [E1.out]; have h1 := HI2.out; have h2 := of_eq_true p3; omega⟩, ⟨by rw [E1.out, E2.out, ← (show tm = ts.getD y.toNat QS.z36 from HM.out)]; exact HR1.out⟩, HB1⟩
        · have c3 : decide (y < (ts.length : Int)) = false := decide_eq_false hlt2
          have E0 : Aside0 (ts.take y.toNat = ts) := ⟨by have h1 := HI2.out; rw [List.take_of_length_le (by omega)]⟩
          have F1 := Aside0.mk (wrap_next HI.out.1 (of_eq_true p1) HN.out)
          have F2 := Aside0.mk (take_next ([] : List S36) tss x HI.out.1 (of_eq_true p1))
          have h6 := HO2.out
          rw [E0.out] at h6
          obtain ⟨A6, c6, rfl⟩ := Kd.R_slice h6
          have HO6 := Aside0.mk h6
          clear hlt2 h6 HO2
          have HVr := Aside0.mk (Kd.R_below HV.out HB2.out)
          have HUr := Aside0.mk (Kd.R_below HU.out HB2.out)
          have HCr := Aside0.mk (blk_below HC.out HB2.out)
          have d0 : wr.cell? ⟨w.heap.size + 1, 0, none⟩ = some v := (blk_cell HCr.out 0).trans rfl
          have HG5 : Aside0 (w.heap.size + 2 ≤ wo.heap.size) := ⟨by have := blk_lt HC.out; omega⟩
          have HS2 := Aside0.mk HB2.out.size
          rw [E0.out]
          go_upto_region 15 with (at_builtin; refine Kd.R_append (Kd.slice 110 (coK w)) (w0 := w) w.heap.size rfl (.tmp 39) (.tmp 41) 93 117 (.slice none 0 0) 24 rfl Tryd.underlying93 info117 rfl Nat.one_pos (by omega) v (tss.take x.toNat) ts [.slice A6 ts.length c6] (fun k => w.heap.size + 2 ≤ k) (fun k => wo.heap.size ≤ k) rfl rfl ?aP ?aK ?aF ?aO ?aB ?aS ?aL ?_; (case aP => exact ⟨_, rfl, Kd.R_lower (Kd.R_mono (Kd.R_bound HO6.out) (ok' := fun k => wo.heap.size ≤ k) (fun k hk => hk.2.1)) HB.out.size⟩); (case aK => intro k hk; have h5 := HG5.out; refine ⟨by omega, fun he => ?_⟩; have h1 := Kd.R_lt HV.out k he.symm; omega); (case aF => intro k hk; have h5 := HG5.out; have h6 := HS2.out; omega); (case aO => exact HVr.out); (case aB => exact bl_on HB.out HB2.out); (case aS => exact (bl_on HB.out HB2.out).size); (case aL => have h1 := take_length_le tss x.toNat; have h2 := HN.out; omega); intro v1 w1 hR1 hB1 hg1 _; obtain ⟨A7, n7, c7, rfl⟩ := R_some hR1; have HR1 := Aside0.mk hR1; have HB1 := Aside0.mk hB1; have HG1 := Aside0.mk hg1; clear hR1 hB1 hg1; clear d0; have d0 : w1.cell? ⟨w.heap.size + 1, 0, none⟩ = some v := (blk_cell (blk_grown HCr.out HG1.out (fun he => by have h1 : w.heap.size + 2 ≤ w.heap.size + 1 := HVr.out.1 _ he.symm; omega)) 0).trans rfl; have d1 : w1.frozen? ⟨w.heap.size + 1, 0, none⟩ = false := blk_frozen (blk_grown HCr.out HG1.out (fun he => by have h1 : w.heap.size + 2 ≤ w.heap.size + 1 := HVr.out.1 _ he.symm; omega)) 0)
          clear d0 d1
          have HCa := Aside0.mk (blk_grown HCr.out HG1.out (fun he => by have h1 : w.heap.size + 2 ≤ w.heap.size + 1 := HVr.out.1 _ he.symm; omega))
          have HCb : Aside0 ((w1.setCell ⟨w.heap.size + 1, 0, none⟩ (.slice A7 n7 c7)).heap[w.heap.size + 1]? = some (.cells #[.slice A7 n7 c7, u, .bool pre] 96 (0, 0))) := ⟨by simpa using blk_set HCa.out 0 (.slice A7 n7 c7)⟩
          have HDb : Aside0 (∃ a b d, (w1.setCell ⟨w.heap.size + 1, 0, none⟩ (.slice A7 n7 c7)).heap[w.heap.size]? = some (.cells #[a, b, d] 96 (0, 0))) := ⟨by obtain ⟨a, b, d, h⟩ := HD.out; exact ⟨a, b, d, blk_far (blk_grown (blk_below h HB2.out) HG1.out (fun he => by have h1 : w.heap.size + 2 ≤ w.heap.size := HVr.out.1 _ he.symm; omega)) (by simp) _⟩⟩
          have HRb := Aside0.mk (Kd.R_far HR1.out (p := ⟨w.heap.size + 1, 0, none⟩) (fun k hk => by show k ≠ w.heap.size + 1; omega) (.slice A7 n7 c7))
          have HUb := Aside0.mk (Kd.R_far (Kd.R_over' HUr.out (Kd.R_typed HVr.out) (by intro q hq; rcases List.mem_cons.1 hq with rfl | h; exact (by decide); cases h) HG1.out) (p := ⟨w.heap.size + 1, 0, none⟩) (fun k hk => by show k ≠ w.heap.size + 1; omega) (.slice A7 n7 c7))
          have HBb := Aside0.mk (below_set (g := w.heap.size + 1) (j := 0) (v := .slice A7 n7 c7) HB1.out (by omega))
          have HSb : Aside0 (w.heap.size + 2 ≤ (w1.setCell ⟨w.heap.size + 1, 0, none⟩ (.slice A7 n7 c7)).heap.size) := ⟨by have := blk_lt HCb.out; omega⟩
          generalize w1.setCell ⟨w.heap.size + 1, 0, none⟩ (.slice A7 n7 c7) = W2 at HCb HDb HRb HUb HBb HSb ⊢
          have d0 : W2.cell? ⟨w.heap.size + 1, 1, none⟩ = some u := (blk_cell HCb.out 1).trans rfl
          clear HCa HVr HUr HCr HR1 HB1 HG1
          have F3 := Aside0.mk (take_next false (tss.map hasPre) x HI.out.1 (by rw [List.length_map]; exact of_eq_true p1))
          go_wp2_with (at_builtin; refine Kd.R_append Kd.bool (w0 := w) w.heap.size rfl (.tmp 45) (.tmp 47) 94 4 (.bool false) 1 rfl Tryd.underlying94 info4c rfl Nat.one_pos (by omega) u ((tss.map hasPre).take x.toNat) (hasPre ts) [.bool (hasPre ts)] (fun k => w.heap.size + 2 ≤ k) (fun _ => False) rfl rfl ?aP ?aK ?aF ?aO ?aB ?aS ?aL ?_; (case aP => exact rfl); (case aK => exact fun _ h => h.elim); (case aF => intro k hk; have h5 := HSb.out; omega); (case aO => exact HUb.out); (case aB => exact HBb.out); (case aS => exact HBb.out.size); (case aL => have h1 := take_length_le (tss.map hasPre) x.toNat; rw [List.length_map] at h1; have h2 := HN.out; omega); intro v2 w2 hR2 hB2 hg2 _; obtain ⟨A8, n8, c8, rfl⟩ := R_some hR2; have HR2 := Aside0.mk hR2; have HB3 := Aside0.mk hB2; have HG2 := Aside0.mk hg2; clear hR2 hB2 hg2; clear d0; have d0 : w2.cell? ⟨w.heap.size + 1, 1, none⟩ = some u := (blk_cell (blk_grown HCb.out HG2.out (fun he => by have h1 : w.heap.size + 2 ≤ w.heap.size + 1 := HUb.out.1 _ he.symm; omega)) 1).trans rfl; have d1 : w2.frozen? ⟨w.heap.size + 1, 1, none⟩ = false := blk_frozen (blk_grown HCb.out HG2.out (fun he => by have h1 : w.heap.size + 2 ≤ w.heap.size + 1 := HUb.out.1 _ he.symm; omega)) 1)
          go_roundg (go - 1)
          case measure => have h1 := HI.out; have h2 := of_eq_true p1; omega
          case rel =>
            have e := (show ts = tss.getD x.toNat [] from HT.out)
            have e2 : hasPre ts = (tss.map hasPre).getD x.toNat false := by rw [e]; have hlt : x.toNat < tss.length := (by have h1 := HI.out; have h2 := of_eq_true p1; omega); simp [List.getD_eq_getElem?_getD, hlt]
            exact ⟨wrap64 (x + 1), _, _, rfl, ⟨by rw [F1.out]; have h1 := HI.out; have h2 := of_eq_true p1; omega⟩, ⟨by rw [F1.out, F2.out, ← e]; exact Kd.R_far (Kd.R_over' HRb.out (Kd.R_typed HUb.out) (by intro q hq; simp only [Kd.slice, coK, List.mem_cons, List.not_mem_nil, or_false] at hq; omega) HG2.out) (p := ⟨w.heap.size + 1, 1, none⟩) (fun k hk => by show k ≠ w.heap.size + 1; omega) _⟩, ⟨by rw [F1.out, F3.out, ← e2]; exact Kd.R_far HR2.out (p := ⟨w.heap.size + 1, 1, none⟩) (fun k hk => by show k ≠ w.heap.size + 1; omega) _⟩, ⟨by simpa using blk_set (blk_grown HCb.out HG2.out (fun he => by have h1 : w.heap.size + 2 ≤ w.heap.size + 1 := HUb.out.1 _ he.symm; omega)) 1 (.slice A8 n8 c8)⟩, ⟨by obtain ⟨a, b, d, h⟩ := HDb.out; exact ⟨a, b, d, blk_far (blk_grown h HG2.out (fun he => by have h1 : w.heap.size + 2 ≤ w.heap.size := HUb.out.1 _ he.symm; omega)) (by simp) _⟩⟩, ⟨below_set HB3.out (by omega)⟩⟩
    · have c1 : decide (x < (tss.length : Int)) = false := decide_eq_false hlt
      have E0 : Aside0 (tss.take x.toNat = tss) := ⟨by have h1 := HI.out; rw [List.take_of_length_le (by omega)]⟩
      have E1 : Aside0 ((tss.map hasPre).take x.toNat = tss.map hasPre) := ⟨by have h1 := HI.out; rw [List.take_of_length_le (by rw [List.length_map]; omega)]⟩
      clear hlt
      have hV := HV.out
      rw [E0.out] at hV
      have hU := HU.out
      rw [E1.out] at hU
      obtain ⟨A1, c1', rfl⟩ := Kd.R_slice hV
      obtain ⟨A2, c2', rfl⟩ := Kd.R_slice hU
      rw [List.length_map] at hU HC
      have HV' := Aside0.mk hV
      have HU' := Aside0.mk hU
      clear hV hU
      obtain ⟨a, b, d, hD⟩ := HD.out
      have f0 : wr.cell? ⟨w.heap.size + 1, 0, none⟩ = some (.slice A1 tss.length c1') := (blk_cell HC.out 0).trans rfl
      have f1 : wr.cell? ⟨w.heap.size + 1, 1, none⟩ = some (.slice A2 tss.length c2') := (blk_cell HC.out 1).trans rfl
      have f2 : wr.cell? ⟨w.heap.size + 1, 2, none⟩ = some (.bool pre) := (blk_cell HC.out 2).trans rfl
      have d0 : wr.cell? ⟨w.heap.size, 0, none⟩ = some a := (blk_cell hD 0).trans rfl
      have d1 : wr.cell? ⟨w.heap.size, 1, none⟩ = some b := (blk_cell hD 1).trans rfl
      have d2 : wr.cell? ⟨w.heap.size, 2, none⟩ = some d := (blk_cell hD 2).trans rfl
      have r0 : wr.frozen? ⟨w.heap.size, 0, none⟩ = false := blk_frozen hD 0
      have r1 : wr.frozen? ⟨w.heap.size, 1, none⟩ = false := blk_frozen hD 1
      have r2 : wr.frozen? ⟨w.heap.size, 2, none⟩ = false := blk_frozen hD 2
      have HD2 := Aside0.mk hD
      clear hD HD
      go_wp2
      have K1 : Aside0 ((((wr.setCell ⟨w.heap.size, 0, none⟩ (.slice A1 tss.length c1')).setCell ⟨w.heap.size, 1, none⟩ (.slice A2 tss.length c2')).setCell ⟨w.heap.size, 2, none⟩ (.bool pre)).heap[w.heap.size]? = some (.cells #[.slice A1 tss.length c1', .slice A2 tss.length c2', .bool pre] 96 (0, 0))) := ⟨by simpa using blk_set (blk_set (blk_set HD2.out 0 (.slice A1 tss.length c1')) 1 (.slice A2 tss.length c2')) 2 (.bool pre)⟩
      have K2 := Aside0.mk (Kd.R_far (p := ⟨w.heap.size, 2, none⟩) (Kd.R_far (p := ⟨w.heap.size, 1, none⟩) (Kd.R_far (p := ⟨w.heap.size, 0, none⟩) (HV'.out) (fun k hk => by show k ≠ w.heap.size; omega) (.slice A1 tss.length c1')) (fun k hk => by show k ≠ w.heap.size; omega) (.slice A2 tss.length c2')) (fun k hk => by show k ≠ w.heap.size; omega) (.bool pre))
      have K3 := Aside0.mk (Kd.R_far (p := ⟨w.heap.size, 2, none⟩) (Kd.R_far (p := ⟨w.heap.size, 1, none⟩) (Kd.R_far (p := ⟨w.heap.size, 0, none⟩) (HU'.out) (fun k hk => by show k ≠ w.heap.size; omega) (.slice A1 tss.length c1')) (fun k hk => by show k ≠ w.heap.size; omega) (.slice A2 tss.length c2')) (fun k hk => by show k ≠ w.heap.size; omega) (.bool pre))
      have K4 := Aside0.mk (below_set (g := w.heap.size) (j := 2) (v := .bool pre) (below_set (g := w.heap.size) (j := 1) (v := .slice A2 tss.length c2') (below_set (g := w.heap.size) (j := 0) (v := .slice A1 tss.length c1') HB.out (Nat.le_refl _)) (Nat.le_refl _)) (Nat.le_refl _))
      generalize (((wr.setCell ⟨w.heap.size, 0, none⟩ (.slice A1 tss.length c1')).setCell ⟨w.heap.size, 1, none⟩ (.slice A2 tss.length c2')).setCell ⟨w.heap.size, 2, none⟩ (.bool pre)) = W at K1 K2 K3 K4 ⊢
      have k0 : W.cell? ⟨w.heap.size, 0, none⟩ = some (.slice A1 tss.length c1') := (blk_cell K1.out 0).trans rfl
      have k1 : W.cell? ⟨w.heap.size, 1, none⟩ = some (.slice A2 tss.length c2') := (blk_cell K1.out 1).trans rfl
      have k2 : W.cell? ⟨w.heap.size, 2, none⟩ = some (.bool pre) := (blk_cell K1.out 2).trans rfl
      refine bodyPost_ret (v := .agg #[.slice A1 tss.length c1', .slice A2 tss.length c2', .bool pre]) (by simp [results, Tryd.results100, go_sem, k0, k1, k2]) rfl ⟨A1, c1', A2, c2', rfl, (Kd.R_reads' K2.out).2.2, ?_, K4.out⟩
      have h := (Kd.R_reads' K3.out).2.2
      rw [List.length_map] at h
      exact h
end Go.Proofs.YtlooelfkkbgmhaaDoor
