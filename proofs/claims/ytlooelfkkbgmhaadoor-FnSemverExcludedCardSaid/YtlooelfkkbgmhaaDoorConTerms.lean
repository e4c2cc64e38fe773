/-
  The check of lists of terms: what becomes of terms, of constraints, of their check.
-/
import Derived.Test.YtlooelfkkbgmhaaDoorConTerm
import Derived.Test.YtlooelfkkbgmhaaDoorQSA
import Derived.Test.YtlooelfkkbgmhaaDoorU
import Derived.LoopTactic
import Derived.Deep.LoopGhost
import Derived.Outline
set_option linter.unusedVariables false
set_option linter.unusedSimpArgs false
namespace Go.Proofs.YtlooelfkkbgmhaaDoor
open Go Go.RowKit Go.Proofs.YtlooelfkkbgmhaaDoorW.PrintWords Go.Proofs.YtlooelfkkbgmhaaDoorW.PrintLast
open Go.Proofs.YtlooelfkkbgmhaaDoor.QS (S36 k36 rd_T36 at_T36 k36_open rd_L6 at_L6)

/-- the cells of a term's version, of a term, of a constraint -/
def verC (t : S36) : Array Value := #[.int .u64 t.f2, .int .u64 t.f3, .int .u64 t.f4, .string t.f5, .string ⟨#[]⟩, .string ⟨#[]⟩]
def zzC (t : S36) (q : Nat) : List Value := [.string (opS t.f0), .pointer (some ⟨q, 0, none⟩), .bool (decide (t.f1 < 3)), .bool (t.f1 == 1), .bool (t.f1 == 2)]
def conC (t : S36) (q : Nat) : Array Value := #[.pointer (some ⟨q, 0, none⟩), .string ⟨#[]⟩, .string (opS t.f0), .bool (t.f1 == 1), .bool (decide (t.f1 < 3)), .bool (t.f1 == 2)]
/-- a term as data of the package: five cells, its version in a block of its own -/
def zzK : Kd S36 where
  sz := 5
  E := [70]
  K := fun w t cs => ∃ q, cs = zzC t q ∧ w.heap[q]? = some (.cells (verC t) 70 (0, 0))
  M := fun w base ok t cs => ∃ q, cs = zzC t q ∧ ok q ∧ base ≤ q ∧ w.heap[q]? = some (.cells (verC t) 70 (0, 0))
  K_len := by
    rintro w x cs ⟨q, rfl, _⟩
    rfl
  K_one := by
    rintro w x cs ⟨q, rfl, _⟩ u hu
    simp only [zzC, List.mem_cons, List.not_mem_nil, or_false] at hu
    rcases hu with rfl | rfl | rfl | rfl | rfl <;> rfl
  K_below := by
    rintro w w1 x cs hb ⟨q, rfl, h⟩
    exact ⟨q, rfl, (hb.block q (Array.getElem?_eq_some_iff.1 h).1).trans h⟩
  K_of_M := by
    rintro w base ok x cs ⟨q, rfl, _, _, h⟩
    exact ⟨q, rfl, h⟩
  M_mono := by
    rintro w base ok ok' x cs hok ⟨q, rfl, h1, h2, h⟩
    exact ⟨q, rfl, hok q h1, h2, h⟩
  M_bound := by
    rintro w base ok x cs ⟨q, rfl, h1, h2, h⟩
    exact ⟨q, rfl, ⟨h1, h2, (Array.getElem?_eq_some_iff.1 h).1, 70, by simp, _, h⟩, h2, h⟩
  M_move := by
    rintro w w1 base ok x cs hm ⟨q, rfl, h1, h2, h⟩
    exact ⟨q, rfl, h1, h2, (hm q h1).trans h⟩
  M_lower := by
    rintro w base base' ok x cs hb ⟨q, rfl, h1, h2, h⟩
    exact ⟨q, rfl, h1, Nat.le_trans hb h2, h⟩
/-- a constraint behind a pointer, its version as it lay in w0 -/
def coK (w0 : World) : Kd S36 where
  sz := 1
  E := [125]
  K := fun w t cs => ∃ z q, cs = [.pointer (some ⟨z, 0, none⟩)] ∧ w.heap[z]? = some (.cells (conC t q) 125 (0, 0)) ∧ w0.heap[q]? = some (.cells (verC t) 70 (0, 0))
  M := fun w base ok t cs => ∃ z q, cs = [.pointer (some ⟨z, 0, none⟩)] ∧ ok z ∧ base ≤ z ∧ w.heap[z]? = some (.cells (conC t q) 125 (0, 0)) ∧ w0.heap[q]? = some (.cells (verC t) 70 (0, 0))
  K_len := by
    rintro w x cs ⟨z, q, rfl, _⟩
    rfl
  K_one := by
    rintro w x cs ⟨z, q, rfl, _⟩ u hu
    rw [List.mem_singleton.1 hu]
    rfl
  K_below := by
    rintro w w1 x cs hb ⟨z, q, rfl, h, hq⟩
    exact ⟨z, q, rfl, (hb.block z (Array.getElem?_eq_some_iff.1 h).1).trans h, hq⟩
  K_of_M := by
    rintro w base ok x cs ⟨z, q, rfl, _, _, h, hq⟩
    exact ⟨z, q, rfl, h, hq⟩
  M_mono := by
    rintro w base ok ok' x cs hok ⟨z, q, rfl, h1, h2, h, hq⟩
    exact ⟨z, q, rfl, hok z h1, h2, h, hq⟩
  M_bound := by
    rintro w base ok x cs ⟨z, q, rfl, h1, h2, h, hq⟩
    exact ⟨z, q, rfl, ⟨h1, h2, (Array.getElem?_eq_some_iff.1 h).1, 125, by simp, _, h⟩, h2, h, hq⟩
  M_move := by
    rintro w w1 base ok x cs hm ⟨z, q, rfl, h1, h2, h, hq⟩
    exact ⟨z, q, rfl, h1, h2, (hm z h1).trans h, hq⟩
  M_lower := by
    rintro w base base' ok x cs hb ⟨z, q, rfl, h1, h2, h, hq⟩
    exact ⟨z, q, rfl, h1, Nat.le_trans hb h2, h, hq⟩

/-- of which terms we speak -/
def tmOk (t : S36) : Prop := 0 ≤ t.f1 ∧ t.f1 ≤ 3 ∧ 0 ≤ t.f0 ∧ t.f0 < 8

theorem heap_new (W : World) (q : Nat) (o : Obj) (h : q = W.heap.size) : (W.alloc o).drew.heap[q]? = some o := by subst h; exact (MapKept.heap_alloc W o).1
set_option maxHeartbeats 4000000 in
set_option maxRecDepth 100000 in
theorem termK (t : S36) (w : World) (h : tmOk t) :
    Calls Tryd.prog 85 #[.agg #[.int .i64 t.f0, .int .i64 t.f1, .int .u64 t.f2, .int .u64 t.f3, .int .u64 t.f4, .string t.f5]] w fun e w' =>
      ∃ q, e = .returned (.agg #[.string (opS t.f0), .pointer (some ⟨q, 0, none⟩), .bool (decide (t.f1 < 3)), .bool (t.f1 == 1), .bool (t.f1 == 2)]) ∧ w.heap.size ≤ q ∧ w'.heap[q]? = some (.cells (verC t) 70 (0, 0)) ∧ Below w.heap.size w w' := by
  obtain ⟨h0, h3, ho, h8⟩ := h
  have HP := Lib.hid (And.intro ho h8)
  clear ho h8
  go_enter Tryd.func85, Tryd.ntmps85
  go_wp2_with fail
  first | go_region_held3 (fun W => W.cell? ⟨w.heap.size, 0, none⟩ = some (.int .i64 t.f0) ∧ W.cell? ⟨w.heap.size, 1, none⟩ = some (.int .i64 t.f1) ∧ W.cell? ⟨w.heap.size, 2, none⟩ = some (.int .u64 t.f2) ∧ W.cell? ⟨w.heap.size, 3, none⟩ = some (.int .u64 t.f3) ∧ W.cell? ⟨w.heap.size, 4, none⟩ = some (.int .u64 t.f4) ∧ W.cell? ⟨w.heap.size, 5, none⟩ = some (.string t.f5)) (first | (go_simp; done) | go_keep) (first | (go_at_call 124; refine (operator_any _ _).mono ?_; rintro e w' ⟨⟨f, rfl, hf⟩, rfl⟩) | (go_at_call 108; refine (zzversion_any _ _ _ _ _ _).mono ?_; rintro e w' ⟨rfl, rfl⟩)) | fail
  go_wp2_with fail
  obtain rfl := hf HP.out.1 HP.out.2
  refine bodyPost_ret (v := .agg (zzC t (w.heap.size + 1 + 1)).toArray) (by simp [results, Tryd.results85, go_sem, zzC]) rfl ⟨_, rfl, by omega, ?_, ?_⟩
  · exact heap_new _ _ _ (by simp)
  · repeat (first | exact Below.refl _ _ | apply bl_drew | apply bl_alloc)


theorem wrap_next {y : Int} {n : Nat} (h0 : 0 ≤ y) (h1 : y < (n : Int)) (hn : n ≤ 2147483647) : wrap64 (y + 1) = y + 1 := by
  unfold wrap64
  omega
theorem take_next {α : Type} (z : α) (l : List α) (y : Int) (h0 : 0 ≤ y) (h1 : y < (l.length : Int)) : l.take (y + 1).toNat = l.take y.toNat ++ [l.getD y.toNat z] := by
  have e : (y + 1).toNat = y.toNat + 1 := by omega
  have h : y.toNat < l.length := by omega
  rw [e, List.take_succ_eq_append_getElem h, List.getD_eq_getElem?_getD, List.getElem?_eq_getElem h]
  rfl
theorem getD_mem {α : Type} (z : α) (l : List α) (y : Int) (h0 : 0 ≤ y) (h1 : y < (l.length : Int)) : l.getD y.toNat z ∈ l := by
  have h : y.toNat < l.length := by omega
  rw [List.getD_eq_getElem?_getD, List.getElem?_eq_getElem h]
  exact List.getElem_mem h
theorem take_length_le {α : Type} (l : List α) (n : Nat) : (l.take n).length ≤ l.length := by rw [List.length_take]; exact Nat.min_le_right _ _
theorem info86 : (Tryd.prog.info? 86).map (fun i => (i.zero, i.size, i.bytes)) = some (some (.agg #[.string ⟨#[]⟩, .pointer none, .bool false, .bool false, .bool false]), 5, 32) := by kernel_rfl
theorem info116 : (Tryd.prog.info? 116).map (fun i => (i.zero, i.size, i.bytes)) = some (some (.slice none 0 0), 1, 24) := by kernel_rfl

set_option maxHeartbeats 8000000 in
set_option maxRecDepth 100000 in
theorem terms_any (A : Option Addr) (c : Nat) (tss : List (List S36)) (w : World) (hr : Kd.C (Kd.slice 36 k36) w A tss.length tss) (hc : tss.length ≤ c) (hn : tss.length ≤ 2147483647) (hok : ∀ l ∈ tss, l.length ≤ 2147483647 ∧ ∀ t ∈ l, tmOk t) :
    Calls Tryd.prog 101 #[.slice A tss.length c] w fun e w' => ∃ A' c', e = .returned (.slice A' tss.length c') ∧ tss.length ≤ c' ∧ Kd.C (Kd.slice 86 zzK) w' A' tss.length tss ∧ Below w.heap.size w w' := by
  have HR := Aside0.mk hr
  have HN := Aside0.mk hn
  have HK := Aside0.mk hok
  clear hr hc hok
  have HB := Aside0.mk (Below.refl w.heap.size w)
  go_enter Tryd.func101, Tryd.ntmps101
  go_wp2
  go_loopg [3, 11] (tss.length + 1) (fun g v3 v11 w' => ∃ x : Int, v11 = .int .i64 x ∧ Aside0 (0 ≤ x ∧ x ≤ tss.length ∧ g + x.toNat = tss.length + 1) ∧ Aside0 (Kd.R (Kd.slice 86 zzK) 116 w' w.heap.size (fun _ => True) v3 (tss.take x.toNat)) ∧ Aside0 (Below w.heap.size w w'))
  case atStart => exact ⟨0, rfl, ⟨by omega, by omega, by simp⟩, ⟨by simpa using Kd.R_nil _ _ _ _ _⟩, HB⟩
  case round =>
    clear HB
    obtain ⟨x, rfl, HI, HO, HB⟩ := hrel
    by_cases hlt : x < (tss.length : Int)
    · have c1 : decide (x < (tss.length : Int)) = true := decide_eq_true hlt
      have p0 : 0 ≤ x := HI.out.1
      have p1 : x < (tss.length : Int) := hlt
      obtain ⟨ad, A0, c0, e0, hx, hl, hi⟩ := at_L6 HR.out x p0 p1
      cases e0
      replace hx := (HB.out.cell (World.block_lt_of_cell? w _ hx)).trans hx
      have HX := Aside0.mk hi
      have HL := Aside0.mk hl
      clear hl hi hlt
      replace p0 := eq_true p0
      replace p1 := eq_true p1
      obtain ⟨wo, rfl⟩ : ∃ wo : World, wo = wr := ⟨_, rfl⟩
      obtain ⟨ts, hts⟩ : ∃ ts, ts = rd_L6 tss x := ⟨_, rfl⟩
      rw [← hts] at HX HL hx
      have HT := Aside0.mk hts
      clear hts
      obtain ⟨go, rfl⟩ : ∃ g : Nat, g = gk := ⟨_, rfl⟩
      go_wp2
      go_loopg [6, 17] (ts.length + 1) (fun g v6 v17 w' => ∃ y : Int, v17 = .int .i64 y ∧ Aside0 (0 ≤ y ∧ y ≤ ts.length ∧ g + y.toNat = ts.length + 1) ∧ Aside0 (Kd.R zzK 86 w' wo.heap.size (fun _ => True) v6 (ts.take y.toNat)) ∧ Aside0 (Below wo.heap.size wo w'))
      case atStart => exact ⟨0, rfl, ⟨by omega, by omega, by simp⟩, ⟨by simpa using Kd.R_nil _ _ _ _ _⟩, ⟨Below.refl _ _⟩⟩
      case round =>
        obtain ⟨y, rfl, HI2, HO2, HB2⟩ := hrel
        by_cases hlt2 : y < (ts.length : Int)
        · have c3 : decide (y < (ts.length : Int)) = true := decide_eq_true hlt2
          have p2 : 0 ≤ y := HI2.out.1
          have p3 : y < (ts.length : Int) := hlt2
          obtain ⟨ad2, e2, g0, g1, g2, g3, g4, g5⟩ := at_T36 HX.out y p2 p3
          cases e2
          replace g0 := (HB2.out.cell (World.block_lt_of_cell? wo _ ((HB.out.cell (World.block_lt_of_cell? w _ g0)).trans g0))).trans ((HB.out.cell (World.block_lt_of_cell? w _ g0)).trans g0)
          replace g1 := (HB2.out.cell (World.block_lt_of_cell? wo _ ((HB.out.cell (World.block_lt_of_cell? w _ g1)).trans g1))).trans ((HB.out.cell (World.block_lt_of_cell? w _ g1)).trans g1)
          replace g2 := (HB2.out.cell (World.block_lt_of_cell? wo _ ((HB.out.cell (World.block_lt_of_cell? w _ g2)).trans g2))).trans ((HB.out.cell (World.block_lt_of_cell? w _ g2)).trans g2)
          replace g3 := (HB2.out.cell (World.block_lt_of_cell? wo _ ((HB.out.cell (World.block_lt_of_cell? w _ g3)).trans g3))).trans ((HB.out.cell (World.block_lt_of_cell? w _ g3)).trans g3)
          replace g4 := (HB2.out.cell (World.block_lt_of_cell? wo _ ((HB.out.cell (World.block_lt_of_cell? w _ g4)).trans g4))).trans ((HB.out.cell (World.block_lt_of_cell? w _ g4)).trans g4)
          replace g5 := (HB2.out.cell (World.block_lt_of_cell? wo _ ((HB.out.cell (World.block_lt_of_cell? w _ g5)).trans g5))).trans ((HB.out.cell (World.block_lt_of_cell? w _ g5)).trans g5)
          obtain ⟨tm, htm⟩ : ∃ tm, tm = rd_T36 ts y := ⟨_, rfl⟩
          rw [← htm] at g0 g1 g2 g3 g4 g5
          have HM := Aside0.mk htm
          have HO5 : Aside0 (tmOk tm) := ⟨by subst htm; exact (HK.out ts (by rw [HT.out]; exact getD_mem _ _ _ HI.out.1 (of_eq_true p1))).2 _ (getD_mem _ _ _ p2 p3)⟩
          have HS := HK.out ts (by rw [HT.out]; exact getD_mem _ _ _ HI.out.1 (of_eq_true p1))
          have HS2 := Aside0.mk HS.1
          have E1 := Aside0.mk (wrap_next p2 p3 HS.1)
          have E2 := Aside0.mk (take_next QS.z36 ts y p2 p3)
          clear htm hlt2 HS
          replace p2 := eq_true p2
          replace p3 := eq_true p3
          go_wp2_with (first | (go_at_call 85; (with_reducible refine (termK tm _ HO5.out).mono ?_); rintro e w3 ⟨q, rfl, hq0, hq, hb⟩; have HQ0 := Aside0.mk hq0; have HQ := Aside0.mk hq; have HW := Aside0.mk (below_on (bl_alloc (Below.refl _ _) _) hb); clear hq0 hq hb) | (at_builtin; refine Kd.R_append zzK (w0 := wo) wo.heap.size rfl (.tmp 21) (.tmp 24) 116 86 (.agg #[.string ⟨#[]⟩, .pointer none, .bool false, .bool false, .bool false]) 32 rfl Tryd.underlying116 info86 rfl (by decide) (by omega) u6 (ts.take y.toNat) tm (zzC tm q) (fun _ => True) (fun k => k = q) rfl rfl ?aP ?aK (fun _ _ => trivial) ?aO ?aB ?aS ?aL ?_; (case aP => exact ⟨q, rfl, rfl, Nat.le_trans HB2.out.size (Nat.le_trans (by simp) HQ0.out), HQ.out⟩); (case aK => rintro k rfl; refine ⟨trivial, fun he => ?_⟩; have h1 := Kd.R_lt HO2.out k he.symm; have h2 := HQ0.out; simp at h2; omega); (case aO => exact Kd.R_below HO2.out HW.out); (case aB => exact bl_on HB2.out HW.out); (case aS => exact (bl_on HB2.out HW.out).size); (case aL => have h1 := take_length_le ts y.toNat; have h2 := HS2.out; omega); intro v1 w1 hR1 hB1 _ _; have HR1 := Aside0.mk hR1; have HB1 := Aside0.mk hB1; clear hR1 hB1))
          go_roundg (gk - 1)
          case measure => have h1 := HI2.out; have h2 := of_eq_true p3; omega
          case rel => exact ⟨wrap64 (y + 1), rfl, ⟨by rw [E1.out]; have h1 := HI2.out; have h2 := of_eq_true p3; omega⟩, ⟨by rw [E1.out, E2.out, ← (show tm = ts.getD y.toNat QS.z36 from HM.out)]; exact HR1.out⟩, HB1⟩
        · have c3 : decide (y < (ts.length : Int)) = false := decide_eq_false hlt2
          have E0 : Aside0 (ts.take y.toNat = ts) := ⟨by have h1 := HI2.out; rw [List.take_of_length_le (by omega)]⟩
          have HS := HK.out ts (by rw [HT.out]; exact getD_mem _ _ _ HI.out.1 (of_eq_true p1))
          have F1 := Aside0.mk (wrap_next HI.out.1 (of_eq_true p1) HN.out)
          have F2 := Aside0.mk (take_next ([] : List S36) tss x HI.out.1 (of_eq_true p1))
          have h6 := HO2.out
          rw [E0.out] at h6
          obtain ⟨A6, c6, rfl⟩ := Kd.R_slice h6
          have HO6 := Aside0.mk h6
          clear hlt2 HS h6 HO2
          go_wp2_with (at_builtin; refine Kd.R_append (Kd.slice 86 zzK) (w0 := w) w.heap.size rfl (.tmp 27) (.tmp 29) 98 116 (.slice none 0 0) 24 rfl Tryd.underlying98 info116 rfl (by decide) (by omega) u3 (tss.take x.toNat) ts [.slice A6 ts.length c6] (fun _ => True) (fun k => wo.heap.size ≤ k) rfl rfl ?aP ?aK (fun _ _ => trivial) ?aO ?aB ?aS ?aL ?_; (case aP => exact ⟨_, rfl, Kd.R_lower (Kd.R_mono (Kd.R_bound HO6.out) (ok' := fun k => wo.heap.size ≤ k) (fun k hk => hk.2.1)) HB.out.size⟩); (case aK => intro k hk; refine ⟨trivial, fun he => ?_⟩; have h1 := Kd.R_lt HO.out k he.symm; omega); (case aO => exact Kd.R_below HO.out HB2.out); (case aB => exact bl_on HB.out HB2.out); (case aS => exact (bl_on HB.out HB2.out).size); (case aL => have h1 := take_length_le tss x.toNat; have h2 := HN.out; omega); intro v1 w1 hR1 hB1 _ _; have HR1 := Aside0.mk hR1; have HB1 := Aside0.mk hB1; clear hR1 hB1)
          go_roundg (go - 1)
          case measure => have h1 := HI.out; have h2 := of_eq_true p1; omega
          case rel => exact ⟨wrap64 (x + 1), rfl, ⟨by rw [F1.out]; have h1 := HI.out; have h2 := of_eq_true p1; omega⟩, ⟨by rw [F1.out, F2.out, ← (show ts = tss.getD x.toNat [] from HT.out)]; exact HR1.out⟩, HB1⟩
    · have c1 : decide (x < (tss.length : Int)) = false := decide_eq_false hlt
      have E0 : Aside0 (tss.take x.toNat = tss) := ⟨by have h1 := HI.out; rw [List.take_of_length_le (by omega)]⟩
      clear hlt
      go_wp2
      go_ret
      have h1 := HO.out
      rw [E0.out] at h1
      obtain ⟨A', c', rfl, hl, hC⟩ := Kd.R_reads h1
      exact ⟨A', c', rfl, hl, hC, HB.out⟩
end Go.Proofs.YtlooelfkkbgmhaaDoor
