/-
  A collection of versions: made, its positions changed, read back.
-/
import Derived.Test.YthfojgggolacbaaQWx1
import Derived.LoopTactic
import Derived.Deep.LoopGhost
import Derived.Outline
set_option linter.unusedVariables false
set_option linter.unusedSimpArgs false
namespace Go.Proofs.Ythfojgggolacbaa
open Go Go.RowKit Go.Proofs.YthfojgggolacbaaW.PrintWords Go.Proofs.YthfojgggolacbaaW.PrintLast
open Go.Proofs.Ythfojgggolacbaa.QW (S28 z28 k28 rd_T28 at_T28 k28_open k28_mkM)

theorem bl_alloc {w W : World} (h : Below w.heap.size w W) (o : Obj) : Below w.heap.size w (W.alloc o) := h.alloc h.size o
theorem bl_drew {B : Nat} {w W : World} (h : Below B w W) : Below B w W.drew := ⟨h.os, h.tape, h.output, h.size, h.block⟩
theorem bl_on {w W W1 : World} (h : Below w.heap.size w W) (h1 : Below W.heap.size W W1) : Below w.heap.size w W1 := h.trans (h1.mono h.size)
theorem heap_new0 (W : World) (q : Nat) (o : Obj) (h : q = W.heap.size) : (W.alloc o).heap[q]? = some o := by subst h; exact (MapKept.heap_alloc W o).1
theorem heap_old {W : World} {p : Nat} {o o' : Obj} (h : W.heap[p]? = some o) : (W.alloc o').heap[p]? = some o := ((MapKept.heap_alloc W o').2 p (Array.getElem?_eq_some_iff.1 h).1).trans h
theorem cell_on {w w' : World} {x : Addr} {v : Value} (hb : Below w.heap.size w w') (h : w.cell? x = some v) : w'.cell? x = some v :=
  (hb.cell (World.block_lt_of_cell? w _ h)).trans h
/-- a version's block; pointers to versions -/
def verC (v : S28) : Array Value := #[.int .u64 v.f0, .int .u64 v.f1, .int .u64 v.f2, .string v.f3, .string v.f4, .string ⟨#[]⟩]
def ptK : Kd Nat := Kd.scalar (fun q => .pointer (some ⟨q, 0, none⟩)) (fun _ => rfl)
/-- the blocks hold the versions -/
def Hold (W : World) (ps : List Nat) (l : List S28) : Prop := ps.length = l.length ∧ ∀ j, j < l.length → W.heap[ps.getD j 0]? = some (.cells (verC (l.getD j z28)) 43 (0, 0))
theorem version_any (v : S28) (w : World) : Calls Try.prog 12 #[.agg #[.int .u64 v.f0, .int .u64 v.f1, .int .u64 v.f2, .string v.f3, .string v.f4]] w fun e w' => ∃ q, e = .returned (.pointer (some ⟨q, 0, none⟩)) ∧ w.heap.size ≤ q ∧ w'.heap[q]? = some (.cells (verC v) 43 (0, 0)) ∧ Below w.heap.size w w' := by
  go_enter Try.func12, Try.ntmps12
  go_wp2
  refine bodyPost_ret (v := .pointer (some ⟨w.heap.size + 1, 0, none⟩)) (by simp [results, Try.results12, go_sem]) rfl ⟨_, rfl, by omega, heap_new0 _ _ _ (by simp), ?_⟩
  repeat (first | exact Below.refl _ _ | apply bl_alloc)
theorem take_next {α : Type} (z : α) (l : List α) (y : Int) (h0 : 0 ≤ y) (h1 : y < (l.length : Int)) : l.take (y + 1).toNat = l.take y.toNat ++ [l.getD y.toNat z] := by
  have e : (y + 1).toNat = y.toNat + 1 := by omega
  have h : y.toNat < l.length := by omega
  rw [e, List.take_succ_eq_append_getElem h, List.getD_eq_getElem?_getD, List.getElem?_eq_getElem h]
  rfl
theorem wrap_next {y : Int} {n : Nat} (h0 : 0 ≤ y) (h1 : y < (n : Int)) (hn : n ≤ 2147483647) : wrap64 (y + 1) = y + 1 := by
  unfold wrap64
  omega
theorem take_length_le {α : Type} (l : List α) (n : Nat) : (l.take n).length ≤ l.length := by rw [List.length_take]; exact Nat.min_le_right _ _
theorem info35 : (Try.prog.info? 35).map (fun i => (i.zero, i.size, i.bytes)) = some (some (.pointer none), 1, 8) := by kernel_rfl
theorem hold_on {W W' : World} {ps : List Nat} {l : List S28} (h : Hold W ps l) (hb : Below W.heap.size W W') : Hold W' ps l :=
  ⟨h.1, fun j hj => (hb.block _ (Array.getElem?_eq_some_iff.1 (h.2 j hj)).1).trans (h.2 j hj)⟩
theorem hold_snoc {W : World} {ps : List Nat} {l : List S28} {q : Nat} {v : S28} (h : Hold W ps l) (hq : W.heap[q]? = some (.cells (verC v) 43 (0, 0))) : Hold W (ps ++ [q]) (l ++ [v]) := by
  refine ⟨by simp [h.1], fun j hj => ?_⟩
  simp only [List.length_append, List.length_singleton] at hj
  by_cases hlt : j < l.length
  · have e1 : (ps ++ [q]).getD j 0 = ps.getD j 0 := by simp only [List.getD_eq_getElem?_getD]; rw [List.getElem?_append_left (by rw [h.1]; exact hlt)]
    have e2 : (l ++ [v]).getD j z28 = l.getD j z28 := by simp only [List.getD_eq_getElem?_getD]; rw [List.getElem?_append_left hlt]
    rw [e1, e2]; exact h.2 j hlt
  · have e : j = l.length := by omega
    subst e
    have e1 : (ps ++ [q]).getD l.length 0 = q := by simp only [List.getD_eq_getElem?_getD]; rw [List.getElem?_append_right (by rw [h.1]; exact Nat.le_refl _)]; simp [h.1]
    have e2 : (l ++ [v]).getD l.length z28 = v := by simp only [List.getD_eq_getElem?_getD]; rw [List.getElem?_append_right (Nat.le_refl _)]; simp
    rw [e1, e2]; exact hq
theorem R_empty (w : World) : Kd.R ptK 35 (w.alloc (.cells #[] 35)) w.heap.size (fun _ => True) (.slice (some ⟨w.heap.size, 0, none⟩) 0 0) [] :=
  ⟨fun _ _ => trivial, [], ⟨rfl, Or.inr ⟨w.heap.size, 0, #[], rfl, Nat.le_refl _, heap_new0 _ _ _ rfl, Nat.le_refl _, by decide, rfl, rfl⟩⟩, Reps.none _ _⟩
theorem hold_grown {W w1 : World} {ps xs : List Nat} {l : List S28} {v : Value} {base : Nat} (h : Hold W ps l) (hR : Kd.R ptK 35 W base (fun _ => True) v xs) (hg : W.grownBy w1 v.ownBlock) : Hold w1 ps l := by
  refine ⟨h.1, fun j hj => ?_⟩
  refine blk_grown (h.2 j hj) hg (fun he => ?_)
  obtain ⟨_, _, _, q, hq, cs, hc⟩ := (Kd.R_bound hR).1 _ he.symm
  rw [h.2 j hj] at hc
  have h1 := Option.some.inj hc
  injection h1 with h2 h3
  subst h3
  simp [ptK, Kd.scalar] at hq
set_option maxHeartbeats 8000000 in
set_option maxRecDepth 100000 in
theorem collection_any (A : Option Addr) (c : Nat) (l : List S28) (w : World) (hr : Kd.C k28 w A l.length l) (hn : l.length ≤ 2147483647) :
    Calls Try.prog 8 #[.slice A l.length c] w fun e w' => ∃ v ps, e = .returned v ∧ Kd.R ptK 35 w' w.heap.size (fun _ => True) v ps ∧ Hold w' ps l ∧ Below w.heap.size w w' := by
  have HR := Aside0.mk hr
  have HN := Aside0.mk hn
  clear hr
  go_enter Try.func8, Try.ntmps8
  go_wp2
  go_loopg [3, 9] (l.length + 1) (fun g v3 v9 w' => ∃ (x : Int) (ps : List Nat), v9 = .int .i64 x ∧ Aside0 (0 ≤ x ∧ x ≤ l.length ∧ g + x.toNat = l.length + 1) ∧ Aside0 (Kd.R ptK 35 w' w.heap.size (fun _ => True) v3 ps) ∧ Aside0 (Hold w' ps (l.take x.toNat)) ∧ Aside0 (Below w.heap.size w w'))
  case atStart => exact ⟨0, [], rfl, ⟨by omega, by omega, by simp⟩, ⟨R_empty w⟩, ⟨by refine ⟨by simp, fun j hj => ?_⟩; simp at hj⟩, ⟨bl_alloc (Below.refl _ _) _⟩⟩
  case round =>
    obtain ⟨x, ps, rfl, HI, HO, HH, HB⟩ := hrel
    by_cases hlt : x < (l.length : Int)
    · have c1 : decide (x < (l.length : Int)) = true := decide_eq_true hlt
      have p0 : 0 ≤ x := HI.out.1
      have p1 : x < (l.length : Int) := hlt
      obtain ⟨ad, e0, g0, g1, g2, g3, g4⟩ := at_T28 HR.out x p0 p1
      cases e0
      replace g0 := cell_on HB.out g0
      replace g1 := cell_on HB.out g1
      replace g2 := cell_on HB.out g2
      replace g3 := cell_on HB.out g3
      replace g4 := cell_on HB.out g4
      obtain ⟨tm, htm⟩ : ∃ tm, tm = rd_T28 l x := ⟨_, rfl⟩
      rw [← htm] at g0 g1 g2 g3 g4
      have HM := Aside0.mk htm
      have E1 := Aside0.mk (wrap_next p0 p1 HN.out)
      have E2 := Aside0.mk (take_next z28 l x p0 p1)
      clear htm hlt
      replace p0 := eq_true p0
      replace p1 := eq_true p1
      go_wp2_with (first | (go_at_call 12; (with_reducible refine (version_any tm _).mono ?_); rintro e w3 ⟨q, rfl, hq0, hq, hb⟩; have HQ := Aside0.mk hq; have HW := Aside0.mk (bl_on (bl_alloc (Below.refl _ _) _) hb); clear hq0 hq hb) | (at_builtin; refine Kd.R_append ptK (w0 := w) w.heap.size rfl (.tmp 13) (.tmp 16) 32 35 (.pointer none) 8 rfl Try.underlying32 info35 rfl (by decide) (by omega) u3 ps q [.pointer (some ⟨q, 0, none⟩)] (fun _ => True) (fun _ => False) rfl rfl ?aP ?aK (fun _ _ => trivial) ?aO ?aB ?aS ?aL ?_; (case aP => exact rfl); (case aK => exact fun _ h => h.elim); (case aO => exact Kd.R_below HO.out HW.out); (case aB => exact bl_on HB.out HW.out); (case aS => exact (bl_on HB.out HW.out).size); (case aL => have h1 := HH.out.1; rw [List.length_take] at h1; have h2 := HN.out; omega); intro v1 w1 hR1 hB1 hg1 _; have HR1 := Aside0.mk hR1; have HB1 := Aside0.mk hB1; have HG1 := Aside0.mk hg1; clear hR1 hB1 hg1))
      go_roundg (gk - 1)
      case measure => have h1 := HI.out; have h2 := of_eq_true p1; omega
      case rel => exact ⟨wrap64 (x + 1), ps ++ [q], rfl, ⟨by rw [E1.out]; have h1 := HI.out; have h2 := of_eq_true p1; omega⟩, HR1, ⟨by rw [E1.out, E2.out, ← (show tm = l.getD x.toNat z28 from HM.out)]; exact hold_grown (hold_snoc (hold_on HH.out HW.out) HQ.out) (Kd.R_below HO.out HW.out) HG1.out⟩, HB1⟩
    · have c1 : decide (x < (l.length : Int)) = false := decide_eq_false hlt
      have E0 : Aside0 (l.take x.toNat = l) := ⟨by have h1 := HI.out; rw [List.take_of_length_le (by omega)]⟩
      clear hlt
      go_wp2
      go_ret
      exact ⟨_, ps, rfl, HO.out, by rw [E0.out] at HH; exact HH.out, HB.out⟩
end Go.Proofs.Ythfojgggolacbaa
