/-
  The wrappers that note their numbers in a trace.
-/
import Derived.Test.YtnphijkoaalpnaaQWx1
import Derived.LoopTactic
import Derived.Deep.LoopGhost
import Derived.Outline
set_option linter.unusedVariables false
set_option linter.unusedSimpArgs false
namespace Go.Proofs.Ytnphijkoaalpnaa
open Go Go.RowKit Go.Proofs.YtnphijkoaalpnaaW.PrintWords Go.Proofs.YtnphijkoaalpnaaW.PrintLast

theorem bl_alloc {w W : World} (h : Below w.heap.size w W) (o : Obj) : Below w.heap.size w (W.alloc o) := h.alloc h.size o
theorem bl_drew {B : Nat} {w W : World} (h : Below B w W) : Below B w W.drew := ⟨h.os, h.tape, h.output, h.size, h.block⟩
theorem bl_on {w W W1 : World} (h : Below w.heap.size w W) (h1 : Below W.heap.size W W1) : Below w.heap.size w W1 := h.trans (h1.mono h.size)
theorem heap_new0 (W : World) (q : Nat) (o : Obj) (h : q = W.heap.size) : (W.alloc o).heap[q]? = some o := by subst h; exact (MapKept.heap_alloc W o).1
theorem heap_old {W : World} {p : Nat} {o o' : Obj} (h : W.heap[p]? = some o) : (W.alloc o').heap[p]? = some o := ((MapKept.heap_alloc W o').2 p (Array.getElem?_eq_some_iff.1 h).1).trans h
theorem cell_on {w w' : World} {x : Addr} {v : Value} (hb : Below w.heap.size w w') (h : w.cell? x = some v) : w'.cell? x = some v :=
  (hb.cell (World.block_lt_of_cell? w _ h)).trans h
/-- a wrapper: a closure over the box with the trace's pointer and the box with its number -/
def clK (t : Nat) : Kd Nat := Kd.scalar (fun q => .func (.func 10) #[] #[.pointer (some ⟨t, 0, none⟩), .pointer (some ⟨q, 0, none⟩)]) (fun _ => rfl)
/-- the boxes hold the numbers -/
def HoldI (W : World) (ps : List Nat) (l : List Int) : Prop := ps.length = l.length ∧ ∀ j, j < l.length → W.heap[ps.getD j 0]? = some (.cells #[.int .i64 (l.getD j 0)] 3 (0, 0))
theorem info35 : (Try.prog.info? 35).map (fun i => (i.zero, i.size, i.bytes)) = some (some .nilFunc, 1, 8) := by kernel_rfl
theorem take_next {α : Type} (z : α) (l : List α) (y : Int) (h0 : 0 ≤ y) (h1 : y < (l.length : Int)) : l.take (y + 1).toNat = l.take y.toNat ++ [l.getD y.toNat z] := by
  have e : (y + 1).toNat = y.toNat + 1 := by omega
  have h : y.toNat < l.length := by omega
  rw [e, List.take_succ_eq_append_getElem h, List.getD_eq_getElem?_getD, List.getElem?_eq_getElem h]
  rfl
theorem wrap_next {y : Int} {n : Nat} (h0 : 0 ≤ y) (h1 : y < (n : Int)) (hn : n ≤ 2147483647) : wrap64 (y + 1) = y + 1 := by
  unfold wrap64
  omega
theorem take_length_le {α : Type} (l : List α) (n : Nat) : (l.take n).length ≤ l.length := by rw [List.length_take]; exact Nat.min_le_right _ _
theorem hold_on {W W' : World} {ps : List Nat} {l : List Int} (h : HoldI W ps l) (hb : Below W.heap.size W W') : HoldI W' ps l :=
  ⟨h.1, fun j hj => (hb.block _ (Array.getElem?_eq_some_iff.1 (h.2 j hj)).1).trans (h.2 j hj)⟩
theorem hold_snoc {W : World} {ps : List Nat} {l : List Int} {q : Nat} {v : Int} (h : HoldI W ps l) (hq : W.heap[q]? = some (.cells #[.int .i64 v] 3 (0, 0))) : HoldI W (ps ++ [q]) (l ++ [v]) := by
  refine ⟨by simp [h.1], fun j hj => ?_⟩
  simp only [List.length_append, List.length_singleton] at hj
  by_cases hlt : j < l.length
  · have e1 : (ps ++ [q]).getD j 0 = ps.getD j 0 := by simp only [List.getD_eq_getElem?_getD]; rw [List.getElem?_append_left (by rw [h.1]; exact hlt)]
    have e2 : (l ++ [v]).getD j 0 = l.getD j 0 := by simp only [List.getD_eq_getElem?_getD]; rw [List.getElem?_append_left hlt]
    rw [e1, e2]; exact h.2 j hlt
  · have e : j = l.length := by omega
    subst e
    have e1 : (ps ++ [q]).getD l.length 0 = q := by simp only [List.getD_eq_getElem?_getD]; rw [List.getElem?_append_right (by rw [h.1]; exact Nat.le_refl _)]; simp [h.1]
    have e2 : (l ++ [v]).getD l.length 0 = v := by simp only [List.getD_eq_getElem?_getD]; rw [List.getElem?_append_right (Nat.le_refl _)]; simp
    rw [e1, e2]; exact hq
theorem hold_grown {W w1 : World} {ps xs : List Nat} {l : List Int} {v : Value} {base t : Nat} (h : HoldI W ps l) (hR : Kd.R (clK t) 35 W base (fun _ => True) v xs) (hg : W.grownBy w1 v.ownBlock) : HoldI w1 ps l := by
  refine ⟨h.1, fun j hj => ?_⟩
  refine blk_grown (h.2 j hj) hg (fun he => ?_)
  obtain ⟨_, _, _, q, hq, cs, hc⟩ := (Kd.R_bound hR).1 _ he.symm
  rw [h.2 j hj] at hc
  have h1 := Option.some.inj hc
  injection h1 with h2 h3
  subst h3
  simp [clK, Kd.scalar] at hq
end Go.Proofs.Ytnphijkoaalpnaa
