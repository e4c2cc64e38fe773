/-
  Rooms of numbers that are written at once.
-/
import Derived.Test.YtdgglkihiibmhaaSpb
set_option linter.unusedVariables false
set_option linter.unusedSimpArgs false
namespace Go.Proofs.Ytdgglkihiibmhaa
open Go Go.RowKit Cal

abbrev I3 (g : Nat) (W : World) : Prop := (W.cell? ⟨g, 0, none⟩ = some (.int .i64 (i0 W ⟨g, 0, none⟩)) ∧ W.cell? ⟨g, 1, none⟩ = some (.int .i64 (i0 W ⟨g, 1, none⟩)) ∧ W.cell? ⟨g, 2, none⟩ = some (.int .i64 (i0 W ⟨g, 2, none⟩))) ∧ (W.frozen? ⟨g, 0, none⟩ = false ∧ W.frozen? ⟨g, 1, none⟩ = false ∧ W.frozen? ⟨g, 2, none⟩ = false)
abbrev put3i (W : World) (g : Nat) (a0 a1 a2 : Int) : World := ((W.setCell ⟨g, 0, none⟩ (.int .i64 a0)).setCell ⟨g, 1, none⟩ (.int .i64 a1)).setCell ⟨g, 2, none⟩ (.int .i64 a2)
theorem i3_on {g : Nat} {W W' : World} (hb : Below W.heap.size W W') (h : I3 g W) : I3 g W' := by
  obtain ⟨⟨h0, h1, h2⟩, ⟨f0, f1, f2⟩⟩ := h
  exact ⟨⟨i0_of (cell_on hb h0), i0_of (cell_on hb h1), i0_of (cell_on hb h2)⟩, ⟨frozen_on hb (World.block_lt_of_cell? _ _ h0) f0, frozen_on hb (World.block_lt_of_cell? _ _ h1) f1, frozen_on hb (World.block_lt_of_cell? _ _ h2) f2⟩⟩
theorem i3_start {g : Nat} {t : TypeId} {W : World} {a0 a1 a2 : Int} (h : W.heap[g]? = some (.cells #[.int .i64 a0, .int .i64 a1, .int .i64 a2] t)) : I3 g W :=
  ⟨⟨i0_of (k := .i64) (v := a0) ((blk_cell h 0).trans rfl), i0_of (k := .i64) (v := a1) ((blk_cell h 1).trans rfl), i0_of (k := .i64) (v := a2) ((blk_cell h 2).trans rfl)⟩, ⟨blk_frozen h 0, blk_frozen h 1, blk_frozen h 2⟩⟩
theorem i3_get {g : Nat} {W : World} {a0 a1 a2 : Int} (h : I3 g W) : (put3i W g a0 a1 a2).cell? ⟨g, 0, none⟩ = some (.int .i64 a0) ∧ (put3i W g a0 a1 a2).cell? ⟨g, 1, none⟩ = some (.int .i64 a1) ∧ (put3i W g a0 a1 a2).cell? ⟨g, 2, none⟩ = some (.int .i64 a2) := by
  obtain ⟨⟨h0, h1, h2⟩, ⟨f0, f1, f2⟩⟩ := h
  unfold put3i
  refine ⟨?_, ?_, ?_⟩ <;> go_simp
theorem put3i_frozen {W : World} {g : Nat} {a0 a1 a2 : Int} (x : Addr) : (put3i W g a0 a1 a2).frozen? x = W.frozen? x := by
  unfold put3i
  simp
theorem i3_set {g : Nat} {W : World} {a0 a1 a2 : Int} (h : I3 g W) : I3 g (put3i W g a0 a1 a2) := by
  have hg := i3_get (a0 := a0) (a1 := a1) (a2 := a2) h
  obtain ⟨k0, k1, k2⟩ := hg
  obtain ⟨-, ⟨f0, f1, f2⟩⟩ := h
  exact ⟨⟨i0_of k0, i0_of k1, i0_of k2⟩, ⟨(put3i_frozen _).trans f0, (put3i_frozen _).trans f1, (put3i_frozen _).trans f2⟩⟩
theorem put3i_out {W : World} {g : Nat} {a0 a1 a2 : Int} (x : Addr) (hx : x.block ≠ g) : (put3i W g a0 a1 a2).cell? x = W.cell? x := by
  unfold put3i
  iterate 3 rw [World.cell?_setCell_other _ _ _ _ (fun e => hx (by rw [← e]))]
theorem put3i_bl {w W : World} {g : Nat} {a0 a1 a2 : Int} (h : Below w.heap.size w W) (hg : w.heap.size ≤ g) : Below w.heap.size w (put3i W g a0 a1 a2) := by
  unfold put3i
  iterate 3 refine bl_set ?_ (by exact hg) _
  exact h
abbrev I8 (g : Nat) (W : World) : Prop := (W.cell? ⟨g, 0, none⟩ = some (.int .i64 (i0 W ⟨g, 0, none⟩)) ∧ W.cell? ⟨g, 1, none⟩ = some (.int .i64 (i0 W ⟨g, 1, none⟩)) ∧ W.cell? ⟨g, 2, none⟩ = some (.int .i64 (i0 W ⟨g, 2, none⟩)) ∧ W.cell? ⟨g, 3, none⟩ = some (.int .i64 (i0 W ⟨g, 3, none⟩)) ∧ W.cell? ⟨g, 4, none⟩ = some (.int .i64 (i0 W ⟨g, 4, none⟩)) ∧ W.cell? ⟨g, 5, none⟩ = some (.int .i64 (i0 W ⟨g, 5, none⟩)) ∧ W.cell? ⟨g, 6, none⟩ = some (.int .i64 (i0 W ⟨g, 6, none⟩)) ∧ W.cell? ⟨g, 7, none⟩ = some (.int .i64 (i0 W ⟨g, 7, none⟩))) ∧ (W.frozen? ⟨g, 0, none⟩ = false ∧ W.frozen? ⟨g, 1, none⟩ = false ∧ W.frozen? ⟨g, 2, none⟩ = false ∧ W.frozen? ⟨g, 3, none⟩ = false ∧ W.frozen? ⟨g, 4, none⟩ = false ∧ W.frozen? ⟨g, 5, none⟩ = false ∧ W.frozen? ⟨g, 6, none⟩ = false ∧ W.frozen? ⟨g, 7, none⟩ = false)
abbrev put8i (W : World) (g : Nat) (a0 a1 a2 a3 a4 a5 a6 a7 : Int) : World := (((((((W.setCell ⟨g, 0, none⟩ (.int .i64 a0)).setCell ⟨g, 1, none⟩ (.int .i64 a1)).setCell ⟨g, 2, none⟩ (.int .i64 a2)).setCell ⟨g, 3, none⟩ (.int .i64 a3)).setCell ⟨g, 4, none⟩ (.int .i64 a4)).setCell ⟨g, 5, none⟩ (.int .i64 a5)).setCell ⟨g, 6, none⟩ (.int .i64 a6)).setCell ⟨g, 7, none⟩ (.int .i64 a7)
theorem i8_on {g : Nat} {W W' : World} (hb : Below W.heap.size W W') (h : I8 g W) : I8 g W' := by
  obtain ⟨⟨h0, h1, h2, h3, h4, h5, h6, h7⟩, ⟨f0, f1, f2, f3, f4, f5, f6, f7⟩⟩ := h
  exact ⟨⟨i0_of (cell_on hb h0), i0_of (cell_on hb h1), i0_of (cell_on hb h2), i0_of (cell_on hb h3), i0_of (cell_on hb h4), i0_of (cell_on hb h5), i0_of (cell_on hb h6), i0_of (cell_on hb h7)⟩, ⟨frozen_on hb (World.block_lt_of_cell? _ _ h0) f0, frozen_on hb (World.block_lt_of_cell? _ _ h1) f1, frozen_on hb (World.block_lt_of_cell? _ _ h2) f2, frozen_on hb (World.block_lt_of_cell? _ _ h3) f3, frozen_on hb (World.block_lt_of_cell? _ _ h4) f4, frozen_on hb (World.block_lt_of_cell? _ _ h5) f5, frozen_on hb (World.block_lt_of_cell? _ _ h6) f6, frozen_on hb (World.block_lt_of_cell? _ _ h7) f7⟩⟩
theorem i8_start {g : Nat} {t : TypeId} {W : World} {a0 a1 a2 a3 a4 a5 a6 a7 : Int} (h : W.heap[g]? = some (.cells #[.int .i64 a0, .int .i64 a1, .int .i64 a2, .int .i64 a3, .int .i64 a4, .int .i64 a5, .int .i64 a6, .int .i64 a7] t)) : I8 g W :=
  ⟨⟨i0_of (k := .i64) (v := a0) ((blk_cell h 0).trans rfl), i0_of (k := .i64) (v := a1) ((blk_cell h 1).trans rfl), i0_of (k := .i64) (v := a2) ((blk_cell h 2).trans rfl), i0_of (k := .i64) (v := a3) ((blk_cell h 3).trans rfl), i0_of (k := .i64) (v := a4) ((blk_cell h 4).trans rfl), i0_of (k := .i64) (v := a5) ((blk_cell h 5).trans rfl), i0_of (k := .i64) (v := a6) ((blk_cell h 6).trans rfl), i0_of (k := .i64) (v := a7) ((blk_cell h 7).trans rfl)⟩, ⟨blk_frozen h 0, blk_frozen h 1, blk_frozen h 2, blk_frozen h 3, blk_frozen h 4, blk_frozen h 5, blk_frozen h 6, blk_frozen h 7⟩⟩
theorem i8_get {g : Nat} {W : World} {a0 a1 a2 a3 a4 a5 a6 a7 : Int} (h : I8 g W) : (put8i W g a0 a1 a2 a3 a4 a5 a6 a7).cell? ⟨g, 0, none⟩ = some (.int .i64 a0) ∧ (put8i W g a0 a1 a2 a3 a4 a5 a6 a7).cell? ⟨g, 1, none⟩ = some (.int .i64 a1) ∧ (put8i W g a0 a1 a2 a3 a4 a5 a6 a7).cell? ⟨g, 2, none⟩ = some (.int .i64 a2) ∧ (put8i W g a0 a1 a2 a3 a4 a5 a6 a7).cell? ⟨g, 3, none⟩ = some (.int .i64 a3) ∧ (put8i W g a0 a1 a2 a3 a4 a5 a6 a7).cell? ⟨g, 4, none⟩ = some (.int .i64 a4) ∧ (put8i W g a0 a1 a2 a3 a4 a5 a6 a7).cell? ⟨g, 5, none⟩ = some (.int .i64 a5) ∧ (put8i W g a0 a1 a2 a3 a4 a5 a6 a7).cell? ⟨g, 6, none⟩ = some (.int .i64 a6) ∧ (put8i W g a0 a1 a2 a3 a4 a5 a6 a7).cell? ⟨g, 7, none⟩ = some (.int .i64 a7) := by
  obtain ⟨⟨h0, h1, h2, h3, h4, h5, h6, h7⟩, ⟨f0, f1, f2, f3, f4, f5, f6, f7⟩⟩ := h
  unfold put8i
  refine ⟨?_, ?_, ?_, ?_, ?_, ?_, ?_, ?_⟩ <;> go_simp
theorem put8i_frozen {W : World} {g : Nat} {a0 a1 a2 a3 a4 a5 a6 a7 : Int} (x : Addr) : (put8i W g a0 a1 a2 a3 a4 a5 a6 a7).frozen? x = W.frozen? x := by
  unfold put8i
  simp
theorem i8_set {g : Nat} {W : World} {a0 a1 a2 a3 a4 a5 a6 a7 : Int} (h : I8 g W) : I8 g (put8i W g a0 a1 a2 a3 a4 a5 a6 a7) := by
  have hg := i8_get (a0 := a0) (a1 := a1) (a2 := a2) (a3 := a3) (a4 := a4) (a5 := a5) (a6 := a6) (a7 := a7) h
  obtain ⟨k0, k1, k2, k3, k4, k5, k6, k7⟩ := hg
  obtain ⟨-, ⟨f0, f1, f2, f3, f4, f5, f6, f7⟩⟩ := h
  exact ⟨⟨i0_of k0, i0_of k1, i0_of k2, i0_of k3, i0_of k4, i0_of k5, i0_of k6, i0_of k7⟩, ⟨(put8i_frozen _).trans f0, (put8i_frozen _).trans f1, (put8i_frozen _).trans f2, (put8i_frozen _).trans f3, (put8i_frozen _).trans f4, (put8i_frozen _).trans f5, (put8i_frozen _).trans f6, (put8i_frozen _).trans f7⟩⟩
theorem put8i_out {W : World} {g : Nat} {a0 a1 a2 a3 a4 a5 a6 a7 : Int} (x : Addr) (hx : x.block ≠ g) : (put8i W g a0 a1 a2 a3 a4 a5 a6 a7).cell? x = W.cell? x := by
  unfold put8i
  iterate 8 rw [World.cell?_setCell_other _ _ _ _ (fun e => hx (by rw [← e]))]
theorem put8i_bl {w W : World} {g : Nat} {a0 a1 a2 a3 a4 a5 a6 a7 : Int} (h : Below w.heap.size w W) (hg : w.heap.size ≤ g) : Below w.heap.size w (put8i W g a0 a1 a2 a3 a4 a5 a6 a7) := by
  unfold put8i
  iterate 8 refine bl_set ?_ (by exact hg) _
  exact h
end Go.Proofs.Ytdgglkihiibmhaa
