/-
  laws.FnCronNextLeapfrog: its worlds' words.
-/
import Derived.Test.YtdgglkihiibmhaaWth
import Derived.Deep.CutRange
set_option linter.unusedVariables false
set_option linter.unusedSimpArgs false
namespace Go.Proofs.Ytdgglkihiibmhaa
open Go Go.RowKit Cal Go.Proofs.YtdgglkihiibmhaaW.PrintLast

abbrev ioo (a b : Int) : Obj := .cells #[.int .i64 a, .int .i64 b] 23
theorem blk_room {W : World} {q r : Nat} {o : Obj} {u v : Int} (h : q ≠ r) (hq : W.heap[q]? = some o) : ((W.setCell ⟨r, 0, none⟩ (.int .i64 u)).setCell ⟨r, 1, none⟩ (.int .i64 v)).heap[q]? = some o := by
  rw [blk_out h, blk_out h]
  exact hq
theorem put2_blk {W : World} {q : Nat} {a b a' b' : Int} (h : W.heap[q]? = some (ioo a b)) : ((W.setCell ⟨q, 0, none⟩ (.int .i64 a')).setCell ⟨q, 1, none⟩ (.int .i64 b')).heap[q]? = some (ioo a' b') := blk_put (blk_put h)
theorem io_c {W : World} {q : Nat} {a b : Int} (h : W.heap[q]? = some (ioo a b)) : W.cell? ⟨q, 0, none⟩ = some (.int .i64 a) ∧ W.cell? ⟨q, 1, none⟩ = some (.int .i64 b) ∧ W.frozen? ⟨q, 0, none⟩ = false ∧ W.frozen? ⟨q, 1, none⟩ = false := ⟨(blk_cell h 0).trans rfl, (blk_cell h 1).trans rfl, blk_frozen h 0, blk_frozen h 1⟩
abbrev Lf (w : World) (ev : Bool) (f : Six) (d s n : Int) (W : World) : Prop := W.cell? ⟨w.heap.size, 0, none⟩ = some (.bool ev) ∧ W.cell? ⟨w.heap.size, 1, none⟩ = some (.int .i64 d) ∧ W.cell? ⟨w.heap.size, 2, none⟩ = some (.int .u64 f.se) ∧ W.cell? ⟨w.heap.size, 3, none⟩ = some (.int .u64 f.mi) ∧ W.cell? ⟨w.heap.size, 4, none⟩ = some (.int .u64 f.ho) ∧ W.cell? ⟨w.heap.size, 5, none⟩ = some (.int .u64 f.dom) ∧ W.cell? ⟨w.heap.size, 6, none⟩ = some (.int .u64 f.mo) ∧ W.cell? ⟨w.heap.size, 7, none⟩ = some (.int .u64 f.dow) ∧ W.cell? ⟨w.heap.size + 1, 0, none⟩ = some (.int .i64 s) ∧ W.cell? ⟨w.heap.size + 1, 1, none⟩ = some (.int .i64 n) ∧ Hid (Below w.heap.size w W)
theorem lf_on {w : World} {ev : Bool} {f : Six} {d s n : Int} {W W' : World} (hb : Below W.heap.size W W') (h : Lf w ev f d s n W) : Lf w ev f d s n W' := by
  obtain ⟨a0, a1, a2, a3, a4, a5, a6, a7, a8, a9, hh⟩ := h
  exact ⟨cell_on hb a0, cell_on hb a1, cell_on hb a2, cell_on hb a3, cell_on hb a4, cell_on hb a5, cell_on hb a6, cell_on hb a7, cell_on hb a8, cell_on hb a9, Lib.hid (bl_on hh.out hb)⟩
theorem lf_set {w : World} {ev : Bool} {f : Six} {d s n : Int} {W : World} {r : Nat} {u v : Int} (hr : w.heap.size ≤ r) (o0 : w.heap.size < r) (o1 : w.heap.size + 1 < r) (h : Lf w ev f d s n W) : Lf w ev f d s n ((W.setCell ⟨r, 0, none⟩ (.int .i64 u)).setCell ⟨r, 1, none⟩ (.int .i64 v)) := by
  obtain ⟨a0, a1, a2, a3, a4, a5, a6, a7, a8, a9, hh⟩ := h
  have n0 : w.heap.size ≠ r := by omega
  have n1 : w.heap.size + 1 ≠ r := by omega
  exact ⟨cell_room n0 a0, cell_room n0 a1, cell_room n0 a2, cell_room n0 a3, cell_room n0 a4, cell_room n0 a5, cell_room n0 a6, cell_room n0 a7, cell_room n1 a8, cell_room n1 a9, Lib.hid (bl_set (bl_set hh.out (by exact hr) _) (by exact hr) _)⟩
theorem lf_lt {w : World} {ev : Bool} {f : Six} {d s n : Int} {W : World} (h : Lf w ev f d s n W) : w.heap.size ≤ W.heap.size ∧ w.heap.size < W.heap.size ∧ w.heap.size + 1 < W.heap.size := by
  obtain ⟨a0, a1, a2, a3, a4, a5, a6, a7, a8, a9, hh⟩ := h
  exact ⟨hh.out.size, World.block_lt_of_cell? _ _ a0, World.block_lt_of_cell? _ _ a8⟩
theorem lf_bel {w : World} {ev : Bool} {f : Six} {d s n : Int} {W : World} (h : Lf w ev f d s n W) : Below w.heap.size w W := by
  obtain ⟨-, -, -, -, -, -, -, -, -, -, hh⟩ := h
  exact hh.out
abbrev Lg (w : World) (ev : Bool) (f : Six) (d s n : Int) (qm : Nat) (mv : Int) (W : World) : Prop := W.cell? ⟨w.heap.size, 0, none⟩ = some (.bool ev) ∧ W.cell? ⟨w.heap.size, 1, none⟩ = some (.int .i64 d) ∧ W.cell? ⟨w.heap.size, 2, none⟩ = some (.int .u64 f.se) ∧ W.cell? ⟨w.heap.size, 3, none⟩ = some (.int .u64 f.mi) ∧ W.cell? ⟨w.heap.size, 4, none⟩ = some (.int .u64 f.ho) ∧ W.cell? ⟨w.heap.size, 5, none⟩ = some (.int .u64 f.dom) ∧ W.cell? ⟨w.heap.size, 6, none⟩ = some (.int .u64 f.mo) ∧ W.cell? ⟨w.heap.size, 7, none⟩ = some (.int .u64 f.dow) ∧ W.cell? ⟨w.heap.size + 1, 0, none⟩ = some (.int .i64 s) ∧ W.cell? ⟨w.heap.size + 1, 1, none⟩ = some (.int .i64 n) ∧ W.cell? ⟨qm, 0, none⟩ = some (.int .i64 mv) ∧ W.cell? ⟨qm, 1, none⟩ = some (.int .i64 0) ∧ W.heap[qm]? = some (.cells #[.int .i64 mv, .int .i64 0] 23) ∧ Hid (Below w.heap.size w W)
theorem lg_on {w : World} {ev : Bool} {f : Six} {d s n : Int} {qm : Nat} {mv : Int} {W W' : World} (hb : Below W.heap.size W W') (h : Lg w ev f d s n qm mv W) : Lg w ev f d s n qm mv W' := by
  obtain ⟨a0, a1, a2, a3, a4, a5, a6, a7, a8, a9, a10, a11, b0, hh⟩ := h
  exact ⟨cell_on hb a0, cell_on hb a1, cell_on hb a2, cell_on hb a3, cell_on hb a4, cell_on hb a5, cell_on hb a6, cell_on hb a7, cell_on hb a8, cell_on hb a9, cell_on hb a10, cell_on hb a11, blk_on hb b0, Lib.hid (bl_on hh.out hb)⟩
theorem lg_set {w : World} {ev : Bool} {f : Six} {d s n : Int} {qm : Nat} {mv : Int} {W : World} {r : Nat} {u v : Int} (hr : w.heap.size ≤ r) (o0 : w.heap.size < r) (o1 : w.heap.size + 1 < r) (o2 : qm < r) (h : Lg w ev f d s n qm mv W) : Lg w ev f d s n qm mv ((W.setCell ⟨r, 0, none⟩ (.int .i64 u)).setCell ⟨r, 1, none⟩ (.int .i64 v)) := by
  obtain ⟨a0, a1, a2, a3, a4, a5, a6, a7, a8, a9, a10, a11, b0, hh⟩ := h
  have n0 : w.heap.size ≠ r := by omega
  have n1 : w.heap.size + 1 ≠ r := by omega
  have n2 : qm ≠ r := by omega
  exact ⟨cell_room n0 a0, cell_room n0 a1, cell_room n0 a2, cell_room n0 a3, cell_room n0 a4, cell_room n0 a5, cell_room n0 a6, cell_room n0 a7, cell_room n1 a8, cell_room n1 a9, cell_room n2 a10, cell_room n2 a11, blk_room n2 b0, Lib.hid (bl_set (bl_set hh.out (by exact hr) _) (by exact hr) _)⟩
theorem lg_lt {w : World} {ev : Bool} {f : Six} {d s n : Int} {qm : Nat} {mv : Int} {W : World} (h : Lg w ev f d s n qm mv W) : w.heap.size ≤ W.heap.size ∧ w.heap.size < W.heap.size ∧ w.heap.size + 1 < W.heap.size ∧ qm < W.heap.size := by
  obtain ⟨a0, a1, a2, a3, a4, a5, a6, a7, a8, a9, a10, a11, b0, hh⟩ := h
  exact ⟨hh.out.size, World.block_lt_of_cell? _ _ a0, World.block_lt_of_cell? _ _ a8, World.block_lt_of_cell? _ _ a10⟩
theorem lg_bel {w : World} {ev : Bool} {f : Six} {d s n : Int} {qm : Nat} {mv : Int} {W : World} (h : Lg w ev f d s n qm mv W) : Below w.heap.size w W := by
  obtain ⟨-, -, -, -, -, -, -, -, -, -, -, -, -, hh⟩ := h
  exact hh.out
abbrev Lh (w : World) (ev : Bool) (f : Six) (d s n : Int) (qm : Nat) (mv : Int) (qu : Nat) (us un : Int) (W : World) : Prop := W.cell? ⟨w.heap.size, 0, none⟩ = some (.bool ev) ∧ W.cell? ⟨w.heap.size, 1, none⟩ = some (.int .i64 d) ∧ W.cell? ⟨w.heap.size, 2, none⟩ = some (.int .u64 f.se) ∧ W.cell? ⟨w.heap.size, 3, none⟩ = some (.int .u64 f.mi) ∧ W.cell? ⟨w.heap.size, 4, none⟩ = some (.int .u64 f.ho) ∧ W.cell? ⟨w.heap.size, 5, none⟩ = some (.int .u64 f.dom) ∧ W.cell? ⟨w.heap.size, 6, none⟩ = some (.int .u64 f.mo) ∧ W.cell? ⟨w.heap.size, 7, none⟩ = some (.int .u64 f.dow) ∧ W.cell? ⟨w.heap.size + 1, 0, none⟩ = some (.int .i64 s) ∧ W.cell? ⟨w.heap.size + 1, 1, none⟩ = some (.int .i64 n) ∧ W.cell? ⟨qm, 0, none⟩ = some (.int .i64 mv) ∧ W.cell? ⟨qm, 1, none⟩ = some (.int .i64 0) ∧ W.cell? ⟨qu, 0, none⟩ = some (.int .i64 us) ∧ W.cell? ⟨qu, 1, none⟩ = some (.int .i64 un) ∧ W.heap[qm]? = some (.cells #[.int .i64 mv, .int .i64 0] 23) ∧ W.heap[qu]? = some (.cells #[.int .i64 us, .int .i64 un] 23) ∧ Hid (Below w.heap.size w W)
theorem lh_on {w : World} {ev : Bool} {f : Six} {d s n : Int} {qm : Nat} {mv : Int} {qu : Nat} {us un : Int} {W W' : World} (hb : Below W.heap.size W W') (h : Lh w ev f d s n qm mv qu us un W) : Lh w ev f d s n qm mv qu us un W' := by
  obtain ⟨a0, a1, a2, a3, a4, a5, a6, a7, a8, a9, a10, a11, a12, a13, b0, b1, hh⟩ := h
  exact ⟨cell_on hb a0, cell_on hb a1, cell_on hb a2, cell_on hb a3, cell_on hb a4, cell_on hb a5, cell_on hb a6, cell_on hb a7, cell_on hb a8, cell_on hb a9, cell_on hb a10, cell_on hb a11, cell_on hb a12, cell_on hb a13, blk_on hb b0, blk_on hb b1, Lib.hid (bl_on hh.out hb)⟩
theorem lh_set {w : World} {ev : Bool} {f : Six} {d s n : Int} {qm : Nat} {mv : Int} {qu : Nat} {us un : Int} {W : World} {r : Nat} {u v : Int} (hr : w.heap.size ≤ r) (o0 : w.heap.size < r) (o1 : w.heap.size + 1 < r) (o2 : qm < r) (o3 : qu < r) (h : Lh w ev f d s n qm mv qu us un W) : Lh w ev f d s n qm mv qu us un ((W.setCell ⟨r, 0, none⟩ (.int .i64 u)).setCell ⟨r, 1, none⟩ (.int .i64 v)) := by
  obtain ⟨a0, a1, a2, a3, a4, a5, a6, a7, a8, a9, a10, a11, a12, a13, b0, b1, hh⟩ := h
  have n0 : w.heap.size ≠ r := by omega
  have n1 : w.heap.size + 1 ≠ r := by omega
  have n2 : qm ≠ r := by omega
  have n3 : qu ≠ r := by omega
  exact ⟨cell_room n0 a0, cell_room n0 a1, cell_room n0 a2, cell_room n0 a3, cell_room n0 a4, cell_room n0 a5, cell_room n0 a6, cell_room n0 a7, cell_room n1 a8, cell_room n1 a9, cell_room n2 a10, cell_room n2 a11, cell_room n3 a12, cell_room n3 a13, blk_room n2 b0, blk_room n3 b1, Lib.hid (bl_set (bl_set hh.out (by exact hr) _) (by exact hr) _)⟩
theorem lh_lt {w : World} {ev : Bool} {f : Six} {d s n : Int} {qm : Nat} {mv : Int} {qu : Nat} {us un : Int} {W : World} (h : Lh w ev f d s n qm mv qu us un W) : w.heap.size ≤ W.heap.size ∧ w.heap.size < W.heap.size ∧ w.heap.size + 1 < W.heap.size ∧ qm < W.heap.size ∧ qu < W.heap.size := by
  obtain ⟨a0, a1, a2, a3, a4, a5, a6, a7, a8, a9, a10, a11, a12, a13, b0, b1, hh⟩ := h
  exact ⟨hh.out.size, World.block_lt_of_cell? _ _ a0, World.block_lt_of_cell? _ _ a8, World.block_lt_of_cell? _ _ a10, World.block_lt_of_cell? _ _ a12⟩
theorem lh_bel {w : World} {ev : Bool} {f : Six} {d s n : Int} {qm : Nat} {mv : Int} {qu : Nat} {us un : Int} {W : World} (h : Lh w ev f d s n qm mv qu us un W) : Below w.heap.size w W := by
  obtain ⟨-, -, -, -, -, -, -, -, -, -, -, -, -, -, -, -, hh⟩ := h
  exact hh.out
abbrev Li (w : World) (ev : Bool) (f : Six) (d s n : Int) (qm : Nat) (mv : Int) (qu : Nat) (us un : Int) (qa : Nat) (av : Int) (W : World) : Prop := W.cell? ⟨w.heap.size, 0, none⟩ = some (.bool ev) ∧ W.cell? ⟨w.heap.size, 1, none⟩ = some (.int .i64 d) ∧ W.cell? ⟨w.heap.size, 2, none⟩ = some (.int .u64 f.se) ∧ W.cell? ⟨w.heap.size, 3, none⟩ = some (.int .u64 f.mi) ∧ W.cell? ⟨w.heap.size, 4, none⟩ = some (.int .u64 f.ho) ∧ W.cell? ⟨w.heap.size, 5, none⟩ = some (.int .u64 f.dom) ∧ W.cell? ⟨w.heap.size, 6, none⟩ = some (.int .u64 f.mo) ∧ W.cell? ⟨w.heap.size, 7, none⟩ = some (.int .u64 f.dow) ∧ W.cell? ⟨w.heap.size + 1, 0, none⟩ = some (.int .i64 s) ∧ W.cell? ⟨w.heap.size + 1, 1, none⟩ = some (.int .i64 n) ∧ W.cell? ⟨qm, 0, none⟩ = some (.int .i64 mv) ∧ W.cell? ⟨qm, 1, none⟩ = some (.int .i64 0) ∧ W.cell? ⟨qu, 0, none⟩ = some (.int .i64 us) ∧ W.cell? ⟨qu, 1, none⟩ = some (.int .i64 un) ∧ W.heap[qm]? = some (.cells #[.int .i64 mv, .int .i64 0] 23) ∧ W.heap[qu]? = some (.cells #[.int .i64 us, .int .i64 un] 23) ∧ W.heap[qa]? = some (.cells #[.int .i64 av, .int .i64 0] 23) ∧ Hid (Below w.heap.size w W)
theorem li_on {w : World} {ev : Bool} {f : Six} {d s n : Int} {qm : Nat} {mv : Int} {qu : Nat} {us un : Int} {qa : Nat} {av : Int} {W W' : World} (hb : Below W.heap.size W W') (h : Li w ev f d s n qm mv qu us un qa av W) : Li w ev f d s n qm mv qu us un qa av W' := by
  obtain ⟨a0, a1, a2, a3, a4, a5, a6, a7, a8, a9, a10, a11, a12, a13, b0, b1, b2, hh⟩ := h
  exact ⟨cell_on hb a0, cell_on hb a1, cell_on hb a2, cell_on hb a3, cell_on hb a4, cell_on hb a5, cell_on hb a6, cell_on hb a7, cell_on hb a8, cell_on hb a9, cell_on hb a10, cell_on hb a11, cell_on hb a12, cell_on hb a13, blk_on hb b0, blk_on hb b1, blk_on hb b2, Lib.hid (bl_on hh.out hb)⟩
theorem li_set {w : World} {ev : Bool} {f : Six} {d s n : Int} {qm : Nat} {mv : Int} {qu : Nat} {us un : Int} {qa : Nat} {av : Int} {W : World} {r : Nat} {u v : Int} (hr : w.heap.size ≤ r) (o0 : w.heap.size < r) (o1 : w.heap.size + 1 < r) (o2 : qm < r) (o3 : qu < r) (o4 : qa < r) (h : Li w ev f d s n qm mv qu us un qa av W) : Li w ev f d s n qm mv qu us un qa av ((W.setCell ⟨r, 0, none⟩ (.int .i64 u)).setCell ⟨r, 1, none⟩ (.int .i64 v)) := by
  obtain ⟨a0, a1, a2, a3, a4, a5, a6, a7, a8, a9, a10, a11, a12, a13, b0, b1, b2, hh⟩ := h
  have n0 : w.heap.size ≠ r := by omega
  have n1 : w.heap.size + 1 ≠ r := by omega
  have n2 : qm ≠ r := by omega
  have n3 : qu ≠ r := by omega
  have n4 : qa ≠ r := by omega
  exact ⟨cell_room n0 a0, cell_room n0 a1, cell_room n0 a2, cell_room n0 a3, cell_room n0 a4, cell_room n0 a5, cell_room n0 a6, cell_room n0 a7, cell_room n1 a8, cell_room n1 a9, cell_room n2 a10, cell_room n2 a11, cell_room n3 a12, cell_room n3 a13, blk_room n2 b0, blk_room n3 b1, blk_room n4 b2, Lib.hid (bl_set (bl_set hh.out (by exact hr) _) (by exact hr) _)⟩
theorem li_lt {w : World} {ev : Bool} {f : Six} {d s n : Int} {qm : Nat} {mv : Int} {qu : Nat} {us un : Int} {qa : Nat} {av : Int} {W : World} (h : Li w ev f d s n qm mv qu us un qa av W) : w.heap.size ≤ W.heap.size ∧ w.heap.size < W.heap.size ∧ w.heap.size + 1 < W.heap.size ∧ qm < W.heap.size ∧ qu < W.heap.size ∧ qa < W.heap.size := by
  obtain ⟨a0, a1, a2, a3, a4, a5, a6, a7, a8, a9, a10, a11, a12, a13, b0, b1, b2, hh⟩ := h
  exact ⟨hh.out.size, World.block_lt_of_cell? _ _ a0, World.block_lt_of_cell? _ _ a8, World.block_lt_of_cell? _ _ a10, World.block_lt_of_cell? _ _ a12, (Array.getElem?_eq_some_iff.1 b2).1⟩
theorem li_bel {w : World} {ev : Bool} {f : Six} {d s n : Int} {qm : Nat} {mv : Int} {qu : Nat} {us un : Int} {qa : Nat} {av : Int} {W : World} (h : Li w ev f d s n qm mv qu us un qa av W) : Below w.heap.size w W := by
  obtain ⟨-, -, -, -, -, -, -, -, -, -, -, -, -, -, -, -, -, hh⟩ := h
  exact hh.out
abbrev Lj (w : World) (ev : Bool) (f : Six) (d s n : Int) (qm : Nat) (mv : Int) (qu : Nat) (us un : Int) (qa : Nat) (av : Int) (qb : Nat) (bv : Int) (W : World) : Prop := W.cell? ⟨w.heap.size, 0, none⟩ = some (.bool ev) ∧ W.cell? ⟨w.heap.size, 1, none⟩ = some (.int .i64 d) ∧ W.cell? ⟨w.heap.size, 2, none⟩ = some (.int .u64 f.se) ∧ W.cell? ⟨w.heap.size, 3, none⟩ = some (.int .u64 f.mi) ∧ W.cell? ⟨w.heap.size, 4, none⟩ = some (.int .u64 f.ho) ∧ W.cell? ⟨w.heap.size, 5, none⟩ = some (.int .u64 f.dom) ∧ W.cell? ⟨w.heap.size, 6, none⟩ = some (.int .u64 f.mo) ∧ W.cell? ⟨w.heap.size, 7, none⟩ = some (.int .u64 f.dow) ∧ W.cell? ⟨w.heap.size + 1, 0, none⟩ = some (.int .i64 s) ∧ W.cell? ⟨w.heap.size + 1, 1, none⟩ = some (.int .i64 n) ∧ W.cell? ⟨qm, 0, none⟩ = some (.int .i64 mv) ∧ W.cell? ⟨qm, 1, none⟩ = some (.int .i64 0) ∧ W.cell? ⟨qu, 0, none⟩ = some (.int .i64 us) ∧ W.cell? ⟨qu, 1, none⟩ = some (.int .i64 un) ∧ W.heap[qm]? = some (.cells #[.int .i64 mv, .int .i64 0] 23) ∧ W.heap[qu]? = some (.cells #[.int .i64 us, .int .i64 un] 23) ∧ W.heap[qa]? = some (.cells #[.int .i64 av, .int .i64 0] 23) ∧ W.heap[qb]? = some (.cells #[.int .i64 bv, .int .i64 0] 23) ∧ Hid (Below w.heap.size w W)
theorem lj_on {w : World} {ev : Bool} {f : Six} {d s n : Int} {qm : Nat} {mv : Int} {qu : Nat} {us un : Int} {qa : Nat} {av : Int} {qb : Nat} {bv : Int} {W W' : World} (hb : Below W.heap.size W W') (h : Lj w ev f d s n qm mv qu us un qa av qb bv W) : Lj w ev f d s n qm mv qu us un qa av qb bv W' := by
  obtain ⟨a0, a1, a2, a3, a4, a5, a6, a7, a8, a9, a10, a11, a12, a13, b0, b1, b2, b3, hh⟩ := h
  exact ⟨cell_on hb a0, cell_on hb a1, cell_on hb a2, cell_on hb a3, cell_on hb a4, cell_on hb a5, cell_on hb a6, cell_on hb a7, cell_on hb a8, cell_on hb a9, cell_on hb a10, cell_on hb a11, cell_on hb a12, cell_on hb a13, blk_on hb b0, blk_on hb b1, blk_on hb b2, blk_on hb b3, Lib.hid (bl_on hh.out hb)⟩
theorem lj_set {w : World} {ev : Bool} {f : Six} {d s n : Int} {qm : Nat} {mv : Int} {qu : Nat} {us un : Int} {qa : Nat} {av : Int} {qb : Nat} {bv : Int} {W : World} {r : Nat} {u v : Int} (hr : w.heap.size ≤ r) (o0 : w.heap.size < r) (o1 : w.heap.size + 1 < r) (o2 : qm < r) (o3 : qu < r) (o4 : qa < r) (o5 : qb < r) (h : Lj w ev f d s n qm mv qu us un qa av qb bv W) : Lj w ev f d s n qm mv qu us un qa av qb bv ((W.setCell ⟨r, 0, none⟩ (.int .i64 u)).setCell ⟨r, 1, none⟩ (.int .i64 v)) := by
  obtain ⟨a0, a1, a2, a3, a4, a5, a6, a7, a8, a9, a10, a11, a12, a13, b0, b1, b2, b3, hh⟩ := h
  have n0 : w.heap.size ≠ r := by omega
  have n1 : w.heap.size + 1 ≠ r := by omega
  have n2 : qm ≠ r := by omega
  have n3 : qu ≠ r := by omega
  have n4 : qa ≠ r := by omega
  have n5 : qb ≠ r := by omega
  exact ⟨cell_room n0 a0, cell_room n0 a1, cell_room n0 a2, cell_room n0 a3, cell_room n0 a4, cell_room n0 a5, cell_room n0 a6, cell_room n0 a7, cell_room n1 a8, cell_room n1 a9, cell_room n2 a10, cell_room n2 a11, cell_room n3 a12, cell_room n3 a13, blk_room n2 b0, blk_room n3 b1, blk_room n4 b2, blk_room n5 b3, Lib.hid (bl_set (bl_set hh.out (by exact hr) _) (by exact hr) _)⟩
theorem lj_lt {w : World} {ev : Bool} {f : Six} {d s n : Int} {qm : Nat} {mv : Int} {qu : Nat} {us un : Int} {qa : Nat} {av : Int} {qb : Nat} {bv : Int} {W : World} (h : Lj w ev f d s n qm mv qu us un qa av qb bv W) : w.heap.size ≤ W.heap.size ∧ w.heap.size < W.heap.size ∧ w.heap.size + 1 < W.heap.size ∧ qm < W.heap.size ∧ qu < W.heap.size ∧ qa < W.heap.size ∧ qb < W.heap.size := by
  obtain ⟨a0, a1, a2, a3, a4, a5, a6, a7, a8, a9, a10, a11, a12, a13, b0, b1, b2, b3, hh⟩ := h
  exact ⟨hh.out.size, World.block_lt_of_cell? _ _ a0, World.block_lt_of_cell? _ _ a8, World.block_lt_of_cell? _ _ a10, World.block_lt_of_cell? _ _ a12, (Array.getElem?_eq_some_iff.1 b2).1, (Array.getElem?_eq_some_iff.1 b3).1⟩
theorem lj_bel {w : World} {ev : Bool} {f : Six} {d s n : Int} {qm : Nat} {mv : Int} {qu : Nat} {us un : Int} {qa : Nat} {av : Int} {qb : Nat} {bv : Int} {W : World} (h : Lj w ev f d s n qm mv qu us un qa av qb bv W) : Below w.heap.size w W := by
  obtain ⟨-, -, -, -, -, -, -, -, -, -, -, -, -, -, -, -, -, -, hh⟩ := h
  exact hh.out
theorem lg_mk {w : World} {ev : Bool} {f : Six} {d s n : Int} {qm : Nat} {mv : Int} {W : World} (h : Lf w ev f d s n W) (hq : W.heap[qm]? = some (ioo mv 0)) : Lg w ev f d s n qm mv W := by
  obtain ⟨a0, a1, a2, a3, a4, a5, a6, a7, a8, a9, hh⟩ := h
  exact ⟨a0, a1, a2, a3, a4, a5, a6, a7, a8, a9, (io_c hq).1, (io_c hq).2.1, hq, hh⟩
theorem lh_mk {w : World} {ev : Bool} {f : Six} {d s n : Int} {qm : Nat} {mv : Int} {qu : Nat} {us un : Int} {W : World} (h : Lg w ev f d s n qm mv W) (hq : W.heap[qu]? = some (ioo us un)) : Lh w ev f d s n qm mv qu us un W := by
  obtain ⟨a0, a1, a2, a3, a4, a5, a6, a7, a8, a9, a10, a11, b0, hh⟩ := h
  exact ⟨a0, a1, a2, a3, a4, a5, a6, a7, a8, a9, a10, a11, (io_c hq).1, (io_c hq).2.1, b0, hq, hh⟩
theorem li_mk {w : World} {ev : Bool} {f : Six} {d s n : Int} {qm : Nat} {mv : Int} {qu : Nat} {us un : Int} {qa : Nat} {av : Int} {W : World} (h : Lh w ev f d s n qm mv qu us un W) (hq : W.heap[qa]? = some (ioo av 0)) : Li w ev f d s n qm mv qu us un qa av W := by
  obtain ⟨a0, a1, a2, a3, a4, a5, a6, a7, a8, a9, a10, a11, a12, a13, b0, b1, hh⟩ := h
  exact ⟨a0, a1, a2, a3, a4, a5, a6, a7, a8, a9, a10, a11, a12, a13, b0, b1, hq, hh⟩
theorem lj_mk {w : World} {ev : Bool} {f : Six} {d s n : Int} {qm : Nat} {mv : Int} {qu : Nat} {us un : Int} {qa : Nat} {av : Int} {qb : Nat} {bv : Int} {W : World} (h : Li w ev f d s n qm mv qu us un qa av W) (hq : W.heap[qb]? = some (ioo bv 0)) : Lj w ev f d s n qm mv qu us un qa av qb bv W := by
  obtain ⟨a0, a1, a2, a3, a4, a5, a6, a7, a8, a9, a10, a11, a12, a13, b0, b1, b2, hh⟩ := h
  exact ⟨a0, a1, a2, a3, a4, a5, a6, a7, a8, a9, a10, a11, a12, a13, b0, b1, b2, hq, hh⟩
theorem lj_a {w : World} {ev : Bool} {f : Six} {d s n : Int} {qm : Nat} {mv : Int} {qu : Nat} {us un : Int} {qa : Nat} {av : Int} {qb : Nat} {bv : Int} {W : World} {v : Int} (h1 : w.heap.size + 1 < qm) (h2 : qm < qu) (h3 : qu < qa) (h4 : qa < qb) (h : Lj w ev f d s n qm mv qu us un qa av qb bv W) : Lj w ev f d s n qm mv qu us un qa v qb bv ((W.setCell ⟨qa, 0, none⟩ (.int .i64 v)).setCell ⟨qa, 1, none⟩ (.int .i64 0)) := by
  obtain ⟨a0, a1, a2, a3, a4, a5, a6, a7, a8, a9, a10, a11, a12, a13, b0, b1, b2, b3, hh⟩ := h
  have n0 : w.heap.size ≠ qa := by omega
  have n1 : w.heap.size + 1 ≠ qa := by omega
  have n2 : qm ≠ qa := by omega
  have n3 : qu ≠ qa := by omega
  exact ⟨cell_room n0 a0, cell_room n0 a1, cell_room n0 a2, cell_room n0 a3, cell_room n0 a4, cell_room n0 a5, cell_room n0 a6, cell_room n0 a7, cell_room n1 a8, cell_room n1 a9, cell_room n2 a10, cell_room n2 a11, cell_room n3 a12, cell_room n3 a13, blk_room (by omega) b0, blk_room (by omega) b1, put2_blk b2, blk_room (by omega) b3, Lib.hid (bl_set (bl_set hh.out (by show _ ≤ qa; omega) _) (by show _ ≤ qa; omega) _)⟩
theorem lh_next {w : World} {ev : Bool} {f : Six} {d s n : Int} {qm : Nat} {mv : Int} {qu : Nat} {us un : Int} {qa : Nat} {av : Int} {qb : Nat} {bv : Int} {W : World} {v : Int} (h1 : w.heap.size + 1 < qm) (h2 : qm < qu) (h : Lj w ev f d s n qm mv qu us un qa av qb bv W) : Lh w ev f d s n qm mv qu v 0 ((W.setCell ⟨qu, 0, none⟩ (.int .i64 v)).setCell ⟨qu, 1, none⟩ (.int .i64 0)) := by
  obtain ⟨a0, a1, a2, a3, a4, a5, a6, a7, a8, a9, a10, a11, a12, a13, b0, b1, b2, b3, hh⟩ := h
  have n0 : w.heap.size ≠ qu := by omega
  have n1 : w.heap.size + 1 ≠ qu := by omega
  have n2 : qm ≠ qu := by omega
  have hq := put2_blk (a' := v) (b' := 0) b1
  exact ⟨cell_room n0 a0, cell_room n0 a1, cell_room n0 a2, cell_room n0 a3, cell_room n0 a4, cell_room n0 a5, cell_room n0 a6, cell_room n0 a7, cell_room n1 a8, cell_room n1 a9, cell_room n2 a10, cell_room n2 a11, (io_c hq).1, (io_c hq).2.1, blk_room (by omega) b0, hq, Lib.hid (bl_set (bl_set hh.out (by show _ ≤ qu; omega) _) (by show _ ≤ qu; omega) _)⟩
theorem lf_start (w : World) (ev : Bool) (f : Six) (d s n : Int) : Lf w ev f d s n ((w.alloc (schO ev f d)).alloc (io s n)) := by
  have b0 := heap_old (o' := io s n) (heap_new0 w _ (schO ev f d) rfl)
  have b1 := heap_new0 (w.alloc (schO ev f d)) (w.heap.size + 1) (io s n) (by simp)
  exact ⟨(blk_cell b0 0).trans rfl, (blk_cell b0 1).trans rfl, (blk_cell b0 2).trans rfl, (blk_cell b0 3).trans rfl, (blk_cell b0 4).trans rfl, (blk_cell b0 5).trans rfl, (blk_cell b0 6).trans rfl, (blk_cell b0 7).trans rfl, (blk_cell b1 0).trans rfl, (blk_cell b1 1).trans rfl, Lib.hid (by repeat (first | exact Below.refl _ _ | apply bl_alloc))⟩
theorem lj_b {w : World} {ev : Bool} {f : Six} {d s n : Int} {qm : Nat} {mv : Int} {qu : Nat} {us un : Int} {qa : Nat} {av : Int} {qb : Nat} {bv : Int} {W : World} (h : Lj w ev f d s n qm mv qu us un qa av qb bv W) : W.heap[qm]? = some (ioo mv 0) ∧ W.heap[qu]? = some (ioo us un) ∧ W.heap[qa]? = some (ioo av 0) ∧ W.heap[qb]? = some (ioo bv 0) := by
  obtain ⟨-, -, -, -, -, -, -, -, -, -, -, -, -, -, b0, b1, b2, b3, hh⟩ := h
  exact ⟨b0, b1, b2, b3⟩
theorem with_z (ev : Bool) (f : Six) (d kz : Int) (k : Nat) (hk : k < 6) (hz : kz = (k : Int)) (b : Nat) (hb : b < 2 ^ 64) (w : World) : Calls Try.prog 20 #[schV ev f d, .int .i64 kz, .int .u64 (b : Int)] w fun e w' => e = .returned (schV ev (wth f k b hb) d) ∧ Below w.heap.size w w' := by
  rw [hz]
  exact with_any ev f d k hk b hb w
theorem by_mono {x y : Int} (x0 : 0 ≤ x) (h : x ≤ y) : BY (Yx x + 5) ≤ BY (Yx y + 5) := by
  have h1 := (by_iff y (Yx y) (by omega)).1 (Int.le_refl _)
  have h2 := (by_iff x (Yx y) x0).2 (by omega)
  have h3 := ys_le (show Yx x + 5 + 1 ≤ Yx y + 5 + 1 by omega)
  have c1 : CM (Yx x + 5 + 1) 1 = 0 := rfl
  have c2 : CM (Yx y + 5 + 1) 1 = 0 := rfl
  unfold BY DS
  omega
/-- what two sets find from an instant on, and what they have in common -/
structure Leap (fM fA fB : Six) (s us rm ra rb : Int) : Prop where
  both : ∀ x, fits fM x = (fits fA x && fits fB x)
  s0 : -62135596800 ≤ s
  le : s ≤ us
  m : Nx1 fM s rm
  a : Nx1 fA us ra
  b : Nx1 fB us rb
  no : ∀ z, s + 62135596800 + 1 ≤ z → z < us + 62135596800 + 1 → fits fM z = false
theorem Leap.late {fM fA fB : Six} {s us rm ra rb : Int} (h : Leap fM fA fB s us rm ra rb) (hm : asB rm = true) : us + 62135596800 + 1 ≤ rm ∧ rm < BY (Yx (us + 62135596800 + 1) + 5) ∧ fits fA rm = true ∧ fits fB rm = true := by
  obtain ⟨m1, m2, m3, m4⟩ := nx_some h.m hm
  have hs := h.s0
  have hl := h.le
  have hb := h.both rm
  rw [m3] at hb
  have hmono := by_mono (x := s + 62135596800 + 1) (y := us + 62135596800 + 1) (by omega) (by omega)
  refine ⟨?_, by omega, ?_, ?_⟩
  · by_cases c : us + 62135596800 + 1 ≤ rm
    · exact c
    · rw [h.no rm m1 (by omega)] at m3
      exact absurd m3 (by decide)
  · revert hb; cases fits fA rm <;> simp
  · revert hb; cases fits fA rm <;> cases fits fB rm <;> simp
theorem Leap.none {fM fA fB : Six} {s us rm ra rb : Int} (h : Leap fM fA fB s us rm ra rb) (hr : asB ra = false ∨ asB rb = false) : asB rm = false := by
  cases hm : asB rm
  · rfl
  · obtain ⟨l1, l2, l3, l4⟩ := h.late hm
    have hs := h.s0
    have hl := h.le
    rcases hr with hr | hr
    · rw [nx_none h.a (by omega) hr rm l1 l2] at l3
      exact absurd l3 (by decide)
    · rw [nx_none h.b (by omega) hr rm l1 l2] at l4
      exact absurd l4 (by decide)
theorem Leap.max {fM fA fB : Six} {s us rm ra rb : Int} (h : Leap fM fA fB s us rm ra rb) (ha : asB ra = true) (hb : asB rb = true) (hm : asB rm = true) : ra ≤ rm ∧ rb ≤ rm := by
  obtain ⟨l1, l2, l3, l4⟩ := h.late hm
  obtain ⟨a1, a2, a3, a4⟩ := nx_some h.a ha
  obtain ⟨b1, b2, b3, b4⟩ := nx_some h.b hb
  constructor
  · by_cases c : ra ≤ rm
    · exact c
    · rw [a4 rm l1 (by omega)] at l3
      exact absurd l3 (by decide)
  · by_cases c : rb ≤ rm
    · exact c
    · rw [b4 rm l1 (by omega)] at l4
      exact absurd l4 (by decide)
theorem Leap.same {fM fA fB : Six} {s us rm ra : Int} (h : Leap fM fA fB s us rm ra ra) (ha : asB ra = true) (hm : asB rm = true) : rm = ra := by
  have h1 := (h.max ha ha hm).1
  obtain ⟨a1, a2, a3, a4⟩ := nx_some h.a ha
  obtain ⟨b1, b2, b3, b4⟩ := nx_some h.b ha
  obtain ⟨m1, m2, m3, m4⟩ := nx_some h.m hm
  have hs := h.s0
  have hl := h.le
  by_cases c : rm ≤ ra
  · omega
  · have hf := m4 ra (by omega) (by omega)
    rw [h.both ra, a3, b3] at hf
    exact absurd hf (by decide)
theorem Leap.step {fM fA fB : Six} {s us rm ra rb : Int} (h : Leap fM fA fB s us rm ra rb) (ha : asB ra = true) (hb : asB rb = true) (M : Int) (hM : M ≤ ra ∨ M ≤ rb) : ∀ z, s + 62135596800 + 1 ≤ z → z < M → fits fM z = false := by
  intro z z0 z1
  obtain ⟨a1, a2, a3, a4⟩ := nx_some h.a ha
  obtain ⟨b1, b2, b3, b4⟩ := nx_some h.b hb
  by_cases c : z < us + 62135596800 + 1
  · exact h.no z z0 c
  · rw [h.both z]
    rcases hM with hM | hM
    · rw [a4 z (by omega) (by omega)]
      rfl
    · rw [b4 z (by omega) (by omega), Bool.and_false]
theorem six_years2 (x r : Int) (x0 : 0 ≤ x) (h : r < BY (Yx x + 5)) : r ≤ x + 190000000 := by
  have h1 := (date_in_year (x_date x (by omega))).1
  have e := YS_next (Yx x)
  have e1 := YS_next (Yx x + 1)
  have e2 := YS_next (Yx x + 1 + 1)
  have e3 := YS_next (Yx x + 1 + 1 + 1)
  have e4 := YS_next (Yx x + 1 + 1 + 1 + 1)
  have e5 := YS_next (Yx x + 1 + 1 + 1 + 1 + 1)
  have l := lp_01 (Yx x)
  have l1 := lp_01 (Yx x + 1)
  have l2 := lp_01 (Yx x + 1 + 1)
  have l3 := lp_01 (Yx x + 1 + 1 + 1)
  have l4 := lp_01 (Yx x + 1 + 1 + 1 + 1)
  have l5 := lp_01 (Yx x + 1 + 1 + 1 + 1 + 1)
  have hc : CM (Yx x + 5 + 1) 1 = 0 := rfl
  unfold BY DS at h
  rw [hc] at h
  rw [show Yx x + 5 + 1 = Yx x + 1 + 1 + 1 + 1 + 1 + 1 by omega] at h
  omega
end Go.Proofs.Ytdgglkihiibmhaa
