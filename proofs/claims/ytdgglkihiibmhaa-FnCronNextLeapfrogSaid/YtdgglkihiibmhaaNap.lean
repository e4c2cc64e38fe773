/-
  Fewer values; what Next finds; the words of laws.FnCronNextNarrower.
-/
import Derived.Test.YtdgglkihiibmhaaSnx
set_option linter.unusedVariables false
set_option linter.unusedSimpArgs false
namespace Go.Proofs.Ytdgglkihiibmhaa
open Go Go.RowKit Cal Go.Proofs.YtdgglkihiibmhaaW.PrintLast

theorem bits_or64 (m n : Nat) (hm : m < 2 ^ 64) (hn : n < 2 ^ 64) : bits .or .u64 (m : Int) (n : Int) = ((m ||| n : Nat) : Int) := by
  have h : bits .or .u64 (m : Int) (n : Int) = IntKind.u64.wrap (((BitVec.ofInt 64 (m : Int) ||| BitVec.ofInt 64 (n : Int)).toNat : Nat) : Int) := rfl
  rw [h, BitVec.ofInt_natCast, BitVec.ofInt_natCast, BitVec.toNat_or, BitVec.toNat_ofNat, BitVec.toNat_ofNat, Nat.mod_eq_of_lt hm, Nat.mod_eq_of_lt hn]
  have hl : m ||| n < 2 ^ 64 := Nat.or_lt_two_pow hm hn
  simp only [IntKind.wrap, IntKind.bits, IntKind.signed]
  simp
  omega
theorem and_lt64 {m n : Nat} (hm : m < 2 ^ 64) : m &&& n < 2 ^ 64 := Nat.lt_of_le_of_lt Nat.and_le_left hm
/-- fewer values -/
def less (f g : Six) : Six := ⟨f.se &&& g.se, f.mi &&& g.mi, f.ho &&& g.ho, f.dom &&& (g.dom ||| 2 ^ 63), f.mo &&& g.mo, f.dow &&& (g.dow ||| 2 ^ 63), and_lt64 f.h0, and_lt64 f.h1, and_lt64 f.h2, and_lt64 f.h3, and_lt64 f.h4, and_lt64 f.h5⟩
theorem hb_and (a b : Nat) (k : Int) : hb (a &&& b) k = (hb a k && hb b k) := by unfold hb; exact Nat.testBit_and ..
theorem hb_star (a b : Nat) : hb (a &&& (b ||| 2 ^ 63)) 63 = hb a 63 := by
  rw [hb_and]
  have : hb (b ||| 2 ^ 63) 63 = true := by
    unfold hb
    rw [Nat.testBit_or, Nat.testBit_two_pow]
    simp
  rw [this, Bool.and_true]
theorem dm_less {f g : Six} {x : Int} (h : dm (less f g) x = true) : dm f x = true := by
  unfold dm less at *
  simp only [hb_star] at h
  rw [hb_and, hb_and] at h
  revert h
  cases hb f.dom 63 <;> cases hb f.dow 63 <;> cases hb f.dom (Dx x) <;> cases hb f.dow (Wx x) <;> simp
theorem fits_less {f g : Six} {x : Int} (h : fits (less f g) x = true) : fits f x = true := by
  have hd : dm (less f g) x = true := by unfold fits at h; revert h; cases dm (less f g) x <;> simp
  have := dm_less hd
  unfold fits at *
  rw [hd] at h
  rw [this]
  unfold less at h
  simp only [hb_and] at h
  revert h
  cases hb f.mo (Mx x) <;> cases hb f.ho (x % 86400 / 3600) <;> cases hb f.mi (x % 3600 / 60) <;> cases hb f.se (x % 60) <;> simp
/-- what Next finds after an instant -/
abbrev Nx1 (f : Six) (s r : Int) : Prop := Finds f (s + 62135596800 + 1) (Yx (s + 62135596800 + 1) + 5) r
theorem nx_none {f : Six} {s r : Int} (h : Nx1 f s r) (s0 : -62135596800 ≤ s) (hr : asB r = false) : ∀ z, s + 62135596800 + 1 ≤ z → z < BY (Yx (s + 62135596800 + 1) + 5) → fits f z = false := by
  rcases h with ⟨-, h⟩ | ⟨h0, -⟩
  · exact h
  · unfold asB at hr
    rw [decide_eq_false (by omega)] at hr
    exact absurd hr (by decide)
theorem nx_some {f : Six} {s r : Int} (h : Nx1 f s r) (hr : asB r = true) : s + 62135596800 + 1 ≤ r ∧ r < BY (Yx (s + 62135596800 + 1) + 5) ∧ fits f r = true ∧ (∀ z, s + 62135596800 + 1 ≤ z → z < r → fits f z = false) := by
  rcases h with ⟨h, -⟩ | h
  · unfold asB at hr
    rw [h] at hr
    exact absurd hr (by decide)
  · exact h
theorem asI_of {r : Int} (hr : asB r = true) : asI r = r - 62135596800 := by
  unfold asI
  unfold asB at hr
  by_cases h : r = 0
  · rw [h] at hr
    exact absurd hr (by decide)
  · rw [if_neg h]
    omega
abbrev Nr (w : World) (ev : Bool) (f g : Six) (d s n : Int) (W : World) : Prop := W.cell? ⟨w.heap.size, 0, none⟩ = some (.bool ev) ∧ W.cell? ⟨w.heap.size, 1, none⟩ = some (.int .i64 d) ∧ W.cell? ⟨w.heap.size, 2, none⟩ = some (.int .u64 f.se) ∧ W.cell? ⟨w.heap.size, 3, none⟩ = some (.int .u64 f.mi) ∧ W.cell? ⟨w.heap.size, 4, none⟩ = some (.int .u64 f.ho) ∧ W.cell? ⟨w.heap.size, 5, none⟩ = some (.int .u64 f.dom) ∧ W.cell? ⟨w.heap.size, 6, none⟩ = some (.int .u64 f.mo) ∧ W.cell? ⟨w.heap.size, 7, none⟩ = some (.int .u64 f.dow) ∧ W.cell? ⟨w.heap.size + 1 + 1, 0, none⟩ = some (.int .i64 s) ∧ W.cell? ⟨w.heap.size + 1 + 1, 1, none⟩ = some (.int .i64 n) ∧ W.cell? ⟨w.heap.size + 1 + 1 + 1, 0, none⟩ = some (.bool false) ∧ W.cell? ⟨w.heap.size + 1 + 1 + 1, 1, none⟩ = some (.int .i64 0) ∧ W.cell? ⟨w.heap.size + 1 + 1 + 1, 2, none⟩ = some (.int .u64 g.se) ∧ W.cell? ⟨w.heap.size + 1 + 1 + 1, 3, none⟩ = some (.int .u64 g.mi) ∧ W.cell? ⟨w.heap.size + 1 + 1 + 1, 4, none⟩ = some (.int .u64 g.ho) ∧ W.cell? ⟨w.heap.size + 1 + 1 + 1, 5, none⟩ = some (.int .u64 g.dom) ∧ W.cell? ⟨w.heap.size + 1 + 1 + 1, 6, none⟩ = some (.int .u64 g.mo) ∧ W.cell? ⟨w.heap.size + 1 + 1 + 1, 7, none⟩ = some (.int .u64 g.dow) ∧ Hid (Below w.heap.size w W)
theorem nr_on {w : World} {ev : Bool} {f g : Six} {d s n : Int} {W W' : World} (hb : Below W.heap.size W W') (h : Nr w ev f g d s n W) : Nr w ev f g d s n W' := by
  obtain ⟨a0, a1, a2, a3, a4, a5, a6, a7, a8, a9, a10, a11, a12, a13, a14, a15, a16, a17, hh⟩ := h
  exact ⟨cell_on hb a0, cell_on hb a1, cell_on hb a2, cell_on hb a3, cell_on hb a4, cell_on hb a5, cell_on hb a6, cell_on hb a7, cell_on hb a8, cell_on hb a9, cell_on hb a10, cell_on hb a11, cell_on hb a12, cell_on hb a13, cell_on hb a14, cell_on hb a15, cell_on hb a16, cell_on hb a17, Lib.hid (bl_on hh.out hb)⟩
theorem nr_set {w : World} {ev : Bool} {f g : Six} {d s n : Int} {W : World} {r : Nat} {u v : Int} (hr : w.heap.size ≤ r) (o0 : w.heap.size < r) (o1 : w.heap.size + 1 + 1 < r) (o2 : w.heap.size + 1 + 1 + 1 < r) (h : Nr w ev f g d s n W) : Nr w ev f g d s n ((W.setCell ⟨r, 0, none⟩ (.int .i64 u)).setCell ⟨r, 1, none⟩ (.int .i64 v)) := by
  obtain ⟨a0, a1, a2, a3, a4, a5, a6, a7, a8, a9, a10, a11, a12, a13, a14, a15, a16, a17, hh⟩ := h
  have n0 : w.heap.size ≠ r := by omega
  have n1 : w.heap.size + 1 + 1 ≠ r := by omega
  have n2 : w.heap.size + 1 + 1 + 1 ≠ r := by omega
  exact ⟨cell_room n0 a0, cell_room n0 a1, cell_room n0 a2, cell_room n0 a3, cell_room n0 a4, cell_room n0 a5, cell_room n0 a6, cell_room n0 a7, cell_room n1 a8, cell_room n1 a9, cell_room n2 a10, cell_room n2 a11, cell_room n2 a12, cell_room n2 a13, cell_room n2 a14, cell_room n2 a15, cell_room n2 a16, cell_room n2 a17, Lib.hid (bl_set (bl_set hh.out (by exact hr) _) (by exact hr) _)⟩
theorem nr_lt {w : World} {ev : Bool} {f g : Six} {d s n : Int} {W : World} (h : Nr w ev f g d s n W) : w.heap.size ≤ W.heap.size ∧ w.heap.size < W.heap.size ∧ w.heap.size + 1 + 1 < W.heap.size ∧ w.heap.size + 1 + 1 + 1 < W.heap.size := by
  obtain ⟨a0, a1, a2, a3, a4, a5, a6, a7, a8, a9, a10, a11, a12, a13, a14, a15, a16, a17, hh⟩ := h
  exact ⟨hh.out.size, World.block_lt_of_cell? _ _ a0, World.block_lt_of_cell? _ _ a8, World.block_lt_of_cell? _ _ a10⟩
theorem nr_bel {w : World} {ev : Bool} {f g : Six} {d s n : Int} {W : World} (h : Nr w ev f g d s n W) : Below w.heap.size w W := by
  obtain ⟨-, -, -, -, -, -, -, -, -, -, -, -, -, -, -, -, -, -, hh⟩ := h
  exact hh.out
abbrev Ns (w : World) (ev : Bool) (f g : Six) (d s n : Int) (q : Nat) (a : Int) (W : World) : Prop := W.cell? ⟨w.heap.size, 0, none⟩ = some (.bool ev) ∧ W.cell? ⟨w.heap.size, 1, none⟩ = some (.int .i64 d) ∧ W.cell? ⟨w.heap.size, 2, none⟩ = some (.int .u64 f.se) ∧ W.cell? ⟨w.heap.size, 3, none⟩ = some (.int .u64 f.mi) ∧ W.cell? ⟨w.heap.size, 4, none⟩ = some (.int .u64 f.ho) ∧ W.cell? ⟨w.heap.size, 5, none⟩ = some (.int .u64 f.dom) ∧ W.cell? ⟨w.heap.size, 6, none⟩ = some (.int .u64 f.mo) ∧ W.cell? ⟨w.heap.size, 7, none⟩ = some (.int .u64 f.dow) ∧ W.cell? ⟨w.heap.size + 1 + 1, 0, none⟩ = some (.int .i64 s) ∧ W.cell? ⟨w.heap.size + 1 + 1, 1, none⟩ = some (.int .i64 n) ∧ W.cell? ⟨w.heap.size + 1 + 1 + 1, 0, none⟩ = some (.bool false) ∧ W.cell? ⟨w.heap.size + 1 + 1 + 1, 1, none⟩ = some (.int .i64 0) ∧ W.cell? ⟨w.heap.size + 1 + 1 + 1, 2, none⟩ = some (.int .u64 g.se) ∧ W.cell? ⟨w.heap.size + 1 + 1 + 1, 3, none⟩ = some (.int .u64 g.mi) ∧ W.cell? ⟨w.heap.size + 1 + 1 + 1, 4, none⟩ = some (.int .u64 g.ho) ∧ W.cell? ⟨w.heap.size + 1 + 1 + 1, 5, none⟩ = some (.int .u64 g.dom) ∧ W.cell? ⟨w.heap.size + 1 + 1 + 1, 6, none⟩ = some (.int .u64 g.mo) ∧ W.cell? ⟨w.heap.size + 1 + 1 + 1, 7, none⟩ = some (.int .u64 g.dow) ∧ W.cell? ⟨q, 0, none⟩ = some (.int .i64 a) ∧ W.cell? ⟨q, 1, none⟩ = some (.int .i64 0) ∧ Hid (Below w.heap.size w W)
theorem ns_on {w : World} {ev : Bool} {f g : Six} {d s n : Int} {q : Nat} {a : Int} {W W' : World} (hb : Below W.heap.size W W') (h : Ns w ev f g d s n q a W) : Ns w ev f g d s n q a W' := by
  obtain ⟨a0, a1, a2, a3, a4, a5, a6, a7, a8, a9, a10, a11, a12, a13, a14, a15, a16, a17, a18, a19, hh⟩ := h
  exact ⟨cell_on hb a0, cell_on hb a1, cell_on hb a2, cell_on hb a3, cell_on hb a4, cell_on hb a5, cell_on hb a6, cell_on hb a7, cell_on hb a8, cell_on hb a9, cell_on hb a10, cell_on hb a11, cell_on hb a12, cell_on hb a13, cell_on hb a14, cell_on hb a15, cell_on hb a16, cell_on hb a17, cell_on hb a18, cell_on hb a19, Lib.hid (bl_on hh.out hb)⟩
theorem ns_set {w : World} {ev : Bool} {f g : Six} {d s n : Int} {q : Nat} {a : Int} {W : World} {r : Nat} {u v : Int} (hr : w.heap.size ≤ r) (o0 : w.heap.size < r) (o1 : w.heap.size + 1 + 1 < r) (o2 : w.heap.size + 1 + 1 + 1 < r) (o3 : q < r) (h : Ns w ev f g d s n q a W) : Ns w ev f g d s n q a ((W.setCell ⟨r, 0, none⟩ (.int .i64 u)).setCell ⟨r, 1, none⟩ (.int .i64 v)) := by
  obtain ⟨a0, a1, a2, a3, a4, a5, a6, a7, a8, a9, a10, a11, a12, a13, a14, a15, a16, a17, a18, a19, hh⟩ := h
  have n0 : w.heap.size ≠ r := by omega
  have n1 : w.heap.size + 1 + 1 ≠ r := by omega
  have n2 : w.heap.size + 1 + 1 + 1 ≠ r := by omega
  have n3 : q ≠ r := by omega
  exact ⟨cell_room n0 a0, cell_room n0 a1, cell_room n0 a2, cell_room n0 a3, cell_room n0 a4, cell_room n0 a5, cell_room n0 a6, cell_room n0 a7, cell_room n1 a8, cell_room n1 a9, cell_room n2 a10, cell_room n2 a11, cell_room n2 a12, cell_room n2 a13, cell_room n2 a14, cell_room n2 a15, cell_room n2 a16, cell_room n2 a17, cell_room n3 a18, cell_room n3 a19, Lib.hid (bl_set (bl_set hh.out (by exact hr) _) (by exact hr) _)⟩
theorem ns_lt {w : World} {ev : Bool} {f g : Six} {d s n : Int} {q : Nat} {a : Int} {W : World} (h : Ns w ev f g d s n q a W) : w.heap.size ≤ W.heap.size ∧ w.heap.size < W.heap.size ∧ w.heap.size + 1 + 1 < W.heap.size ∧ w.heap.size + 1 + 1 + 1 < W.heap.size ∧ q < W.heap.size := by
  obtain ⟨a0, a1, a2, a3, a4, a5, a6, a7, a8, a9, a10, a11, a12, a13, a14, a15, a16, a17, a18, a19, hh⟩ := h
  exact ⟨hh.out.size, World.block_lt_of_cell? _ _ a0, World.block_lt_of_cell? _ _ a8, World.block_lt_of_cell? _ _ a10, World.block_lt_of_cell? _ _ a18⟩
theorem ns_bel {w : World} {ev : Bool} {f g : Six} {d s n : Int} {q : Nat} {a : Int} {W : World} (h : Ns w ev f g d s n q a W) : Below w.heap.size w W := by
  obtain ⟨-, -, -, -, -, -, -, -, -, -, -, -, -, -, -, -, -, -, -, -, hh⟩ := h
  exact hh.out
abbrev Nt (w : World) (ev : Bool) (f g : Six) (d s n : Int) (q : Nat) (a : Int) (q2 : Nat) (b : Int) (W : World) : Prop := W.cell? ⟨w.heap.size, 0, none⟩ = some (.bool ev) ∧ W.cell? ⟨w.heap.size, 1, none⟩ = some (.int .i64 d) ∧ W.cell? ⟨w.heap.size, 2, none⟩ = some (.int .u64 f.se) ∧ W.cell? ⟨w.heap.size, 3, none⟩ = some (.int .u64 f.mi) ∧ W.cell? ⟨w.heap.size, 4, none⟩ = some (.int .u64 f.ho) ∧ W.cell? ⟨w.heap.size, 5, none⟩ = some (.int .u64 f.dom) ∧ W.cell? ⟨w.heap.size, 6, none⟩ = some (.int .u64 f.mo) ∧ W.cell? ⟨w.heap.size, 7, none⟩ = some (.int .u64 f.dow) ∧ W.cell? ⟨w.heap.size + 1 + 1, 0, none⟩ = some (.int .i64 s) ∧ W.cell? ⟨w.heap.size + 1 + 1, 1, none⟩ = some (.int .i64 n) ∧ W.cell? ⟨w.heap.size + 1 + 1 + 1, 0, none⟩ = some (.bool false) ∧ W.cell? ⟨w.heap.size + 1 + 1 + 1, 1, none⟩ = some (.int .i64 0) ∧ W.cell? ⟨w.heap.size + 1 + 1 + 1, 2, none⟩ = some (.int .u64 g.se) ∧ W.cell? ⟨w.heap.size + 1 + 1 + 1, 3, none⟩ = some (.int .u64 g.mi) ∧ W.cell? ⟨w.heap.size + 1 + 1 + 1, 4, none⟩ = some (.int .u64 g.ho) ∧ W.cell? ⟨w.heap.size + 1 + 1 + 1, 5, none⟩ = some (.int .u64 g.dom) ∧ W.cell? ⟨w.heap.size + 1 + 1 + 1, 6, none⟩ = some (.int .u64 g.mo) ∧ W.cell? ⟨w.heap.size + 1 + 1 + 1, 7, none⟩ = some (.int .u64 g.dow) ∧ W.cell? ⟨q, 0, none⟩ = some (.int .i64 a) ∧ W.cell? ⟨q, 1, none⟩ = some (.int .i64 0) ∧ W.cell? ⟨q2, 0, none⟩ = some (.int .i64 b) ∧ W.cell? ⟨q2, 1, none⟩ = some (.int .i64 0) ∧ Hid (Below w.heap.size w W)
theorem nt_on {w : World} {ev : Bool} {f g : Six} {d s n : Int} {q : Nat} {a : Int} {q2 : Nat} {b : Int} {W W' : World} (hb : Below W.heap.size W W') (h : Nt w ev f g d s n q a q2 b W) : Nt w ev f g d s n q a q2 b W' := by
  obtain ⟨a0, a1, a2, a3, a4, a5, a6, a7, a8, a9, a10, a11, a12, a13, a14, a15, a16, a17, a18, a19, a20, a21, hh⟩ := h
  exact ⟨cell_on hb a0, cell_on hb a1, cell_on hb a2, cell_on hb a3, cell_on hb a4, cell_on hb a5, cell_on hb a6, cell_on hb a7, cell_on hb a8, cell_on hb a9, cell_on hb a10, cell_on hb a11, cell_on hb a12, cell_on hb a13, cell_on hb a14, cell_on hb a15, cell_on hb a16, cell_on hb a17, cell_on hb a18, cell_on hb a19, cell_on hb a20, cell_on hb a21, Lib.hid (bl_on hh.out hb)⟩
theorem nt_set {w : World} {ev : Bool} {f g : Six} {d s n : Int} {q : Nat} {a : Int} {q2 : Nat} {b : Int} {W : World} {r : Nat} {u v : Int} (hr : w.heap.size ≤ r) (o0 : w.heap.size < r) (o1 : w.heap.size + 1 + 1 < r) (o2 : w.heap.size + 1 + 1 + 1 < r) (o3 : q < r) (o4 : q2 < r) (h : Nt w ev f g d s n q a q2 b W) : Nt w ev f g d s n q a q2 b ((W.setCell ⟨r, 0, none⟩ (.int .i64 u)).setCell ⟨r, 1, none⟩ (.int .i64 v)) := by
  obtain ⟨a0, a1, a2, a3, a4, a5, a6, a7, a8, a9, a10, a11, a12, a13, a14, a15, a16, a17, a18, a19, a20, a21, hh⟩ := h
  have n0 : w.heap.size ≠ r := by omega
  have n1 : w.heap.size + 1 + 1 ≠ r := by omega
  have n2 : w.heap.size + 1 + 1 + 1 ≠ r := by omega
  have n3 : q ≠ r := by omega
  have n4 : q2 ≠ r := by omega
  exact ⟨cell_room n0 a0, cell_room n0 a1, cell_room n0 a2, cell_room n0 a3, cell_room n0 a4, cell_room n0 a5, cell_room n0 a6, cell_room n0 a7, cell_room n1 a8, cell_room n1 a9, cell_room n2 a10, cell_room n2 a11, cell_room n2 a12, cell_room n2 a13, cell_room n2 a14, cell_room n2 a15, cell_room n2 a16, cell_room n2 a17, cell_room n3 a18, cell_room n3 a19, cell_room n4 a20, cell_room n4 a21, Lib.hid (bl_set (bl_set hh.out (by exact hr) _) (by exact hr) _)⟩
theorem nt_lt {w : World} {ev : Bool} {f g : Six} {d s n : Int} {q : Nat} {a : Int} {q2 : Nat} {b : Int} {W : World} (h : Nt w ev f g d s n q a q2 b W) : w.heap.size ≤ W.heap.size ∧ w.heap.size < W.heap.size ∧ w.heap.size + 1 + 1 < W.heap.size ∧ w.heap.size + 1 + 1 + 1 < W.heap.size ∧ q < W.heap.size ∧ q2 < W.heap.size := by
  obtain ⟨a0, a1, a2, a3, a4, a5, a6, a7, a8, a9, a10, a11, a12, a13, a14, a15, a16, a17, a18, a19, a20, a21, hh⟩ := h
  exact ⟨hh.out.size, World.block_lt_of_cell? _ _ a0, World.block_lt_of_cell? _ _ a8, World.block_lt_of_cell? _ _ a10, World.block_lt_of_cell? _ _ a18, World.block_lt_of_cell? _ _ a20⟩
theorem nt_bel {w : World} {ev : Bool} {f g : Six} {d s n : Int} {q : Nat} {a : Int} {q2 : Nat} {b : Int} {W : World} (h : Nt w ev f g d s n q a q2 b W) : Below w.heap.size w W := by
  obtain ⟨-, -, -, -, -, -, -, -, -, -, -, -, -, -, -, -, -, -, -, -, -, -, hh⟩ := h
  exact hh.out
theorem ns_mk {w : World} {ev : Bool} {f g : Six} {d s n : Int} {q : Nat} {a : Int} {W : World} (h : Nr w ev f g d s n W) (h0 : W.cell? ⟨q, 0, none⟩ = some (.int .i64 a)) (h1 : W.cell? ⟨q, 1, none⟩ = some (.int .i64 0)) : Ns w ev f g d s n q a W := by
  obtain ⟨a0, a1, a2, a3, a4, a5, a6, a7, a8, a9, a10, a11, a12, a13, a14, a15, a16, a17, hh⟩ := h
  exact ⟨a0, a1, a2, a3, a4, a5, a6, a7, a8, a9, a10, a11, a12, a13, a14, a15, a16, a17, h0, h1, hh⟩
theorem nt_mk {w : World} {ev : Bool} {f g : Six} {d s n : Int} {q : Nat} {a : Int} {q2 : Nat} {b : Int} {W : World} (h : Ns w ev f g d s n q a W) (h0 : W.cell? ⟨q2, 0, none⟩ = some (.int .i64 b)) (h1 : W.cell? ⟨q2, 1, none⟩ = some (.int .i64 0)) : Nt w ev f g d s n q a q2 b W := by
  obtain ⟨a0, a1, a2, a3, a4, a5, a6, a7, a8, a9, a10, a11, a12, a13, a14, a15, a16, a17, a18, a19, hh⟩ := h
  exact ⟨a0, a1, a2, a3, a4, a5, a6, a7, a8, a9, a10, a11, a12, a13, a14, a15, a16, a17, a18, a19, h0, h1, hh⟩
theorem nr_start (w : World) (ev ev2 : Bool) (f g h : Six) (d d2 s n : Int) : Nr w ev f g d s n ((((w.alloc (schO ev f d)).alloc (schO ev2 h d2)).alloc (io s n)).alloc (schO false g 0)) := by
  have b0 := heap_old (o' := schO false g 0) (heap_old (o' := io s n) (heap_old (o' := schO ev2 h d2) (heap_new0 w _ (schO ev f d) rfl)))
  have b1 := heap_old (o' := schO false g 0) (heap_new0 ((w.alloc (schO ev f d)).alloc (schO ev2 h d2)) (w.heap.size + 1 + 1) (io s n) (by simp))
  have b2 := heap_new0 (((w.alloc (schO ev f d)).alloc (schO ev2 h d2)).alloc (io s n)) (w.heap.size + 1 + 1 + 1) (schO false g 0) (by simp)
  exact ⟨(blk_cell b0 0).trans rfl, (blk_cell b0 1).trans rfl, (blk_cell b0 2).trans rfl, (blk_cell b0 3).trans rfl, (blk_cell b0 4).trans rfl, (blk_cell b0 5).trans rfl, (blk_cell b0 6).trans rfl, (blk_cell b0 7).trans rfl, (blk_cell b1 0).trans rfl, (blk_cell b1 1).trans rfl, (blk_cell b2 0).trans rfl, (blk_cell b2 1).trans rfl, (blk_cell b2 2).trans rfl, (blk_cell b2 3).trans rfl, (blk_cell b2 4).trans rfl, (blk_cell b2 5).trans rfl, (blk_cell b2 6).trans rfl, (blk_cell b2 7).trans rfl, Lib.hid (by repeat (first | exact Below.refl _ _ | apply bl_alloc))⟩
end Go.Proofs.Ytdgglkihiibmhaa
