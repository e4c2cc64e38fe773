/-
  The specification's sets of values: their cells; what bits mean.
-/
import Derived.Test.YtdgglkihiibmhaaSpc
import Derived.Deep.MidRow
import Derived.Deep.WholeRow
import Derived.Laws.NewBlocks
set_option linter.unusedVariables false
set_option linter.unusedSimpArgs false
namespace Go.Proofs.Ytdgglkihiibmhaa
open Go Go.RowKit Cal Go.Proofs.YtdgglkihiibmhaaW.PrintLast

/-- n marks -/
def bs (n : Nat) (A : Nat → Bool) : Array Value := Array.ofFn (n := n) fun i => .bool (A i)
theorem bs_size (n : Nat) (A : Nat → Bool) : (bs n A).size = n := by unfold bs; simp
theorem bs_get (n : Nat) (A : Nat → Bool) (i : Nat) (h : i < n) : (bs n A)[i]? = some (.bool (A i)) := by unfold bs; simp [Array.getElem?_ofFn, h]
theorem bs_one (n : Nat) (A : Nat → Bool) : (bs n A).all (·.oneCell') = true := by
  rw [Array.all_eq_true_iff_forall_mem]
  intro v hv
  unfold bs at hv
  rw [Array.mem_ofFn] at hv
  obtain ⟨i, rfl⟩ := hv
  rfl
theorem bs_set (n : Nat) (A : Nat → Bool) (i : Nat) (b : Bool) : (bs n A).setIfInBounds i (.bool b) = bs n (fun j => if j = i then b else A j) := by
  apply Array.ext_getElem?
  intro j
  rw [Array.getElem?_setIfInBounds]
  by_cases h : j < n
  · rw [bs_get _ _ j h, bs_get _ _ j h, bs_size]
    by_cases e : i = j
    · subst e
      simp [h]
    · have e2 : ¬ j = i := fun x => e x.symm
      simp [e, e2]
  · have h1 : (bs n A)[j]? = none := by rw [Array.getElem?_eq_none]; rw [bs_size]; omega
    have h2 : (bs n (fun j => if j = i then b else A j))[j]? = none := by rw [Array.getElem?_eq_none]; rw [bs_size]; omega
    rw [h1, h2, bs_size]
    by_cases e : i = j
    · simp [e, h]
    · simp [e]
theorem bs_ext {n : Nat} {A B : Nat → Bool} (h : ∀ i, i < n → A i = B i) : bs n A = bs n B := by
  unfold bs
  congr 1
  funext i
  rw [h i i.2]
/-- the bounds of a field -/
def lowK (k : Nat) : Nat := if k = 3 ∨ k = 4 then 1 else 0
def highK (k : Nat) : Nat := if k = 2 then 23 else if k = 3 then 31 else if k = 4 then 12 else if k = 5 then 6 else 59
/-- the marks that bits make of a field: a star, its values -/
def setM (k b : Nat) (j : Nat) : Bool := if j = 0 then b.testBit 63 else decide (lowK k ≤ j - 1) && decide (j - 1 ≤ highK k) && b.testBit (j - 1)
theorem low_any (k : Nat) (hk : k < 6) (w : World) : Calls Try.prog 52 #[.int .i64 (k : Int)] w fun e w' => e = .returned (.int .i64 (lowK k : Int)) ∧ w' = w := by
  have h : k = 0 ∨ k = 1 ∨ k = 2 ∨ k = 3 ∨ k = 4 ∨ k = 5 := by omega
  clear hk
  rcases h with rfl | rfl | rfl | rfl | rfl | rfl
  all_goals
    go_enter Try.func52, Try.ntmps52
    go_wp2
    go_ret
    exact ⟨rfl, rfl⟩
theorem high_any (k : Nat) (hk : k < 6) (w : World) : Calls Try.prog 53 #[.int .i64 (k : Int)] w fun e w' => e = .returned (.int .i64 (highK k : Int)) ∧ w' = w := by
  have h : k = 0 ∨ k = 1 ∨ k = 2 ∨ k = 3 ∨ k = 4 ∨ k = 5 := by omega
  clear hk
  rcases h with rfl | rfl | rfl | rfl | rfl | rfl
  all_goals
    go_enter Try.func53, Try.ntmps53
    go_wp2
    go_ret
    exact ⟨rfl, rfl⟩
/-- the marks, as far as they are made -/
def setP (k b : Nat) (v : Int) (j : Nat) : Bool := decide (0 < j) && decide (lowK k ≤ j - 1) && decide (((j - 1 : Nat) : Int) < v) && b.testBit (j - 1)
theorem blk_put {W : World} {g i : Nat} {C : Array Value} {t : TypeId} {v : Value} (h : W.heap[g]? = some (.cells C t)) : (W.setCell ⟨g, i, none⟩ v).heap[g]? = some (.cells (C.setIfInBounds i v) t) := by
  rw [setCell_eq_setRow W g i C t (0, 0) v h]
  exact setRow_heap W g C _ t (0, 0) h
theorem blk_row {W : World} {g : Nat} {C C' : Array Value} {t : TypeId} (h : W.heap[g]? = some (.cells C t)) : (W.setRow g C').heap[g]? = some (.cells C' t) := setRow_heap W g C _ t (0, 0) h
theorem row_out {W : World} {g q : Nat} {C' : Array Value} (h : q ≠ g) : (W.setRow g C').heap[q]? = W.heap[q]? := by
  unfold World.setRow
  simp only
  rw [Array.getElem?_modify, if_neg (fun e => h e.symm)]
theorem blk_out {W : World} {g i q : Nat} {v : Value} (h : q ≠ g) : (W.setCell ⟨g, i, none⟩ v).heap[q]? = W.heap[q]? := Below.heap_setCell _ _ _ _ (by exact h)
theorem bl_row {w W : World} {g : Nat} {C' : Array Value} (h : Below w.heap.size w W) (hg : w.heap.size ≤ g) : Below w.heap.size w (W.setRow g C') :=
  ⟨h.os, h.tape, h.output, by rw [setRow_size]; exact h.size, fun q hq => by rw [row_out (by omega)]; exact h.block q hq⟩
theorem bit1 (b : Nat) (v : Int) (hb : b < 2 ^ 64) (v0 : 0 ≤ v) : (bits .and .u64 ((b : Int) / 2 ^ v.toNat) 1 == 1) = b.testBit v.toNat := by
  have e : (b : Int) / 2 ^ v.toNat = ((b / 2 ^ v.toNat : Nat) : Int) := by push_cast; rfl
  have hlt : b / 2 ^ v.toNat < 2 ^ 64 := Nat.lt_of_le_of_lt (Nat.div_le_self _ _) hb
  rw [e, show (1 : Int) = ((1 : Nat) : Int) from rfl, bits_and_nat _ _ hlt (by decide), Nat.and_one_is_mod, Nat.testBit_eq_decide_div_mod_eq]
  by_cases h : b / 2 ^ v.toNat % 2 = 1
  · rw [h]; rfl
  · have h0 : b / 2 ^ v.toNat % 2 = 0 := by omega
    rw [h0]; rfl
theorem setP_step (k b : Nat) (v : Int) (v0 : 0 ≤ v) (hl : (lowK k : Int) ≤ v) : (bs 64 (setP k b v)).setIfInBounds (1 + v.toNat) (.bool (b.testBit v.toNat)) = bs 64 (setP k b (v + 1)) := by
  rw [bs_set]
  refine bs_ext fun j hj => ?_
  unfold setP
  by_cases e : j = 1 + v.toNat
  · have e2 : 1 + v.toNat - 1 = v.toNat := by omega
    rw [if_pos e, e, e2, decide_eq_true (show 0 < 1 + v.toNat by omega), decide_eq_true (show lowK k ≤ v.toNat by omega), decide_eq_true (show ((v.toNat : Nat) : Int) < v + 1 by omega)]
    rfl
  · rw [if_neg e]
    by_cases z : j = 0
    · rw [decide_eq_false (show ¬ 0 < j by omega)]
      rfl
    · by_cases c : ((j - 1 : Nat) : Int) < v
      · rw [decide_eq_true c, decide_eq_true (show ((j - 1 : Nat) : Int) < v + 1 by omega)]
      · rw [decide_eq_false c, decide_eq_false (show ¬ ((j - 1 : Nat) : Int) < v + 1 by omega)]
theorem setP_end (k b : Nat) (v : Int) (hv : v = highK k + 1) : (bs 64 (setP k b v)).setIfInBounds 0 (.bool (b.testBit 63)) = bs 64 (setM k b) := by
  rw [bs_set]
  refine bs_ext fun j hj => ?_
  unfold setP setM
  by_cases e : j = 0
  · rw [if_pos e, if_pos e]
  · rw [if_neg e, if_neg e, decide_eq_true (show 0 < j by omega), Bool.true_and]
    by_cases c : j - 1 ≤ highK k
    · rw [decide_eq_true c, decide_eq_true (show ((j - 1 : Nat) : Int) < v by omega)]
    · rw [decide_eq_false c, decide_eq_false (show ¬ ((j - 1 : Nat) : Int) < v by omega)]
theorem setP_zero (k b : Nat) : bs 64 (setP k b (lowK k)) = bs 64 (fun _ => false) := by
  refine bs_ext fun j hj => ?_
  unfold setP
  by_cases c : lowK k ≤ j - 1
  · rw [decide_eq_false (show ¬ ((j - 1 : Nat) : Int) < lowK k by omega)]
    simp
  · rw [decide_eq_false c]
    simp
theorem bs_zero64 : (#[.bool false, .bool false, .bool false, .bool false, .bool false, .bool false, .bool false, .bool false, .bool false, .bool false, .bool false, .bool false, .bool false, .bool false, .bool false, .bool false, .bool false, .bool false, .bool false, .bool false, .bool false, .bool false, .bool false, .bool false, .bool false, .bool false, .bool false, .bool false, .bool false, .bool false, .bool false, .bool false, .bool false, .bool false, .bool false, .bool false, .bool false, .bool false, .bool false, .bool false, .bool false, .bool false, .bool false, .bool false, .bool false, .bool false, .bool false, .bool false, .bool false, .bool false, .bool false, .bool false, .bool false, .bool false, .bool false, .bool false, .bool false, .bool false, .bool false, .bool false, .bool false, .bool false, .bool false, .bool false] : Array Value) = bs 64 (fun _ => false) := by kernel_rfl
set_option maxHeartbeats 2000000 in
theorem setOf_any (k b : Nat) (hk : k < 6) (hb : b < 2 ^ 64) (w : World) : Calls Try.prog 33 #[.int .i64 (k : Int), .int .u64 (b : Int)] w fun e w' => e = .returned (.agg (bs 64 (setM k b))) ∧ Below w.heap.size w w' := by
  have HBB := Lib.hid hb
  go_enter Try.func33, Try.ntmps33
  go_wp2_with (first
    | (go_at_call 52; with_reducible refine (low_any k hk _).mono ?_; rintro e w1 ⟨rfl, rfl⟩))
  go_loopg [6] (64 - (lowK k : Int)).toNat (fun g v6 w' => ∃ v : Int, v6 = .int .i64 v ∧ Hid ((lowK k : Int) ≤ v ∧ v ≤ highK k + 1 ∧ g = (64 - v).toNat) ∧ Hid (w'.heap[w.heap.size]? = some (.cells (bs 64 fun _ => false) 44) ∧ w'.heap[w.heap.size + 1]? = some (.cells (bs 64 (setP k b v)) 44) ∧ Below w.heap.size w w'))
  case atStart =>
    have hl : lowK k ≤ 1 ∧ 6 ≤ highK k := by unfold lowK highK; (repeat' split) <;> omega
    refine ⟨_, rfl, Lib.hid ⟨by omega, by omega, by omega⟩, Lib.hid ⟨?_, ?_, ?_⟩⟩
    · rw [bs_zero64]
      exact heap_old (heap_new0 _ _ _ rfl)
    · rw [bs_zero64, setP_zero]
      exact heap_new0 _ _ _ (by simp)
    · repeat (first | exact Below.refl _ _ | apply bl_alloc)
  case round =>
    obtain ⟨v, rfl, HX, HW⟩ := hrel
    have HB1 := Lib.hid HW.out.2.1
    have hl : lowK k ≤ 1 ∧ highK k ≤ 59 := by unfold lowK highK; (repeat' split) <;> omega
    have hx := HX.out
    by_cases hc : v ≤ highK k
    · have HC := Lib.hid hc
      have hd := decide_eq_true hc
      have v0 : 0 ≤ v := by omega
      have v1 : v < 63 := by omega
      have hw : wrap64 (v + 1) = v + 1 := wi (by omega) (by omega)
      have hcell : wr.cell? ⟨w.heap.size + 1, 1 + v.toNat, none⟩ = some (.bool (setP k b v (1 + v.toNat))) := by
        rw [blk_cell HB1.out, bs_get _ _ _ (by omega)]
      have hfz : wr.frozen? ⟨w.heap.size + 1, 1 + v.toNat, none⟩ = false := blk_frozen HB1.out _
      clear hl hx hc
      go_wp2_with (first
        | (go_at_call 53; with_reducible refine (high_any k hk _).mono ?_; rintro e w1 ⟨rfl, rfl⟩))
      go_roundg (gk - 1)
      case measure =>
        have h := HX.out
        have := HC.out
        omega
      case rel =>
        have h := HX.out
        have hC := HC.out
        refine ⟨v + 1, rfl, Lib.hid ⟨by omega, by omega, by omega⟩, Lib.hid ⟨?_, ?_, ?_⟩⟩
        · rw [blk_out (by omega)]
          exact HW.out.1
        · rw [bit1 b v HBB.out v0]
          exact (blk_put HB1.out).trans (by rw [setP_step k b v v0 h.1])
        · exact bl_set HW.out.2.2 (by show _ ≤ w.heap.size + 1; omega) _
    · have HC := Lib.hid hc
      have hd := decide_eq_false hc
      have v0 : 0 ≤ v := by omega
      have hs := star_val b hb
      have hcell : wr.cell? ⟨w.heap.size + 1, 0, none⟩ = some (.bool (setP k b v 0)) := by
        rw [blk_cell HB1.out, bs_get _ _ _ (by omega)]
      have hfz : wr.frozen? ⟨w.heap.size + 1, 0, none⟩ = false := blk_frozen HB1.out _
      clear hl hx hc
      go_upto_region 7 with (first
        | (go_at_call 53; with_reducible refine (high_any k hk _).mono ?_; rintro e w1 ⟨rfl, rfl⟩))
      have hst : ((if Ytdgglkihiibmhaa.hb b 63 = true then (9223372036854775808 : Int) else 0) != 0) = b.testBit 63 := by
        unfold Ytdgglkihiibmhaa.hb
        show ((if b.testBit 63 = true then (9223372036854775808 : Int) else 0) != 0) = b.testBit 63
        cases b.testBit 63 <;> rfl
      rw [hst]
      have hv : v = highK k + 1 := by have h := HX.out; have := HC.out; omega
      have HBK := Lib.hid ((blk_put (v := .bool (b.testBit 63)) (i := 0) HB1.out).trans (by rw [setP_end k b v hv]))
      have HB0 := Lib.hid ((blk_out (g := w.heap.size + 1) (i := 0) (v := .bool (b.testBit 63)) (show w.heap.size ≠ w.heap.size + 1 by omega)).trans HW.out.1)
      have HBL := Lib.hid (bl_set (p := ⟨w.heap.size + 1, 0, none⟩) HW.out.2.2 (by show _ ≤ w.heap.size + 1; omega) (.bool (b.testBit 63)))
      generalize w1.setCell ⟨w.heap.size + 1, 0, none⟩ (.bool (b.testBit 63)) = W2 at *
      apply wp_region_lit
      refine wpList_load_row rfl 44 _ rfl (w.heap.size + 1) rfl 44 (bs 64 (setM k b)) (0, 0) _ HBK.out Try.underlying44 rfl (by rw [bs_size]; kernel_rfl) ?_
      refine wpList_store_row rfl 44 _ _ rfl w.heap.size (bs 64 (setM k b)) rfl rfl 44 (bs 64 fun _ => false) HB0.out (by rw [bs_size]; kernel_rfl) (by rw [bs_size, bs_size]) (bs_one _ _) ?_
      apply wpList_nil
      have HBE := Lib.hid (blk_row (C' := bs 64 (setM k b)) HB0.out)
      have HBF := Lib.hid (bl_row (C' := bs 64 (setM k b)) HBL.out (Nat.le_refl _))
      go_wp2_with fail
      all_goals refine bodyPost_ret (results_cell_row rfl _ _ w.heap.size 44 (bs 64 (setM k b)) (0, 0) _ rfl HBE.out Try.underlying44 rfl (by rw [bs_size]; kernel_rfl)) rfl ⟨rfl, HBF.out⟩
end Go.Proofs.Ytdgglkihiibmhaa
