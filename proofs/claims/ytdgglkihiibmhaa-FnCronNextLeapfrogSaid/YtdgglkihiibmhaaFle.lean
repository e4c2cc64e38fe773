/-
  The specification's fields of a schedule: their cells.
-/
import Derived.Test.YtdgglkihiibmhaaFld
import Derived.Test.YtdgglkihiibmhaaNxi
set_option linter.unusedVariables false
set_option linter.unusedSimpArgs false
namespace Go.Proofs.Ytdgglkihiibmhaa
open Go Go.RowKit Cal Go.Proofs.YtdgglkihiibmhaaW.PrintLast

/-- cells put in a row -/
def putL : Array Value → Nat → List Value → Array Value
  | C, _, [] => C
  | C, o, v :: r => putL (C.setIfInBounds o v) (o + 1) r
theorem blk_cells {g : Nat} {t : TypeId} : ∀ (l : List Value) (o : Nat) (W : World) (C : Array Value), W.heap[g]? = some (.cells C t) → (W.setCells g o l).heap[g]? = some (.cells (putL C o l) t)
  | [], o, W, C, h => h
  | v :: r, o, W, C, h => by
    rw [World.setCells, putL]
    exact blk_cells r (o + 1) _ _ (blk_put h)
theorem cells_out {g q : Nat} (hq : q ≠ g) : ∀ (l : List Value) (o : Nat) (W : World), (W.setCells g o l).heap[q]? = W.heap[q]?
  | [], o, W => rfl
  | v :: r, o, W => by
    rw [World.setCells, cells_out hq r (o + 1)]
    exact blk_out hq
theorem bl_cells {w : World} {g : Nat} (hg : w.heap.size ≤ g) : ∀ (l : List Value) (o : Nat) (W : World), Below w.heap.size w W → Below w.heap.size w (W.setCells g o l)
  | [], o, W, h => h
  | v :: r, o, W, h => by
    rw [World.setCells]
    exact bl_cells hg r (o + 1) _ (bl_set h (by exact hg) _)
theorem putL_bs (n : Nat) : ∀ (l : List Bool) (o : Nat) (A : Nat → Bool), putL (bs n A) o (l.map Value.bool) = bs n (fun j => if o ≤ j then (l[j - o]?).getD (A j) else A j)
  | [], o, A => by
    show bs n A = _
    refine bs_ext fun j hj => ?_
    simp
  | b :: r, o, A => by
    show putL ((bs n A).setIfInBounds o (.bool b)) (o + 1) (r.map Value.bool) = _
    rw [bs_set, putL_bs n r (o + 1)]
    refine bs_ext fun j hj => ?_
    by_cases h : o + 1 ≤ j
    · have e : j - o = (j - (o + 1)) + 1 := by omega
      rw [if_pos h, if_neg (show ¬ j = o by omega), if_pos (show o ≤ j by omega), e, List.getElem?_cons_succ]
    · rw [if_neg h]
      by_cases e : j = o
      · rw [if_pos e, if_pos (by omega), e, Nat.sub_self, List.getElem?_cons_zero]
        rfl
      · rw [if_neg e, if_neg (by omega)]
theorem bs_list (n : Nat) (A : Nat → Bool) : (bs n A).toList = ((List.range n).map A).map Value.bool := by
  apply List.ext_getElem?
  intro i
  rw [Array.getElem?_toList]
  by_cases h : i < n
  · rw [bs_get n A i h]
    simp [h]
  · have h1 : (bs n A)[i]? = none := by rw [Array.getElem?_eq_none]; rw [bs_size]; omega
    rw [h1]
    symm
    rw [List.getElem?_eq_none]
    simp
    omega
theorem putL_bs2 (n m o : Nat) (A B : Nat → Bool) : putL (bs n A) o (bs m B).toList = bs n (fun j => if o ≤ j ∧ j < o + m then B (j - o) else A j) := by
  rw [bs_list, putL_bs]
  refine bs_ext fun j hj => ?_
  by_cases h : o ≤ j
  · rw [if_pos h]
    by_cases h2 : j < o + m
    · rw [if_pos ⟨h, h2⟩]
      have : j - o < m := by omega
      simp [this]
    · rw [if_neg (fun c => h2 c.2)]
      have : ¬ j - o < m := by omega
      simp [this]
  · rw [if_neg h, if_neg (fun c => h c.1)]
/-- the bits of a field -/
def sixB (f : Six) (k : Nat) : Nat := if k = 0 then f.se else if k = 1 then f.mi else if k = 2 then f.ho else if k = 3 then f.dom else if k = 4 then f.mo else f.dow
theorem sixB_lt (f : Six) (k : Nat) : sixB f k < 2 ^ 64 := by
  unfold sixB
  have := f.h0; have := f.h1; have := f.h2; have := f.h3; have := f.h4; have := f.h5
  (repeat' split) <;> assumption
/-- the marks of a schedule's fields -/
def sixM (f : Six) (j : Nat) : Bool := setM (j / 64) (sixB f (j / 64)) (j % 64)
def sixP (f : Six) (i j : Nat) : Bool := decide (j < 64 * i) && sixM f j
theorem sixP_step (f : Six) (i : Nat) : putL (bs 384 (sixP f i)) (64 * i) (bs 64 (setM i (sixB f i))).toList = bs 384 (sixP f (i + 1)) := by
  rw [putL_bs2]
  refine bs_ext fun j hj => ?_
  unfold sixP sixM
  by_cases h : 64 * i ≤ j ∧ j < 64 * i + 64
  · have e : j / 64 = i := by omega
    have e2 : j % 64 = j - 64 * i := by omega
    rw [if_pos h, e, e2, decide_eq_true (show j < 64 * (i + 1) by omega), Bool.true_and]
  · rw [if_neg h]
    by_cases c : j < 64 * i
    · rw [decide_eq_true c, decide_eq_true (show j < 64 * (i + 1) by omega)]
    · rw [decide_eq_false c, decide_eq_false (show ¬ j < 64 * (i + 1) by omega)]
theorem sixP_end (f : Six) : bs 384 (sixP f 6) = bs 384 (sixM f) := bs_ext fun j hj => by
  unfold sixP
  rw [decide_eq_true (show j < 64 * 6 by omega), Bool.true_and]
theorem sixP_zero (f : Six) : bs 384 (sixP f 0) = bs 384 (fun _ => false) := bs_ext fun j hj => by
  unfold sixP
  rw [decide_eq_false (show ¬ j < 64 * 0 by omega)]
  rfl
theorem there_blk {W : World} {g n : Nat} {A : Nat → Bool} {t : TypeId} (h : W.heap[g]? = some (.cells (bs n A) t)) : ∀ o m, o + m ≤ n → W.there g o m := fun o m hm j hj => ⟨by rw [blk_cell h, bs_get _ _ _ (by omega)]; rfl, blk_frozen h _⟩
theorem setOf_z (k : Nat) (kz : Int) (b : Nat) (hk : k < 6) (hb : b < 2 ^ 64) (hz : kz = (k : Int)) (w : World) : Calls Try.prog 33 #[.int .i64 kz, .int .u64 (b : Int)] w fun e w' => e = .returned (.agg (bs 64 (setM k b))) ∧ Below w.heap.size w w' := by
  rw [hz]
  exact setOf_any k b hk hb w
abbrev six8 (d : Int) (f : Six) : Array Value := #[.bool false, .int .i64 d, .int .u64 f.se, .int .u64 f.mi, .int .u64 f.ho, .int .u64 f.dom, .int .u64 f.mo, .int .u64 f.dow]
set_option maxRecDepth 100000 in
set_option maxHeartbeats 4000000 in
theorem fieldsOf_any (f : Six) (d : Int) (w : World) : Calls Try.prog 17 #[sixV f d] w fun e w' => e = .returned (.agg (bs 384 (sixM f))) ∧ Below w.heap.size w w' := by
  have hz : ∀ w, (zeroValue 46).run Try.prog w = .ok (.agg (bs 384 fun _ => false)) w := (zero_of_info (n := 384) (by kernel_rfl)).1
  go_enter Try.func17, Try.ntmps17
  go_wp2_with fail
  go_loopg [4, 5, 19] 6 (fun g v4 v5 v19 w' => ∃ i : Int, v19 = .int .i64 i ∧ Hid (0 ≤ i ∧ i ≤ 6 ∧ (g : Int) = 6 - i) ∧ Hid (w'.heap[w.heap.size + 1]? = some (.cells (bs 384 fun _ => false) 46) ∧ w'.heap[w.heap.size + 1 + 1]? = some (.cells (bs 384 (sixP f i.toNat)) 46) ∧ Below w.heap.size w w'))
  case atStart =>
    refine ⟨0, rfl, Lib.hid ⟨by decide, by decide, rfl⟩, Lib.hid ⟨heap_old (heap_new0 _ _ _ (by simp)), ?_, ?_⟩⟩
    · rw [show (0 : Int).toNat = 0 from rfl, sixP_zero]
      exact heap_new0 _ _ _ (by simp)
    · repeat (first | exact Below.refl _ _ | apply bl_alloc)
  case round =>
    obtain ⟨i, rfl, HX, HW⟩ := hrel
    have hi : i = 0 ∨ i = 1 ∨ i = 2 ∨ i = 3 ∨ i = 4 ∨ i = 5 ∨ i = 6 := by have := HX.out; omega
    clear hz
    rcases hi with rfl | rfl | rfl | rfl | rfl | rfl | rfl
    · have hix : ∀ w, (Instr.index 76 (.agg #[.int .u64 (f.se : Int), .int .u64 (f.mi : Int), .int .u64 (f.ho : Int), .int .u64 (f.dom : Int), .int .u64 (f.mo : Int), .int .u64 (f.dow : Int)]) (.int .i64 0)).run Try.prog w = .ok (.int .u64 (f.se : Int)) w := fun _ => by kernel_rfl
      go_wp2_with (first
        | (go_at_call 33; with_reducible refine (setOf_z 0 0 f.se (by decide) f.h0 rfl _).mono ?_; rintro e w1 ⟨rfl, hb⟩; have HB0 := Lib.hid (blk_on hb HW.out.1); have HB1 := Lib.hid (blk_on hb HW.out.2.1); have HBL := Lib.hid (bl_on HW.out.2.2 hb); clear hb)
        | (with_reducible show wpList _ _ _ (Oper.mk _ (Op.store 44 _ _) _ _ _ _ :: _) _ _; refine wpList_store_mid rfl 44 _ _ rfl (w.heap.size + 1 + 1) 0 (bs 64 (setM 0 f.se)) rfl rfl (there_blk HB1.out _ _ (by rw [bs_size]; decide)) (by rw [bs_size]; kernel_rfl) (bs_one _ _) ?_; have HC1 := Lib.hid (blk_cells (bs 64 (setM 0 f.se)).toList 0 _ _ HB1.out); have HC0 := Lib.hid ((cells_out (g := w.heap.size + 1 + 1) (show w.heap.size + 1 ≠ w.heap.size + 1 + 1 by omega) (bs 64 (setM 0 f.se)).toList 0 _).trans HB0.out); have HCL := Lib.hid (bl_cells (g := w.heap.size + 1 + 1) (by omega) (bs 64 (setM 0 f.se)).toList 0 _ HBL.out); generalize w1.setCells (w.heap.size + 1 + 1) 0 (bs 64 (setM 0 f.se)).toList = W2 at *))
      go_roundg (gk - 1)
      case measure =>
        have := HX.out
        omega
      case rel =>
        have := HX.out
        exact ⟨1, rfl, Lib.hid ⟨by decide, by decide, by omega⟩, Lib.hid ⟨HC0.out, HC1.out.trans (by rw [show (0 : Int).toNat = 0 from rfl, show f.se = sixB f 0 from rfl, sixP_step f 0]; rfl), HCL.out⟩⟩
    · have hix : ∀ w, (Instr.index 76 (.agg #[.int .u64 (f.se : Int), .int .u64 (f.mi : Int), .int .u64 (f.ho : Int), .int .u64 (f.dom : Int), .int .u64 (f.mo : Int), .int .u64 (f.dow : Int)]) (.int .i64 1)).run Try.prog w = .ok (.int .u64 (f.mi : Int)) w := fun _ => by kernel_rfl
      go_wp2_with (first
        | (go_at_call 33; with_reducible refine (setOf_z 1 1 f.mi (by decide) f.h1 rfl _).mono ?_; rintro e w1 ⟨rfl, hb⟩; have HB0 := Lib.hid (blk_on hb HW.out.1); have HB1 := Lib.hid (blk_on hb HW.out.2.1); have HBL := Lib.hid (bl_on HW.out.2.2 hb); clear hb)
        | (with_reducible show wpList _ _ _ (Oper.mk _ (Op.store 44 _ _) _ _ _ _ :: _) _ _; refine wpList_store_mid rfl 44 _ _ rfl (w.heap.size + 1 + 1) 64 (bs 64 (setM 1 f.mi)) rfl rfl (there_blk HB1.out _ _ (by rw [bs_size]; decide)) (by rw [bs_size]; kernel_rfl) (bs_one _ _) ?_; have HC1 := Lib.hid (blk_cells (bs 64 (setM 1 f.mi)).toList 64 _ _ HB1.out); have HC0 := Lib.hid ((cells_out (g := w.heap.size + 1 + 1) (show w.heap.size + 1 ≠ w.heap.size + 1 + 1 by omega) (bs 64 (setM 1 f.mi)).toList 64 _).trans HB0.out); have HCL := Lib.hid (bl_cells (g := w.heap.size + 1 + 1) (by omega) (bs 64 (setM 1 f.mi)).toList 64 _ HBL.out); generalize w1.setCells (w.heap.size + 1 + 1) 64 (bs 64 (setM 1 f.mi)).toList = W2 at *))
      go_roundg (gk - 1)
      case measure =>
        have := HX.out
        omega
      case rel =>
        have := HX.out
        exact ⟨2, rfl, Lib.hid ⟨by decide, by decide, by omega⟩, Lib.hid ⟨HC0.out, HC1.out.trans (by rw [show (1 : Int).toNat = 1 from rfl, show f.mi = sixB f 1 from rfl, sixP_step f 1]; rfl), HCL.out⟩⟩
    · have hix : ∀ w, (Instr.index 76 (.agg #[.int .u64 (f.se : Int), .int .u64 (f.mi : Int), .int .u64 (f.ho : Int), .int .u64 (f.dom : Int), .int .u64 (f.mo : Int), .int .u64 (f.dow : Int)]) (.int .i64 2)).run Try.prog w = .ok (.int .u64 (f.ho : Int)) w := fun _ => by kernel_rfl
      go_wp2_with (first
        | (go_at_call 33; with_reducible refine (setOf_z 2 2 f.ho (by decide) f.h2 rfl _).mono ?_; rintro e w1 ⟨rfl, hb⟩; have HB0 := Lib.hid (blk_on hb HW.out.1); have HB1 := Lib.hid (blk_on hb HW.out.2.1); have HBL := Lib.hid (bl_on HW.out.2.2 hb); clear hb)
        | (with_reducible show wpList _ _ _ (Oper.mk _ (Op.store 44 _ _) _ _ _ _ :: _) _ _; refine wpList_store_mid rfl 44 _ _ rfl (w.heap.size + 1 + 1) 128 (bs 64 (setM 2 f.ho)) rfl rfl (there_blk HB1.out _ _ (by rw [bs_size]; decide)) (by rw [bs_size]; kernel_rfl) (bs_one _ _) ?_; have HC1 := Lib.hid (blk_cells (bs 64 (setM 2 f.ho)).toList 128 _ _ HB1.out); have HC0 := Lib.hid ((cells_out (g := w.heap.size + 1 + 1) (show w.heap.size + 1 ≠ w.heap.size + 1 + 1 by omega) (bs 64 (setM 2 f.ho)).toList 128 _).trans HB0.out); have HCL := Lib.hid (bl_cells (g := w.heap.size + 1 + 1) (by omega) (bs 64 (setM 2 f.ho)).toList 128 _ HBL.out); generalize w1.setCells (w.heap.size + 1 + 1) 128 (bs 64 (setM 2 f.ho)).toList = W2 at *))
      go_roundg (gk - 1)
      case measure =>
        have := HX.out
        omega
      case rel =>
        have := HX.out
        exact ⟨3, rfl, Lib.hid ⟨by decide, by decide, by omega⟩, Lib.hid ⟨HC0.out, HC1.out.trans (by rw [show (2 : Int).toNat = 2 from rfl, show f.ho = sixB f 2 from rfl, sixP_step f 2]; rfl), HCL.out⟩⟩
    · have hix : ∀ w, (Instr.index 76 (.agg #[.int .u64 (f.se : Int), .int .u64 (f.mi : Int), .int .u64 (f.ho : Int), .int .u64 (f.dom : Int), .int .u64 (f.mo : Int), .int .u64 (f.dow : Int)]) (.int .i64 3)).run Try.prog w = .ok (.int .u64 (f.dom : Int)) w := fun _ => by kernel_rfl
      go_wp2_with (first
        | (go_at_call 33; with_reducible refine (setOf_z 3 3 f.dom (by decide) f.h3 rfl _).mono ?_; rintro e w1 ⟨rfl, hb⟩; have HB0 := Lib.hid (blk_on hb HW.out.1); have HB1 := Lib.hid (blk_on hb HW.out.2.1); have HBL := Lib.hid (bl_on HW.out.2.2 hb); clear hb)
        | (with_reducible show wpList _ _ _ (Oper.mk _ (Op.store 44 _ _) _ _ _ _ :: _) _ _; refine wpList_store_mid rfl 44 _ _ rfl (w.heap.size + 1 + 1) 192 (bs 64 (setM 3 f.dom)) rfl rfl (there_blk HB1.out _ _ (by rw [bs_size]; decide)) (by rw [bs_size]; kernel_rfl) (bs_one _ _) ?_; have HC1 := Lib.hid (blk_cells (bs 64 (setM 3 f.dom)).toList 192 _ _ HB1.out); have HC0 := Lib.hid ((cells_out (g := w.heap.size + 1 + 1) (show w.heap.size + 1 ≠ w.heap.size + 1 + 1 by omega) (bs 64 (setM 3 f.dom)).toList 192 _).trans HB0.out); have HCL := Lib.hid (bl_cells (g := w.heap.size + 1 + 1) (by omega) (bs 64 (setM 3 f.dom)).toList 192 _ HBL.out); generalize w1.setCells (w.heap.size + 1 + 1) 192 (bs 64 (setM 3 f.dom)).toList = W2 at *))
      go_roundg (gk - 1)
      case measure =>
        have := HX.out
        omega
      case rel =>
        have := HX.out
        exact ⟨4, rfl, Lib.hid ⟨by decide, by decide, by omega⟩, Lib.hid ⟨HC0.out, HC1.out.trans (by rw [show (3 : Int).toNat = 3 from rfl, show f.dom = sixB f 3 from rfl, sixP_step f 3]; rfl), HCL.out⟩⟩
    · have hix : ∀ w, (Instr.index 76 (.agg #[.int .u64 (f.se : Int), .int .u64 (f.mi : Int), .int .u64 (f.ho : Int), .int .u64 (f.dom : Int), .int .u64 (f.mo : Int), .int .u64 (f.dow : Int)]) (.int .i64 4)).run Try.prog w = .ok (.int .u64 (f.mo : Int)) w := fun _ => by kernel_rfl
      go_wp2_with (first
        | (go_at_call 33; with_reducible refine (setOf_z 4 4 f.mo (by decide) f.h4 rfl _).mono ?_; rintro e w1 ⟨rfl, hb⟩; have HB0 := Lib.hid (blk_on hb HW.out.1); have HB1 := Lib.hid (blk_on hb HW.out.2.1); have HBL := Lib.hid (bl_on HW.out.2.2 hb); clear hb)
        | (with_reducible show wpList _ _ _ (Oper.mk _ (Op.store 44 _ _) _ _ _ _ :: _) _ _; refine wpList_store_mid rfl 44 _ _ rfl (w.heap.size + 1 + 1) 256 (bs 64 (setM 4 f.mo)) rfl rfl (there_blk HB1.out _ _ (by rw [bs_size]; decide)) (by rw [bs_size]; kernel_rfl) (bs_one _ _) ?_; have HC1 := Lib.hid (blk_cells (bs 64 (setM 4 f.mo)).toList 256 _ _ HB1.out); have HC0 := Lib.hid ((cells_out (g := w.heap.size + 1 + 1) (show w.heap.size + 1 ≠ w.heap.size + 1 + 1 by omega) (bs 64 (setM 4 f.mo)).toList 256 _).trans HB0.out); have HCL := Lib.hid (bl_cells (g := w.heap.size + 1 + 1) (by omega) (bs 64 (setM 4 f.mo)).toList 256 _ HBL.out); generalize w1.setCells (w.heap.size + 1 + 1) 256 (bs 64 (setM 4 f.mo)).toList = W2 at *))
      go_roundg (gk - 1)
      case measure =>
        have := HX.out
        omega
      case rel =>
        have := HX.out
        exact ⟨5, rfl, Lib.hid ⟨by decide, by decide, by omega⟩, Lib.hid ⟨HC0.out, HC1.out.trans (by rw [show (4 : Int).toNat = 4 from rfl, show f.mo = sixB f 4 from rfl, sixP_step f 4]; rfl), HCL.out⟩⟩
    · have hix : ∀ w, (Instr.index 76 (.agg #[.int .u64 (f.se : Int), .int .u64 (f.mi : Int), .int .u64 (f.ho : Int), .int .u64 (f.dom : Int), .int .u64 (f.mo : Int), .int .u64 (f.dow : Int)]) (.int .i64 5)).run Try.prog w = .ok (.int .u64 (f.dow : Int)) w := fun _ => by kernel_rfl
      go_wp2_with (first
        | (go_at_call 33; with_reducible refine (setOf_z 5 5 f.dow (by decide) f.h5 rfl _).mono ?_; rintro e w1 ⟨rfl, hb⟩; have HB0 := Lib.hid (blk_on hb HW.out.1); have HB1 := Lib.hid (blk_on hb HW.out.2.1); have HBL := Lib.hid (bl_on HW.out.2.2 hb); clear hb)
        | (with_reducible show wpList _ _ _ (Oper.mk _ (Op.store 44 _ _) _ _ _ _ :: _) _ _; refine wpList_store_mid rfl 44 _ _ rfl (w.heap.size + 1 + 1) 320 (bs 64 (setM 5 f.dow)) rfl rfl (there_blk HB1.out _ _ (by rw [bs_size]; decide)) (by rw [bs_size]; kernel_rfl) (bs_one _ _) ?_; have HC1 := Lib.hid (blk_cells (bs 64 (setM 5 f.dow)).toList 320 _ _ HB1.out); have HC0 := Lib.hid ((cells_out (g := w.heap.size + 1 + 1) (show w.heap.size + 1 ≠ w.heap.size + 1 + 1 by omega) (bs 64 (setM 5 f.dow)).toList 320 _).trans HB0.out); have HCL := Lib.hid (bl_cells (g := w.heap.size + 1 + 1) (by omega) (bs 64 (setM 5 f.dow)).toList 320 _ HBL.out); generalize w1.setCells (w.heap.size + 1 + 1) 320 (bs 64 (setM 5 f.dow)).toList = W2 at *))
      go_roundg (gk - 1)
      case measure =>
        have := HX.out
        omega
      case rel =>
        have := HX.out
        exact ⟨6, rfl, Lib.hid ⟨by decide, by decide, by omega⟩, Lib.hid ⟨HC0.out, HC1.out.trans (by rw [show (5 : Int).toNat = 5 from rfl, show f.dow = sixB f 5 from rfl, sixP_step f 5]; rfl), HCL.out⟩⟩
    · go_upto_region 7 with fail
      have HB1 := Lib.hid (HW.out.2.1.trans (by rw [show (6 : Int).toNat = 6 from rfl, sixP_end]))
      apply wp_region_lit
      refine wpList_load_row rfl 46 _ rfl (w.heap.size + 1 + 1) rfl 46 (bs 384 (sixM f)) (0, 0) _ HB1.out Try.underlying46 rfl (by rw [bs_size]; kernel_rfl) ?_
      refine wpList_store_row rfl 46 _ _ rfl (w.heap.size + 1) (bs 384 (sixM f)) rfl rfl 46 (bs 384 fun _ => false) HW.out.1 (by rw [bs_size]; kernel_rfl) (by rw [bs_size, bs_size]) (bs_one _ _) ?_
      apply wpList_nil
      have HBE := Lib.hid (blk_row (C' := bs 384 (sixM f)) HW.out.1)
      have HBF := Lib.hid (bl_row (C' := bs 384 (sixM f)) HW.out.2.2 (Nat.le_add_right _ 1))
      go_wp2_with fail
      all_goals refine bodyPost_ret (results_cell_row rfl _ _ (w.heap.size + 1) 46 (bs 384 (sixM f)) (0, 0) _ rfl HBE.out Try.underlying46 rfl (by rw [bs_size]; kernel_rfl)) rfl ⟨rfl, HBF.out⟩
end Go.Proofs.Ytdgglkihiibmhaa
