/-
  A duration's text, written: what CronDurationText gives.
-/
import Derived.Test.YtlbcgknjliihjaaDoorPar
import Derived.Test.YtlbcgknjliihjaaDoorShelf
import Derived.Lib.AppendIntMem
import Derived.Lib.ItoaNum
import Derived.Lib.ItoaMem
import Derived.WalkSmall
set_option linter.unusedVariables false
set_option linter.unusedSimpArgs false
namespace Go.Proofs.YtlbcgknjliihjaaDoor
open Go Go.RowKit Go.Proofs.YtlbcgknjliihjaaDoorW.PrintWords Go.Proofs.YtlbcgknjliihjaaDoorW.PrintLast
theorem gPow : Tryd.prog.globalNamed "internal/strconv.uint64pow10" = some 1 := by kernel_rfl
/-- the table of the powers of ten -/
def GlobT (w : World) : Prop := Lib.TabIs Tryd.prog w "internal/strconv.uint64pow10" .u64 Lib.pow10Tab
theorem var_lt {w : World} {n : String} {g : Nat} {cs : Array Value} (hg : Tryd.prog.globalNamed n = some g) (h : w.var? Tryd.prog n = some cs) : g < w.heap.size := by
  unfold World.var? at h
  simp only [hg, Option.bind_some] at h
  by_cases hlt : g < w.heap.size
  · exact hlt
  · rw [Array.getElem?_eq_none (by omega)] at h
    cases h
theorem globT_below {w w' : World} (h : GlobT w) (hb : Below w.heap.size w w') : GlobT w' := var?_below hb gPow (var_lt gPow h) h
theorem itoa10 (n : Nat) (hn : n ≤ 9223372036854775807) (w : World) (hg : GlobT w) : Calls Tryd.prog 10 #[.int .i64 (n : Int)] w fun e w' => e = .returned (.string (mkB (Lib.decDigits n))) ∧ Below w.heap.size w w' := by
  refine (Tryd.strconv_Itoa (n : Int) (by omega) (by omega) w hg).mono ?_
  rintro e w' ⟨rfl, k, os, rfl⟩
  rw [Lib.itoa_nonneg]
  exact ⟨rfl, Lib.below_grow w.heap.size w (Nat.le_refl _) k os⟩
theorem dec_len (n : Nat) (hn : n ≤ 9223372036854775807) : (Lib.decDigits n).length ≤ 21 := by
  have h := Lib.itoa_length_le (n : Int) (by omega) (by omega)
  rw [Lib.itoa_nonneg] at h
  omega
theorem itoa10d (n : Nat) (d : ByteArray) (hd : d = mkB (Lib.decDigits n)) (hn : n ≤ 9223372036854775807) (w : World) (hg : GlobT w) : Calls Tryd.prog 10 #[.int .i64 (n : Int)] w fun e w' => e = .returned (.string d) ∧ Below w.heap.size w w' := by
  rw [hd]
  exact itoa10 n hn w hg
/-- the items of a duration's text: the units that are there, and nanoseconds if none is -/
def items (n : Nat → Nat) : Nat → List (Nat × Nat)
  | 0 => []
  | k + 1 => if n k ≠ 0 ∨ (k = 5 ∧ items n k = []) then items n k ++ [(n k, k)] else items n k
theorem text_app (l m : List (Nat × Nat)) : textL (l ++ m) = textL l ++ textL m := by
  unfold textL
  rw [List.flatMap_append]
theorem text_nil {l : List (Nat × Nat)} (h : textL l = []) : l = [] := by
  cases l with
  | nil => rfl
  | cons p l => rw [text_cons] at h; exact absurd (List.append_eq_nil_iff.1 h).1 (dec_ne _)
theorem items_new {n : Nat → Nat} {k : Nat} (h : n k ≠ 0 ∨ (k = 5 ∧ items n k = [])) {t tu : ByteArray} (ht : L t = textL (items n k)) (hu : L tu = unitL k) : L (t ++ (mkB (Lib.decDigits (n k)) ++ tu)) = textL (items n (k + 1)) := by
  rw [items, if_pos h, text_app, L_app, L_app, ht, hu]
  show _ = _ ++ textL [(n k, k)]
  rw [text_cons]
  show _ ++ (_ ++ _) = _ ++ (_ ++ (_ ++ []))
  rw [List.append_nil]
theorem items_old {n : Nat → Nat} {k : Nat} (h : ¬ (n k ≠ 0 ∨ (k = 5 ∧ items n k = []))) : items n (k + 1) = items n k := by rw [items, if_neg h]
set_option maxHeartbeats 8000000 in
set_option maxRecDepth 100000 in
theorem text5 (n : Nat → Nat) (hn : ∀ i, n i ≤ 9223372036854775807) (w : World) (hG : GlobT w) :
    Calls Tryd.prog 5 #[.agg #[.int .i64 (n 0 : Int), .int .i64 (n 1 : Int), .int .i64 (n 2 : Int), .int .i64 (n 3 : Int), .int .i64 (n 4 : Int), .int .i64 (n 5 : Int)]] w fun e w' => e = .returned (.string (mkB (textL (items n 6)))) ∧ Below w.heap.size w w' := by
  have HG := Aside0.mk hG
  have HN := Aside0.mk hn
  clear hG hn
  go_enter Tryd.func5, Tryd.ntmps5
  go_wp2
  go_loopg [3, 7] 7 (fun g v3 v7 w' => ∃ (t : ByteArray) (x : Int), v3 = .string t ∧ v7 = .int .i64 x ∧ Aside0 (0 ≤ x ∧ x ≤ 6 ∧ g + x = 7) ∧ Aside0 (L t = textL (items n x.toNat)) ∧ Aside0 ((t.size : Int) ≤ 23 * x) ∧ Aside0 (w'.heap[w.heap.size]? = some (.cells #[.int .i64 (n 0 : Int), .int .i64 (n 1 : Int), .int .i64 (n 2 : Int), .int .i64 (n 3 : Int), .int .i64 (n 4 : Int), .int .i64 (n 5 : Int)] 25 (0, 0))) ∧ Aside0 (Below w.heap.size w w'))
  case atStart => exact ⟨_, 0, rfl, rfl, ⟨by omega, by omega, by omega⟩, ⟨rfl⟩, ⟨by decide⟩, ⟨heap_new0 _ _ _ rfl⟩, ⟨bl_alloc (Below.refl _ _) _⟩⟩
  case round =>
    obtain ⟨t, x, rfl, rfl, HX, HT, HTZ, HQ, HW⟩ := hrel
    have hx6 : x = 0 ∨ x = 1 ∨ x = 2 ∨ x = 3 ∨ x = 4 ∨ x = 5 ∨ x = 6 := by have := HX.out; omega
    rcases hx6 with rfl | rfl | rfl | rfl | rfl | rfl | rfl
    · have hc := (cellsOf HQ.out 0).trans (show _ = some (.int .i64 (n 0 : Int)) from rfl)
      have hf : ∀ w : World, (Instr.index 35 (.agg #[.string ⟨#[104]⟩, .string ⟨#[109]⟩, .string ⟨#[115]⟩, .string ⟨#[109, 115]⟩, .string ⟨#[117, 115]⟩, .string ⟨#[110, 115]⟩]) (.int .i64 0)).run Tryd.prog w = .ok (.string ⟨#[104]⟩) w := fun _ => by kernel_rfl
      by_cases hz : n 0 = 0
      · have e1 : ((n 0 : Int) != 0) = false := by rw [hz]; rfl
        have HO := Aside0.mk (items_old (n := n) (k := 0) (by rintro (h | ⟨h, -⟩); exact h hz; exact absurd h (by decide)))
        clear hz
        go_wp2
        go_roundg 6
        case measure => have h1 := HX.out; omega
        case rel => exact ⟨_, 1, rfl, rfl, ⟨by omega, by omega, by have h1 := HX.out; omega⟩, ⟨by rw [HT.out]; exact congrArg textL HO.out.symm⟩, ⟨by have h1 := HTZ.out; omega⟩, HQ, HW⟩
      · have HNZ := Aside0.mk hz
        have e1 : ((n 0 : Int) != 0) = true := bne_iff_ne.2 (by omega)
        clear hz
        obtain ⟨dd, HDD⟩ : ∃ dd, Aside0 (dd = mkB (Lib.decDigits (n 0))) := ⟨_, ⟨rfl⟩⟩
        have hdz : dd.size ≤ 21 := by rw [HDD.out, mk_size]; exact dec_len (n 0) (HN.out 0)
        have htz := HTZ.out
        have s1 : (9223372036854775807 < dd.size + 1) = False := eq_false (by omega)
        have s2 : (9223372036854775807 < t.size + (dd.size + 1)) = False := eq_false (by omega)
        have HTN : Aside0 (t.size + (dd.size + 1) ≤ 23) := ⟨by omega⟩
        clear hdz htz
        go_wp2_with (go_at_call 10; (with_reducible refine (itoa10d (n 0) dd HDD.out (HN.out 0) _ (globT_below HG.out HW.out)).mono ?_); rintro e w1 ⟨rfl, hb⟩; have HW1 := Aside0.mk (bl_on HW.out hb); have HQ1 := Aside0.mk (heap_on hb HQ.out); clear hb)
        go_roundg 6
        case measure => have h1 := HX.out; omega
        case rel => exact ⟨_, 1, rfl, rfl, ⟨by omega, by omega, by have h1 := HX.out; omega⟩, ⟨by rw [HDD.out]; exact items_new (k := 0) (Or.inl HNZ.out) HT.out rfl⟩, ⟨by rw [ByteArray.size_append, ByteArray.size_append]; have h1 := HTN.out; show ((t.size + (dd.size + 1) : Nat) : Int) ≤ _; omega⟩, HQ1, HW1⟩
    · have hc := (cellsOf HQ.out 1).trans (show _ = some (.int .i64 (n 1 : Int)) from rfl)
      have hf : ∀ w : World, (Instr.index 35 (.agg #[.string ⟨#[104]⟩, .string ⟨#[109]⟩, .string ⟨#[115]⟩, .string ⟨#[109, 115]⟩, .string ⟨#[117, 115]⟩, .string ⟨#[110, 115]⟩]) (.int .i64 1)).run Tryd.prog w = .ok (.string ⟨#[109]⟩) w := fun _ => by kernel_rfl
      by_cases hz : n 1 = 0
      · have e1 : ((n 1 : Int) != 0) = false := by rw [hz]; rfl
        have HO := Aside0.mk (items_old (n := n) (k := 1) (by rintro (h | ⟨h, -⟩); exact h hz; exact absurd h (by decide)))
        clear hz
        go_wp2
        go_roundg 5
        case measure => have h1 := HX.out; omega
        case rel => exact ⟨_, 2, rfl, rfl, ⟨by omega, by omega, by have h1 := HX.out; omega⟩, ⟨by rw [HT.out]; exact congrArg textL HO.out.symm⟩, ⟨by have h1 := HTZ.out; omega⟩, HQ, HW⟩
      · have HNZ := Aside0.mk hz
        have e1 : ((n 1 : Int) != 0) = true := bne_iff_ne.2 (by omega)
        clear hz
        obtain ⟨dd, HDD⟩ : ∃ dd, Aside0 (dd = mkB (Lib.decDigits (n 1))) := ⟨_, ⟨rfl⟩⟩
        have hdz : dd.size ≤ 21 := by rw [HDD.out, mk_size]; exact dec_len (n 1) (HN.out 1)
        have htz := HTZ.out
        have s1 : (9223372036854775807 < dd.size + 1) = False := eq_false (by omega)
        have s2 : (9223372036854775807 < t.size + (dd.size + 1)) = False := eq_false (by omega)
        have HTN : Aside0 (t.size + (dd.size + 1) ≤ 46) := ⟨by omega⟩
        clear hdz htz
        go_wp2_with (go_at_call 10; (with_reducible refine (itoa10d (n 1) dd HDD.out (HN.out 1) _ (globT_below HG.out HW.out)).mono ?_); rintro e w1 ⟨rfl, hb⟩; have HW1 := Aside0.mk (bl_on HW.out hb); have HQ1 := Aside0.mk (heap_on hb HQ.out); clear hb)
        go_roundg 5
        case measure => have h1 := HX.out; omega
        case rel => exact ⟨_, 2, rfl, rfl, ⟨by omega, by omega, by have h1 := HX.out; omega⟩, ⟨by rw [HDD.out]; exact items_new (k := 1) (Or.inl HNZ.out) HT.out rfl⟩, ⟨by rw [ByteArray.size_append, ByteArray.size_append]; have h1 := HTN.out; show ((t.size + (dd.size + 1) : Nat) : Int) ≤ _; omega⟩, HQ1, HW1⟩
    · have hc := (cellsOf HQ.out 2).trans (show _ = some (.int .i64 (n 2 : Int)) from rfl)
      have hf : ∀ w : World, (Instr.index 35 (.agg #[.string ⟨#[104]⟩, .string ⟨#[109]⟩, .string ⟨#[115]⟩, .string ⟨#[109, 115]⟩, .string ⟨#[117, 115]⟩, .string ⟨#[110, 115]⟩]) (.int .i64 2)).run Tryd.prog w = .ok (.string ⟨#[115]⟩) w := fun _ => by kernel_rfl
      by_cases hz : n 2 = 0
      · have e1 : ((n 2 : Int) != 0) = false := by rw [hz]; rfl
        have HO := Aside0.mk (items_old (n := n) (k := 2) (by rintro (h | ⟨h, -⟩); exact h hz; exact absurd h (by decide)))
        clear hz
        go_wp2
        go_roundg 4
        case measure => have h1 := HX.out; omega
        case rel => exact ⟨_, 3, rfl, rfl, ⟨by omega, by omega, by have h1 := HX.out; omega⟩, ⟨by rw [HT.out]; exact congrArg textL HO.out.symm⟩, ⟨by have h1 := HTZ.out; omega⟩, HQ, HW⟩
      · have HNZ := Aside0.mk hz
        have e1 : ((n 2 : Int) != 0) = true := bne_iff_ne.2 (by omega)
        clear hz
        obtain ⟨dd, HDD⟩ : ∃ dd, Aside0 (dd = mkB (Lib.decDigits (n 2))) := ⟨_, ⟨rfl⟩⟩
        have hdz : dd.size ≤ 21 := by rw [HDD.out, mk_size]; exact dec_len (n 2) (HN.out 2)
        have htz := HTZ.out
        have s1 : (9223372036854775807 < dd.size + 1) = False := eq_false (by omega)
        have s2 : (9223372036854775807 < t.size + (dd.size + 1)) = False := eq_false (by omega)
        have HTN : Aside0 (t.size + (dd.size + 1) ≤ 69) := ⟨by omega⟩
        clear hdz htz
        go_wp2_with (go_at_call 10; (with_reducible refine (itoa10d (n 2) dd HDD.out (HN.out 2) _ (globT_below HG.out HW.out)).mono ?_); rintro e w1 ⟨rfl, hb⟩; have HW1 := Aside0.mk (bl_on HW.out hb); have HQ1 := Aside0.mk (heap_on hb HQ.out); clear hb)
        go_roundg 4
        case measure => have h1 := HX.out; omega
        case rel => exact ⟨_, 3, rfl, rfl, ⟨by omega, by omega, by have h1 := HX.out; omega⟩, ⟨by rw [HDD.out]; exact items_new (k := 2) (Or.inl HNZ.out) HT.out rfl⟩, ⟨by rw [ByteArray.size_append, ByteArray.size_append]; have h1 := HTN.out; show ((t.size + (dd.size + 1) : Nat) : Int) ≤ _; omega⟩, HQ1, HW1⟩
    · have hc := (cellsOf HQ.out 3).trans (show _ = some (.int .i64 (n 3 : Int)) from rfl)
      have hf : ∀ w : World, (Instr.index 35 (.agg #[.string ⟨#[104]⟩, .string ⟨#[109]⟩, .string ⟨#[115]⟩, .string ⟨#[109, 115]⟩, .string ⟨#[117, 115]⟩, .string ⟨#[110, 115]⟩]) (.int .i64 3)).run Tryd.prog w = .ok (.string ⟨#[109, 115]⟩) w := fun _ => by kernel_rfl
      by_cases hz : n 3 = 0
      · have e1 : ((n 3 : Int) != 0) = false := by rw [hz]; rfl
        have HO := Aside0.mk (items_old (n := n) (k := 3) (by rintro (h | ⟨h, -⟩); exact h hz; exact absurd h (by decide)))
        clear hz
        go_wp2
        go_roundg 3
        case measure => have h1 := HX.out; omega
        case rel => exact ⟨_, 4, rfl, rfl, ⟨by omega, by omega, by have h1 := HX.out; omega⟩, ⟨by rw [HT.out]; exact congrArg textL HO.out.symm⟩, ⟨by have h1 := HTZ.out; omega⟩, HQ, HW⟩
      · have HNZ := Aside0.mk hz
        have e1 : ((n 3 : Int) != 0) = true := bne_iff_ne.2 (by omega)
        clear hz
        obtain ⟨dd, HDD⟩ : ∃ dd, Aside0 (dd = mkB (Lib.decDigits (n 3))) := ⟨_, ⟨rfl⟩⟩
        have hdz : dd.size ≤ 21 := by rw [HDD.out, mk_size]; exact dec_len (n 3) (HN.out 3)
        have htz := HTZ.out
        have s1 : (9223372036854775807 < dd.size + 2) = False := eq_false (by omega)
        have s2 : (9223372036854775807 < t.size + (dd.size + 2)) = False := eq_false (by omega)
        have HTN : Aside0 (t.size + (dd.size + 2) ≤ 92) := ⟨by omega⟩
        clear hdz htz
        go_wp2_with (go_at_call 10; (with_reducible refine (itoa10d (n 3) dd HDD.out (HN.out 3) _ (globT_below HG.out HW.out)).mono ?_); rintro e w1 ⟨rfl, hb⟩; have HW1 := Aside0.mk (bl_on HW.out hb); have HQ1 := Aside0.mk (heap_on hb HQ.out); clear hb)
        go_roundg 3
        case measure => have h1 := HX.out; omega
        case rel => exact ⟨_, 4, rfl, rfl, ⟨by omega, by omega, by have h1 := HX.out; omega⟩, ⟨by rw [HDD.out]; exact items_new (k := 3) (Or.inl HNZ.out) HT.out rfl⟩, ⟨by rw [ByteArray.size_append, ByteArray.size_append]; have h1 := HTN.out; show ((t.size + (dd.size + 2) : Nat) : Int) ≤ _; omega⟩, HQ1, HW1⟩
    · have hc := (cellsOf HQ.out 4).trans (show _ = some (.int .i64 (n 4 : Int)) from rfl)
      have hf : ∀ w : World, (Instr.index 35 (.agg #[.string ⟨#[104]⟩, .string ⟨#[109]⟩, .string ⟨#[115]⟩, .string ⟨#[109, 115]⟩, .string ⟨#[117, 115]⟩, .string ⟨#[110, 115]⟩]) (.int .i64 4)).run Tryd.prog w = .ok (.string ⟨#[117, 115]⟩) w := fun _ => by kernel_rfl
      by_cases hz : n 4 = 0
      · have e1 : ((n 4 : Int) != 0) = false := by rw [hz]; rfl
        have HO := Aside0.mk (items_old (n := n) (k := 4) (by rintro (h | ⟨h, -⟩); exact h hz; exact absurd h (by decide)))
        clear hz
        go_wp2
        go_roundg 2
        case measure => have h1 := HX.out; omega
        case rel => exact ⟨_, 5, rfl, rfl, ⟨by omega, by omega, by have h1 := HX.out; omega⟩, ⟨by rw [HT.out]; exact congrArg textL HO.out.symm⟩, ⟨by have h1 := HTZ.out; omega⟩, HQ, HW⟩
      · have HNZ := Aside0.mk hz
        have e1 : ((n 4 : Int) != 0) = true := bne_iff_ne.2 (by omega)
        clear hz
        obtain ⟨dd, HDD⟩ : ∃ dd, Aside0 (dd = mkB (Lib.decDigits (n 4))) := ⟨_, ⟨rfl⟩⟩
        have hdz : dd.size ≤ 21 := by rw [HDD.out, mk_size]; exact dec_len (n 4) (HN.out 4)
        have htz := HTZ.out
        have s1 : (9223372036854775807 < dd.size + 2) = False := eq_false (by omega)
        have s2 : (9223372036854775807 < t.size + (dd.size + 2)) = False := eq_false (by omega)
        have HTN : Aside0 (t.size + (dd.size + 2) ≤ 115) := ⟨by omega⟩
        clear hdz htz
        go_wp2_with (go_at_call 10; (with_reducible refine (itoa10d (n 4) dd HDD.out (HN.out 4) _ (globT_below HG.out HW.out)).mono ?_); rintro e w1 ⟨rfl, hb⟩; have HW1 := Aside0.mk (bl_on HW.out hb); have HQ1 := Aside0.mk (heap_on hb HQ.out); clear hb)
        go_roundg 2
        case measure => have h1 := HX.out; omega
        case rel => exact ⟨_, 5, rfl, rfl, ⟨by omega, by omega, by have h1 := HX.out; omega⟩, ⟨by rw [HDD.out]; exact items_new (k := 4) (Or.inl HNZ.out) HT.out rfl⟩, ⟨by rw [ByteArray.size_append, ByteArray.size_append]; have h1 := HTN.out; show ((t.size + (dd.size + 2) : Nat) : Int) ≤ _; omega⟩, HQ1, HW1⟩
    · have hc := (cellsOf HQ.out 5).trans (show _ = some (.int .i64 (n 5 : Int)) from rfl)
      have hf : ∀ w : World, (Instr.index 35 (.agg #[.string ⟨#[104]⟩, .string ⟨#[109]⟩, .string ⟨#[115]⟩, .string ⟨#[109, 115]⟩, .string ⟨#[117, 115]⟩, .string ⟨#[110, 115]⟩]) (.int .i64 5)).run Tryd.prog w = .ok (.string ⟨#[110, 115]⟩) w := fun _ => by kernel_rfl
      by_cases hz : n 5 = 0
      · have e1 : ((n 5 : Int) != 0) = false := by rw [hz]; rfl
        by_cases hi : items n 5 = []
        · have HI := Aside0.mk hi
          have q1 : (t.toList == []) = true := by rw [toList_L, HT.out]; show (textL (items n 5) == []) = true; rw [hi]; rfl
          have q2 : t.toList.isEmpty = true := by rw [toList_L, HT.out]; show (textL (items n 5)).isEmpty = true; rw [hi]; rfl
          clear hi hz
          obtain ⟨dd, HDD⟩ : ∃ dd, Aside0 (dd = mkB (Lib.decDigits (n 5))) := ⟨_, ⟨rfl⟩⟩
          have hdz : dd.size ≤ 21 := by rw [HDD.out, mk_size]; exact dec_len (n 5) (HN.out 5)
          have htz := HTZ.out
          have s1 : (9223372036854775807 < dd.size + 2) = False := eq_false (by omega)
          have s2 : (9223372036854775807 < t.size + (dd.size + 2)) = False := eq_false (by omega)
          have HTN : Aside0 (t.size + (dd.size + 2) ≤ 138) := ⟨by omega⟩
          clear hdz htz
          go_wp2_with (go_at_call 10; (with_reducible refine (itoa10d (n 5) dd HDD.out (HN.out 5) _ (globT_below HG.out HW.out)).mono ?_); rintro e w1 ⟨rfl, hb⟩; have HW1 := Aside0.mk (bl_on HW.out hb); have HQ1 := Aside0.mk (heap_on hb HQ.out); clear hb)
          go_roundg 1
          case measure => have h1 := HX.out; omega
          case rel => exact ⟨_, 6, rfl, rfl, ⟨by omega, by omega, by have h1 := HX.out; omega⟩, ⟨by rw [HDD.out]; exact items_new (k := 5) (Or.inr ⟨rfl, HI.out⟩) HT.out rfl⟩, ⟨by rw [ByteArray.size_append, ByteArray.size_append]; have h1 := HTN.out; show ((t.size + (dd.size + 2) : Nat) : Int) ≤ _; omega⟩, HQ1, HW1⟩
        · have HO := Aside0.mk (items_old (n := n) (k := 5) (by rintro (h | ⟨-, h⟩); exact h hz; exact hi h))
          have q0 : L t ≠ [] := fun h => hi (text_nil (HT.out.symm.trans h))
          obtain ⟨q1, q2⟩ := str_ne t q0
          clear hi hz q0
          go_wp2
          go_roundg 1
          case measure => have h1 := HX.out; omega
          case rel => exact ⟨_, 6, rfl, rfl, ⟨by omega, by omega, by have h1 := HX.out; omega⟩, ⟨by rw [HT.out]; exact congrArg textL HO.out.symm⟩, ⟨by have h1 := HTZ.out; omega⟩, HQ, HW⟩
      · have HNZ := Aside0.mk hz
        have e1 : ((n 5 : Int) != 0) = true := bne_iff_ne.2 (by omega)
        clear hz
        obtain ⟨dd, HDD⟩ : ∃ dd, Aside0 (dd = mkB (Lib.decDigits (n 5))) := ⟨_, ⟨rfl⟩⟩
        have hdz : dd.size ≤ 21 := by rw [HDD.out, mk_size]; exact dec_len (n 5) (HN.out 5)
        have htz := HTZ.out
        have s1 : (9223372036854775807 < dd.size + 2) = False := eq_false (by omega)
        have s2 : (9223372036854775807 < t.size + (dd.size + 2)) = False := eq_false (by omega)
        have HTN : Aside0 (t.size + (dd.size + 2) ≤ 138) := ⟨by omega⟩
        clear hdz htz
        go_wp2_with (go_at_call 10; (with_reducible refine (itoa10d (n 5) dd HDD.out (HN.out 5) _ (globT_below HG.out HW.out)).mono ?_); rintro e w1 ⟨rfl, hb⟩; have HW1 := Aside0.mk (bl_on HW.out hb); have HQ1 := Aside0.mk (heap_on hb HQ.out); clear hb)
        go_roundg 1
        case measure => have h1 := HX.out; omega
        case rel => exact ⟨_, 6, rfl, rfl, ⟨by omega, by omega, by have h1 := HX.out; omega⟩, ⟨by rw [HDD.out]; exact items_new (k := 5) (Or.inl HNZ.out) HT.out rfl⟩, ⟨by rw [ByteArray.size_append, ByteArray.size_append]; have h1 := HTN.out; show ((t.size + (dd.size + 2) : Nat) : Int) ≤ _; omega⟩, HQ1, HW1⟩
    · have HT6 : Aside0 (t = mkB (textL (items n 6))) := ⟨L_ext HT.out⟩
      go_wp2
      refine bodyPost_ret (v := .string (mkB (textL (items n 6)))) (by simp [results, Tryd.results5, go_sem, HT6.out]) rfl ⟨rfl, HW.out⟩
end Go.Proofs.YtlbcgknjliihjaaDoor
