/-
  One item that is a number: what it means; Itoa; contracts.
-/
import Derived.Test.YtbdollicgfhekaaDoorItm1
import Derived.Test.YtbdollicgfhekaaDoorRows
import Derived.Lib.AppendIntMem
import Derived.Lib.LaidTab
import Derived.Lib.ItoaNum
import Derived.WalkSmall
import Derived.Stop.LaidErr
import Derived.LaidLaws
import Derived.MakeChecks
set_option linter.unusedVariables false
set_option linter.unusedSimpArgs false
namespace Go.Proofs.YtbdollicgfhekaaDoor
open Go Go.RowKit Go.Proofs.YtbdollicgfhekaaDoorW.PrintWords Go.Proofs.YtbdollicgfhekaaDoorW.PrintLast

set_option maxHeartbeats 4000000 in
set_option maxRecDepth 100000 in
theorem bits7_nil (x : Int) (w : World) : Calls Tryd.prog 7 #[.int .u64 x, .nilIface] w fun e w' => e = .returned (.tuple #[.int .u64 x, .bool true]) ∧ w = w' := by
  go_enter Tryd.func7, Tryd.ntmps7
  go_wp2
  go_ret2
  exact ⟨rfl, rfl⟩
set_option maxHeartbeats 4000000 in
set_option maxRecDepth 100000 in
theorem bits7_err (x : Int) (t N : Nat) (w : World) : Calls Tryd.prog 7 #[.int .u64 x, .iface 55 (.pointer (some ⟨N, 0, none⟩))] w fun e w' => e = .returned (.tuple #[.int .u64 0, .bool false]) ∧ w = w' := by
  go_enter Tryd.func7, Tryd.ntmps7
  go_wp2
  go_ret2
  exact ⟨rfl, rfl⟩
set_option maxHeartbeats 4000000 in
set_option maxRecDepth 100000 in
theorem item5_ok (s : ByteArray) (low high x : Int) (w : World) (h : ∀ w, Calls Tryd.prog 10 #[.string s, .agg #[.int .u64 low, .int .u64 high, .map none]] w fun e w' => e = .returned (.tuple #[.int .u64 x, .nilIface]) ∧ Below w.heap.size w w') :
    Calls Tryd.prog 5 #[.int .u64 low, .int .u64 high, .string s] w fun e w' => e = .returned (.tuple #[.int .u64 x, .bool true]) ∧ Below w.heap.size w w' := by
  have H := Aside0.mk h
  clear h
  go_enter Tryd.func5, Tryd.ntmps5
  go_wp2_with (first | (go_at_call 7; (with_reducible refine (bits7_nil x _).mono ?_); rintro e w2 ⟨rfl, hw2⟩; subst hw2) | (go_at_call 10; (with_reducible refine (H.out _).mono ?_); rintro e w1 ⟨rfl, hb⟩; have HB := Aside0.mk hb; clear hb) | go_in)
  go_ret2
  exact ⟨rfl, HB.out⟩
set_option maxHeartbeats 4000000 in
set_option maxRecDepth 100000 in
theorem item5_err (s : ByteArray) (low high : Int) (w : World) (h : ∀ w, Calls Tryd.prog 10 #[.string s, .agg #[.int .u64 low, .int .u64 high, .map none]] w fun e w' => (∃ N, e = .returned (.tuple #[.int .u64 0, .iface 55 (.pointer (some ⟨N, 0, none⟩))])) ∧ Below w.heap.size w w') :
    Calls Tryd.prog 5 #[.int .u64 low, .int .u64 high, .string s] w fun e w' => e = .returned (.tuple #[.int .u64 0, .bool false]) ∧ Below w.heap.size w w' := by
  have H := Aside0.mk h
  clear h
  go_enter Tryd.func5, Tryd.ntmps5
  go_wp2_with (first | (go_at_call 7; (with_reducible refine (bits7_err 0 0 N _).mono ?_); rintro e w2 ⟨rfl, hw2⟩; subst hw2) | (go_at_call 10; (with_reducible refine (H.out _).mono ?_); rintro e w1 ⟨⟨N, rfl⟩, hb⟩; have HB := Aside0.mk hb; clear hb) | go_in)
  go_ret2
  exact ⟨rfl, HB.out⟩
theorem gPow : Tryd.prog.globalNamed "internal/strconv.uint64pow10" = some 0 := by kernel_rfl
/-- the table of the powers of ten -/
def GlobT (w : World) : Prop := Lib.TabIs Tryd.prog w "internal/strconv.uint64pow10" .u64 Lib.pow10Tab
theorem var_lt {w : World} {n : String} {g : Nat} {cs : Array Value} (hg : Tryd.prog.globalNamed n = some g) (h : w.var? Tryd.prog n = some cs) : g < w.heap.size := by
  unfold World.var? at h
  simp only [hg, Option.bind_some] at h
  by_cases hlt : g < w.heap.size
  · exact hlt
  · rw [Array.getElem?_eq_none (by omega)] at h
    cases h
theorem globT_below {w w' : World} (h : GlobT w) (hb : Below w.heap.size w w') : GlobT w' := var?_below hb gPow (var_lt gPow h) h
theorem tPow : (Tryd.prog.globals[0]?).map (·.type) = some 62 := by kernel_rfl
theorem cPow : Tryd.prog.cellsOf 62 = 20 := by kernel_rfl
theorem cU64 : Tryd.prog.cellsOf 24 = 1 := by kernel_rfl
theorem glob3 {W : World} (h : laidMetH Tryd.prog Rows.fnCronItemValueRow.laid W) : GlobT W := by
  rw [MakeChecks.laidMetH_plain _ _ _ (by kernel_rfl)] at h
  have h3 : laidMet Tryd.prog [("internal/strconv.uint64pow10", Rows.laid_internal_strconv_uint64pow10), ("strconv.ErrRange", Rows.laid_strconv_ErrRange), ("strconv.ErrSyntax", Rows.laid_strconv_ErrSyntax)] W := h.tail.tail
  exact Lib.tabIs_of_head (zs := Lib.pow10Tab) (k := .u64) gPow tPow Tryd.underlying62 Tryd.underlying24 cU64 cPow h3
/-- are all the bytes digits? -/
def digits (s : ByteArray) : Bool := (L s).all fun b => decide (48 ≤ b.toNat) && decide (b.toNat ≤ 57)
theorem digit_ne {s : ByteArray} (h : digits s = true) : ∀ b ∈ L s, b ≠ 47 ∧ b ≠ 45 ∧ b ≠ 42 ∧ b ≠ 63 := by
  intro b hb
  have h1 := List.all_eq_true.1 h b hb
  rw [Bool.and_eq_true] at h1
  have h2 := of_decide_eq_true h1.1
  have h3 := of_decide_eq_true h1.2
  refine ⟨?_, ?_, ?_, ?_⟩ <;> (rintro rfl; revert h2 h3; decide)
theorem not_sign {s : ByteArray} {c : UInt8} (h : ∀ b ∈ L s, b ≠ c) : (s.toList == [c]) = false := by
  rw [beq_eq_false_iff_ne]
  intro e
  rw [toList_L] at e
  exact h c (by rw [e]; exact List.mem_singleton.2 rfl) rfl
/-- what a number means within bounds -/
def itemV (low high v : Int) : Int × Bool := if v < low ∨ high < v then (0, false) else (2 ^ v.toNat, true)
theorem item_any (s : ByteArray) (low high v : Int) (w : World) (hs : s.size ≤ 2147483647) (h : Lib.atoiAll s.data.toList = .ok v) (h0 : 0 ≤ v) (h1 : v ≤ 9223372036854775807) (hd : digits s = true) (hh : high ≤ 62) :
    Calls Tryd.prog 5 #[.int .u64 low, .int .u64 high, .string s] w fun e w' => e = .returned (.tuple #[.int .u64 (itemV low high v).1, .bool (itemV low high v).2]) ∧ Below w.heap.size w w' := by
  have hn := digit_ne hd
  have q1 := not_sign (fun b hb => (hn b hb).2.2.1)
  have q2 := not_sign (fun b hb => (hn b hb).2.2.2)
  have hn' : ∀ b ∈ L s, b ≠ 47 ∧ b ≠ 45 := fun b hb => ⟨(hn b hb).1, (hn b hb).2.1⟩
  unfold itemV
  by_cases hl : v < low
  · rw [if_pos (Or.inl hl)]
    exact item5_err s low high w (fun w => range_low s v low high hs h h0 h1 hn' q1 q2 (decide_eq_true hl) w)
  · by_cases hg : high < v
    · rw [if_pos (Or.inr hg)]
      exact item5_err s low high w (fun w => range_high s v low high hs h h0 h1 hn' q1 q2 (decide_eq_false hl) (decide_eq_true hg) w)
    · rw [if_neg (fun h => h.elim hl hg)]
      exact item5_ok s low high _ w (fun w => range_in s v low high hs h h0 h1 hn' q1 q2 (by omega) (decide_eq_false hl) (decide_eq_false hg) w)
end Go.Proofs.YtbdollicgfhekaaDoor
namespace Go.Proofs.YtbdollicgfhekaaDoor.QW
open Go Go.RowKit Go.Proofs.YtbdollicgfhekaaDoorW.PrintWords Go.Proofs.YtbdollicgfhekaaDoorW.PrintLast
/-- the value that a text of digits spells -/
def spelt (s : ByteArray) : Int := match Lib.atoiAll s.data.toList with | .ok v => v | _ => -1
/-- what a text of digits means within bounds -/
def impl_CronItemIn.f (low high : Int) (s : ByteArray) : Option (Int × Bool) := if s.size ≤ 2147483647 ∧ 0 ≤ spelt s ∧ spelt s ≤ 9223372036854775807 ∧ digits s = true ∧ high ≤ 62 then some ((itemV low high (spelt s)).1, (itemV low high (spelt s)).2) else none
theorem impl_CronItemIn.calls (a0 a1 : Int) (a2 : ByteArray) (r1 : Int) (r2 : Bool) (w : World) (h : impl_CronItemIn.f a0 a1 a2 = some (r1, r2)) :
    Calls Tryd.prog 5 #[.int .u64 a0, .int .u64 a1, .string a2] w fun e w' => e = .returned (.tuple #[.int .u64 r1, .bool r2]) ∧ Below w.heap.size w w' := by
  unfold impl_CronItemIn.f at h
  by_cases hc : a2.size ≤ 2147483647 ∧ 0 ≤ spelt a2 ∧ spelt a2 ≤ 9223372036854775807 ∧ digits a2 = true ∧ a1 ≤ 62
  · rw [if_pos hc] at h
    simp only [Option.some.injEq, Prod.mk.injEq] at h
    obtain ⟨rfl, rfl⟩ := h
    have hv : Lib.atoiAll a2.data.toList = .ok (spelt a2) := by
      have h2 := hc.2.1
      unfold spelt at h2 ⊢
      cases he : Lib.atoiAll a2.data.toList with
      | ok v => rfl
      | «syntax» => rw [he] at h2; exact absurd h2 (by decide)
      | range => rw [he] at h2; exact absurd h2 (by decide)
    exact item_any a2 a0 a1 (spelt a2) w hc.1 hv hc.2.1 hc.2.2.1 hc.2.2.2.1 hc.2.2.2.2
  · rw [if_neg hc] at h; cases h
/-- the decimal text of a number -/
def strconv_Itoa.f (n : Int) : Option ByteArray := if -9223372036854775808 ≤ n ∧ n ≤ 9223372036854775807 then some ⟨(Lib.itoa n).toArray⟩ else none
theorem strconv_Itoa.calls (a0 : Int) (r : ByteArray) (w : World) (hg : GlobT w) (h : strconv_Itoa.f a0 = some r) :
    Calls Tryd.prog 6 #[.int .i64 a0] w fun e w' => e = .returned (.string r) ∧ Below w.heap.size w w' := by
  unfold strconv_Itoa.f at h
  by_cases hc : -9223372036854775808 ≤ a0 ∧ a0 ≤ 9223372036854775807
  · rw [if_pos hc] at h
    obtain rfl := Option.some.inj h
    refine (Tryd.strconv_Itoa a0 hc.1 hc.2 w hg).mono ?_
    rintro e w' ⟨rfl, k, os, rfl⟩
    exact ⟨rfl, Lib.below_grow w.heap.size w (Nat.le_refl _) k os⟩
  · rw [if_neg hc] at h; cases h
end Go.Proofs.YtbdollicgfhekaaDoor.QW
