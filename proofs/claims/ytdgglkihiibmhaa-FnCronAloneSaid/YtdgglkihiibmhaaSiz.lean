/-
  The specification's size of a set.
-/
import Derived.Test.YtdgglkihiibmhaaCnt
import Derived.Test.YtdgglkihiibmhaaEmp
set_option linter.unusedVariables false
set_option linter.unusedSimpArgs false
namespace Go.Proofs.Ytdgglkihiibmhaa
open Go Go.RowKit Cal Go.Proofs.YtdgglkihiibmhaaW.PrintLast

set_option maxHeartbeats 2000000 in
theorem size_any (B : Nat → Bool) (hi : Int) (w : World) (h0 : -1 ≤ hi) (h1 : hi ≤ 59) : Calls Try.prog 57 #[.agg (bs 64 B), .int .i64 0, .int .i64 hi] w fun e w' => e = .returned (.int .i64 ((cn B (hi + 1).toNat : Nat) : Int)) ∧ Below w.heap.size w w' := by
  have HG := Lib.hid (heap_new0 w _ (.cells (bs 64 B) 44) rfl)
  obtain ⟨R, hR⟩ : ∃ R : Int, R = ((cn B (hi + 1).toNat : Nat) : Int) := ⟨_, rfl⟩
  have HR := Lib.hid hR
  rw [← hR]
  clear hR
  go_enter Try.func57, Try.ntmps57
  go_upto_region 1 with fail
  generalize hW : w.alloc (.cells (bs 64 B) 44) = W at *
  have HB : Hid (Below w.heap.size w W) := Lib.hid (by rw [← hW]; exact bl_alloc (Below.refl _ _) _)
  clear hW
  have HH := Lib.hid (And.intro h0 h1)
  go_wp2_with fail
  all_goals
    go_loopg [7, 8] 62 (fun g v7 v8 w' => ∃ N k : Int, v7 = .int .i64 N ∧ v8 = .int .i64 k ∧ Hid (N = ((cn B k.toNat : Nat) : Int) ∧ 0 ≤ k ∧ k ≤ hi + 1 ∧ (g : Int) ≥ 61 - k) ∧ w' = W)
    case atStart => exact ⟨0, 0, rfl, rfl, Lib.hid ⟨rfl, by decide, by omega, by decide⟩, rfl⟩
    case round =>
      obtain ⟨N, k, rfl, rfl, HX, rfl⟩ := hrel
      have k0 : 0 ≤ k := HX.out.2.1
      have hd2 : decide (k ≤ 62) = true := decide_eq_true (by have := HX.out; have := HH.out; omega)
      have hN := cn_le B k.toNat
      have HN := Lib.hid (show 0 ≤ N ∧ N ≤ k by have := HX.out; omega)
      clear hN
      have hw1 : wrap64 (k + 1) = k + 1 := by have := HX.out; have := HH.out; exact wi (by omega) (by omega)
      have hw2 : wrap64 (N + 1) = N + 1 := by have := HX.out; have := HH.out; have := HN.out; exact wi (by omega) (by omega)
      by_cases hc : k ≤ hi
      · have HC := Lib.hid hc
        have hd := decide_eq_true hc
        have k1 : k < 63 := by omega
        have hcell : wr.cell? ⟨w.heap.size, 1 + k.toNat, none⟩ = some (.bool (B (1 + k.toNat))) := by rw [blk_cell HG.out, bs_get _ _ _ (by omega)]
        clear hc
        have HCN := Lib.hid (show cn B (k.toNat + 1) = cn B k.toNat + if B (1 + k.toNat) then 1 else 0 from rfl)
        generalize B (1 + k.toNat) = b at *
        cases b
        · go_wp2_with fail
          go_roundg (61 - (k + 1)).toNat
          case measure => have := HX.out; have := HC.out; have := HH.out; omega
          case rel => exact ⟨N, k + 1, rfl, by first | rfl | rw [hw1], Lib.hid ⟨by have h1 := HCN.out; have h2 := HX.out; simp at h1; rw [show (k + 1).toNat = k.toNat + 1 by omega]; omega, by have := HX.out; omega, by have := HC.out; omega, by have := HX.out; omega⟩, rfl⟩
        · go_wp2_with fail
          go_roundg (61 - (k + 1)).toNat
          case measure => have := HX.out; have := HC.out; have := HH.out; omega
          case rel => exact ⟨N + 1, k + 1, by first | rfl | rw [hw2], by first | rfl | rw [hw1], Lib.hid ⟨by have h1 := HCN.out; have h2 := HX.out; simp at h1; rw [show (k + 1).toNat = k.toNat + 1 by omega]; omega, by have := HX.out; omega, by have := HC.out; omega, by have := HX.out; omega⟩, rfl⟩
      · have HC := Lib.hid hc
        have hd := decide_eq_false hc
        clear hc
        go_wp2_with fail
        go_ret
        refine ⟨?_, HB.out⟩
        have e : N = R := by
          have h1 := HX.out
          have h2 := HR.out
          have h3 := HC.out
          rw [h2, h1.1, show k = hi + 1 by omega]
        rw [e]
        rfl
end Go.Proofs.Ytdgglkihiibmhaa
