/-
  FormatUint, String and VersionText, walked.
-/
import Derived.Test.YtdomidlpkffigaaDoorRead
import Derived.Lib.Walk
import Derived.Lib.ItoaMem
import Derived.Lib.AppendIntMem
import Derived.Lib.ItoaLen
import Derived.WalkKit
import Derived.BigCall
import Derived.BigGuard
set_option linter.unusedVariables false
set_option linter.unusedSimpArgs false
namespace Go.Proofs.YtdomidlpkffigaaDoor
open Go Go.RowKit Go.Sort Go.Proofs.YtdomidlpkffigaaDoorW.PrintWords Go.Proofs.YtdomidlpkffigaaDoorW.PrintLast Go.Proofs.YtdomidlpkffigaaDoor.Gram

/-- the table of the powers of ten -/
def GlobP (w : World) : Prop := Lib.TabIs Tryd.prog w "internal/strconv.uint64pow10" .u64 Lib.pow10Tab
theorem globP_below {w w' : World} (h : GlobP w) (hb : Below w.heap.size w w') : GlobP w' := var?_below hb gPow (var_lt gPow h) h
set_option maxHeartbeats 6400000 in
set_option maxRecDepth 100000 in
theorem fmt41 (u : Nat) (hu64 : u < 18446744073709551616) (w : World) (htab : GlobP w) :
    Calls Tryd.prog 41 #[.int .u64 u, .int .i64 10] w fun e w' => e = .returned (.string (mkB (Lib.decDigits u))) ∧ Below w.heap.size w w' := by
  by_cases hs : u < 100
  · have c1 : decide ((u : Int) < 100) = true := decide_eq_true (by omega)
    have c2 : IntKind.i64.wrap (u : Int) = (u : Int) := by rw [IntKind.wrap_i64]; omega
    go_enter Tryd.func41, Tryd.ntmps41
    go_wp2_with (go_at_call 52; (with_reducible refine (Tryd.internal_strconv_small u hs _).mono ?_); rintro e w' ⟨rfl, hw⟩; have HW := Lib.hid hw; clear hw)
    go_ret
    exact ⟨rfl, by rw [HW.out]; exact Below.refl _ _⟩
  · have hu1 : 1 ≤ u := by omega
    have c1 : decide ((u : Int) < 100) = false := decide_eq_false (by omega)
    have hnd20 : Lib.nDigits u ≤ 20 := by have := Lib.numDigits_eq u hu1 hu64; split at this <;> omega
    have hal : Tryd.prog.arrayLen 75 = 24 := by simp [Program.arrayLen, Tryd.underlying75]
    have hsl1 : ∀ W, (Instr.sliceAt 75 (.pointer (some ⟨w.heap.size, 0, none⟩)) none (some (.int .i64 (Lib.nDigits u : Int))) none).run Tryd.prog W = .ok (.slice (some ⟨w.heap.size, 0, none⟩) (Lib.nDigits u) 24) W := fun W => by
      rw [run_sliceAt_array_h W 75 ⟨w.heap.size, 0, none⟩ (by simp [Program.arrayLen, Program.elem, Tryd.underlying75]) .i64 (Lib.nDigits u : Int) (by omega) (by rw [hal]; omega)]
      go_simp
      try omega
    have hH0 := Lib.holds_zero0 w 75 (Lib.nDigits u) (by omega)
    have hfmt := Tryd.internal_strconv_formatBase10 w.heap.size 0 24 u (Array.replicate (Lib.nDigits u) 0) (w.alloc (.cells Lib.zeros24 75)) hH0 (by rw [Array.size_replicate]; exact Lib.lt_pow_nDigits u) hu64 (by rw [Array.size_replicate]; omega)
    rw [Array.size_replicate] at hfmt
    have HH0 := Lib.hid hH0
    have HF := Lib.hid hfmt
    have HT := Lib.hid htab
    clear hH0 hal hfmt htab hs
    go_enter Tryd.func41, Tryd.ntmps41
    go_wp2_with (first
      | (go_at_call 53; refine (Tryd.internal_strconv_numDigits u hu1 hu64 _ (Lib.tabIs_alloc HT.out _)).mono ?_; rintro e w' ⟨rfl, rfl⟩)
      | (go_at_call 54; fail))
    refine HF.out.mono ?_
    rintro e w' ⟨rfl, k, v', dk, rfl, hF⟩
    have hcv : (convert 69 9 (.slice (some ⟨w.heap.size, 0, none⟩) (Lib.nDigits u) 24)).run Tryd.prog ((putRow (fun (b : UInt8) => Value.int .u8 (b.toNat : Int)) (w.alloc (.cells Lib.zeros24 75)) w.heap.size 0 dk).drewN k) = .ok (.string ⟨(Lib.decDigits u).toArray⟩) ((putRow (fun (b : UInt8) => Value.int .u8 (b.toNat : Int)) (w.alloc (.cells Lib.zeros24 75)) w.heap.size 0 dk).drewN k) := by
      have h := run_convert_bytes_back (P := Tryd.prog) ((putRow (fun (b : UInt8) => Value.int .u8 (b.toNat : Int)) (w.alloc (.cells Lib.zeros24 75)) w.heap.size 0 dk).drewN k) 69 9 5 ⟨w.heap.size, 0, none⟩ 24 (Lib.decDigits u) Tryd.underlying69 Tryd.underlying5 Tryd.underlying9 (fun j hj => by
        rw [Lib.row_is_numeral hF j hj, Lib.add_plain, World.cell?_drewN]
        exact cell?_putRow (fun (b : UInt8) => Value.int .u8 (b.toNat : Int)) _ w.heap.size 0 _ dk HH0.out (by rw [hF.size, Array.size_replicate]) j (by rw [hF.size]; rw [Lib.decDigits_length] at hj; exact hj))
      rw [Lib.decDigits_length] at h
      exact h
    go_wp2
    go_ret
    obtain ⟨os, eo⟩ := Lib.fin_at w (.cells Lib.zeros24 75) dk k 0
    exact ⟨rfl, eo ▸ Lib.below_grow w.heap.size w (Nat.le_refl _) k os⟩
theorem fmt24 (u : Nat) (hu : u < 18446744073709551616) (w : World) (hT : GlobP w) : Calls Tryd.prog 24 #[.int .u64 u, .int .i64 10] w fun e w' => e = .returned (.string (mkB (Lib.decDigits u))) ∧ Below w.heap.size w w' := by
  have HT := Aside0.mk hT
  have HU := Aside0.mk hu
  clear hT hu
  go_enter Tryd.func24, Tryd.ntmps24
  go_wp2_with (go_at_call 41; (with_reducible refine (fmt41 u HU.out _ HT.out).mono ?_); rintro e w1 ⟨rfl, hb⟩; have HB := Aside0.mk hb; clear hb)
  go_ret
  exact ⟨rfl, HB.out⟩
end Go.Proofs.YtdomidlpkffigaaDoor
