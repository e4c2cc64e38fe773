/-
  The package time on the clocks of UTC: what its functions do with a time without a place.
-/
import Derived.Test.YtdgglkihiibmhaaProg
import Derived.Below
import Derived.WalkKit
import Derived.ProofKit
import Derived.Lib.Hide
import Derived.WalkLawsBesides
import Derived.WalkSpells
import Derived.Deep.RegionHeld3
import Derived.Deep.RegionWith
import Derived.Deep.QuietTactic
import Derived.BigQuiet
import Derived.Outline
import Derived.IntWalk
import Derived.Laws.BitsLemmas
import Derived.MapKept
set_option linter.unusedVariables false
set_option linter.unusedSimpArgs false
namespace Go.Proofs.Ytdgglkihiibmhaa
open Go Go.RowKit

theorem bl_drew {B : Nat} {w W : World} (h : Below B w W) : Below B w W.drew := ⟨h.os, h.tape, h.output, h.size, h.block⟩
theorem bl_alloc {w W : World} (h : Below w.heap.size w W) (o : Obj) : Below w.heap.size w (W.alloc o) := h.alloc h.size o
theorem bl_on {w W W1 : World} (h : Below w.heap.size w W) (h1 : Below W.heap.size W W1) : Below w.heap.size w W1 := h.trans (h1.mono h.size)
theorem cell_on {w w' : World} {x : Addr} {v : Value} (hb : Below w.heap.size w w') (h : w.cell? x = some v) : w'.cell? x = some v :=
  (hb.cell (World.block_lt_of_cell? w _ h)).trans h

theorem bits_and_nat (m n : Nat) (hm : m < 2 ^ 64) (hn : n < 2 ^ 64) : bits .and .u64 (m : Int) (n : Int) = ((m &&& n : Nat) : Int) := by
  have h : bits .and .u64 (m : Int) (n : Int) = IntKind.u64.wrap (((BitVec.ofInt 64 (m : Int) &&& BitVec.ofInt 64 (n : Int)).toNat : Nat) : Int) := rfl
  rw [h, BitVec.ofInt_natCast, BitVec.ofInt_natCast, BitVec.toNat_and, BitVec.toNat_ofNat, BitVec.toNat_ofNat, Nat.mod_eq_of_lt hm, Nat.mod_eq_of_lt hn]
  have hl : m &&& n < 2 ^ 64 := Nat.lt_of_le_of_lt Nat.and_le_left hm
  simp only [IntKind.wrap, IntKind.bits, IntKind.signed]
  simp
  omega
theorem and_mask (n : Int) (h0 : 0 ≤ n) (h1 : n < 1073741824) : bits .and .u64 n 1073741823 = n := by
  obtain ⟨m, rfl⟩ := Int.eq_ofNat_of_zero_le h0
  rw [show (1073741823 : Int) = ((1073741823 : Nat) : Int) from rfl, bits_and_nat m _ (by omega) (by decide), show (1073741823 : Nat) = 2 ^ 30 - 1 from rfl, Nat.and_two_pow_sub_one_eq_mod]
  omega
theorem and_mono (n : Int) (h0 : 0 ≤ n) (h1 : n < 1073741824) : bits .and .u64 n 9223372036854775808 = 0 := by
  obtain ⟨m, rfl⟩ := Int.eq_ofNat_of_zero_le h0
  rw [show (9223372036854775808 : Int) = ((9223372036854775808 : Nat) : Int) from rfl, bits_and_nat m _ (by omega) (by decide), show (9223372036854775808 : Nat) = 2 ^ 63 from rfl]
  have z : m &&& 2 ^ 63 = 0 := by
    apply Nat.eq_of_testBit_eq
    intro i
    rw [Nat.testBit_and, Nat.testBit_two_pow, Nat.zero_testBit]
    by_cases hi : 63 = i
    · subst hi
      rw [Nat.testBit_lt_two_pow (by omega)]
      rfl
    · simp [hi]
  rw [z]
  rfl
theorem andnot_mask (n : Int) (h0 : 0 ≤ n) (h1 : n < 1073741824) : bits .andNot .u64 n 1073741823 = 0 := by
  obtain ⟨m, rfl⟩ := Int.eq_ofNat_of_zero_le h0
  have h : bits .andNot .u64 (m : Int) 1073741823 = IntKind.u64.wrap (((BitVec.ofInt 64 (m : Int) &&& ~~~ BitVec.ofInt 64 1073741823).toNat : Nat) : Int) := rfl
  have z : (BitVec.ofInt 64 (m : Int) &&& ~~~ BitVec.ofInt 64 1073741823) = 0#64 := by
    rw [BitVec.ofInt_natCast, show (1073741823 : Int) = ((2 ^ 30 - 1 : Nat) : Int) from rfl, BitVec.ofInt_natCast]
    apply BitVec.eq_of_getLsbD_eq
    intro i hi
    rw [BitVec.getLsbD_and, BitVec.getLsbD_not, BitVec.getLsbD_ofNat, BitVec.getLsbD_ofNat, Nat.testBit_two_pow_sub_one, BitVec.getLsbD_zero]
    by_cases h30 : i < 30
    · simp [h30, hi]
    · have : m.testBit i = false := Nat.testBit_lt_two_pow (Nat.lt_of_lt_of_le (by omega : m < 2 ^ 30) (Nat.pow_le_pow_right (by omega) (by omega)))
      simp [this]
  rw [h, z]
  rfl
theorem i32_id (n : Int) (h0 : 0 ≤ n) (h1 : n < 1073741824) : IntKind.i32.wrap n = n := by
  simp only [IntKind.wrap, IntKind.bits, IntKind.signed]
  simp
  omega

/-- a time's block -/
def IsT (w : World) (p : Nat) (wall ext : Int) : Prop := w.heap[p]? = some (.cells #[.int .u64 wall, .int .i64 ext, .pointer none] 66 (0, 0))
theorem blk_cell {w : World} {g : Nat} {t : TypeId} {cs : Array Value} (h : w.heap[g]? = some (.cells cs t (0, 0))) (i : Nat) : w.cell? ⟨g, i, none⟩ = cs[i]? := cell_of_row w g i cs t (0, 0) h
theorem blk_frozen {w : World} {g : Nat} {t : TypeId} {cs : Array Value} (h : w.heap[g]? = some (.cells cs t (0, 0))) (i : Nat) : w.frozen? ⟨g, i, none⟩ = false := by simp [World.frozen?, h]

theorem nsec_any (p : Nat) (n x : Int) (w : World) (h : IsT w p n x) (h0 : 0 ≤ n) (h1 : n < 1073741824) : Calls Try.prog 61 #[.pointer (some ⟨p, 0, none⟩)] w fun e w' => e = .returned (.int .i32 n) ∧ w = w' := by
  have k0 : w.cell? ⟨p, 0, none⟩ = some (.int .u64 n) := (blk_cell h 0).trans rfl
  have e1 := and_mask n h0 h1
  have e2 := i32_id n h0 h1
  clear h
  go_enter Try.func61, Try.ntmps61
  go_wp2
  go_ret
  exact ⟨rfl, rfl⟩
theorem sec_any (p : Nat) (n x : Int) (w : World) (h : IsT w p n x) (h0 : 0 ≤ n) (h1 : n < 1073741824) : Calls Try.prog 67 #[.pointer (some ⟨p, 0, none⟩)] w fun e w' => e = .returned (.int .i64 x) ∧ w = w' := by
  have k0 : w.cell? ⟨p, 0, none⟩ = some (.int .u64 n) := (blk_cell h 0).trans rfl
  have k1 : w.cell? ⟨p, 1, none⟩ = some (.int .i64 x) := (blk_cell h 1).trans rfl
  have e1 := and_mono n h0 h1
  clear h
  go_enter Try.func67, Try.ntmps67
  go_wp2
  go_ret
  exact ⟨rfl, rfl⟩
theorem unixSec_any (p : Nat) (n x : Int) (w : World) (h : IsT w p n x) (h0 : 0 ≤ n) (h1 : n < 1073741824) (x0 : -4611686018427387904 ≤ x) (x1 : x ≤ 4611686018427387904) : Calls Try.prog 60 #[.pointer (some ⟨p, 0, none⟩)] w fun e w' => e = .returned (.int .i64 (x + -62135596800)) ∧ w = w' := by
  have H := Lib.hid h
  clear h
  go_enter Try.func60, Try.ntmps60
  go_wp2_with (go_at_call 67; refine (sec_any p n x _ H.out h0 h1).mono ?_; rintro e w' ⟨rfl, rfl⟩)
  go_ret
  exact ⟨rfl, rfl⟩
theorem strip_any (p : Nat) (n x : Int) (w : World) (h : IsT w p n x) (h0 : 0 ≤ n) (h1 : n < 1073741824) : Calls Try.prog 63 #[.pointer (some ⟨p, 0, none⟩)] w fun e w' => e = .returned (.tuple #[]) ∧ w = w' := by
  have k0 : w.cell? ⟨p, 0, none⟩ = some (.int .u64 n) := (blk_cell h 0).trans rfl
  have e1 := and_mono n h0 h1
  clear h
  go_enter Try.func63, Try.ntmps63
  go_wp2
  go_end0
  exact ⟨rfl, rfl⟩
theorem utc_any (w : World) : Calls Try.prog 31 #[] w fun e w' => ∃ q, e = .returned (.pointer (some ⟨q, 0, none⟩)) ∧ w'.cell? ⟨q, 0, none⟩ = some (.bool true) ∧ q < w'.heap.size ∧ Below w.heap.size w w' := by
  go_enter Try.func31, Try.ntmps31
  go_wp2
  go_ret
  refine ⟨_, rfl, ?_, ?_, ?_⟩
  · go_simp
  · simp
  · repeat (first | exact Below.refl _ _ | apply bl_alloc)
theorem setLoc_any (p q : Nat) (n x : Int) (w : World) (h : IsT w p n x) (hq : w.cell? ⟨q, 0, none⟩ = some (.bool true)) (h0 : 0 ≤ n) (h1 : n < 1073741824) : Calls Try.prog 59 #[.pointer (some ⟨p, 0, none⟩), .pointer (some ⟨q, 0, none⟩)] w fun e w' => e = .returned (.tuple #[]) ∧ w' = w.setCell ⟨p, 2, none⟩ (.pointer none) := by
  have H := Lib.hid h
  have k2 : w.cell? ⟨p, 2, none⟩ = some (.pointer none) := (blk_cell h 2).trans rfl
  have f2 : w.frozen? ⟨p, 2, none⟩ = false := blk_frozen h 2
  clear h
  go_enter Try.func59, Try.ntmps59
  go_wp2_with (go_at_call 63; refine (strip_any p n x _ H.out h0 h1).mono ?_; rintro e w' ⟨rfl, rfl⟩)
  go_end0
  exact ⟨rfl, rfl⟩
theorem addSec_any (p : Nat) (n x d : Int) (w : World) (h : IsT w p n x) (h0 : 0 ≤ n) (h1 : n < 1073741824) (x0 : -4611686018427387904 ≤ x) (x1 : x ≤ 4611686018427387904) (d0 : 0 < d) (d1 : d ≤ 9223372037) : Calls Try.prog 62 #[.pointer (some ⟨p, 0, none⟩), .int .i64 d] w fun e w' => e = .returned (.tuple #[]) ∧ w' = w.setCell ⟨p, 1, none⟩ (.int .i64 (x + d)) := by
  have k0 : w.cell? ⟨p, 0, none⟩ = some (.int .u64 n) := (blk_cell h 0).trans rfl
  have k1 : w.cell? ⟨p, 1, none⟩ = some (.int .i64 x) := (blk_cell h 1).trans rfl
  have f1 : w.frozen? ⟨p, 1, none⟩ = false := blk_frozen h 1
  have e1 := and_mono n h0 h1
  have t1 : decide (x < x + d) = true := decide_eq_true (by omega)
  have t2 : decide (0 < d) = true := decide_eq_true d0
  clear h
  go_enter Try.func62, Try.ntmps62
  go_wp2
  go_end0
  exact ⟨rfl, rfl⟩
end Go.Proofs.Ytdgglkihiibmhaa
