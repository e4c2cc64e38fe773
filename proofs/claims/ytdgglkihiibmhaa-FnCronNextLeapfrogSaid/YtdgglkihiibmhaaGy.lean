/-
  The schedule of sets: its block; whether the sets of days allow a time's day.
-/
import Derived.Test.YtdgglkihiibmhaaGx
set_option linter.unusedVariables false
set_option linter.unusedSimpArgs false
namespace Go.Proofs.Ytdgglkihiibmhaa
open Go Go.RowKit Cal Go.Proofs.YtdgglkihiibmhaaW.PrintLast

/-- six sets as bits -/
structure Six where
  se : Nat
  mi : Nat
  ho : Nat
  dom : Nat
  mo : Nat
  dow : Nat
  h0 : se < 2 ^ 64
  h1 : mi < 2 ^ 64
  h2 : ho < 2 ^ 64
  h3 : dom < 2 ^ 64
  h4 : mo < 2 ^ 64
  h5 : dow < 2 ^ 64
/-- a schedule's block without a place of its own -/
abbrev SC (W : World) (p : Nat) (f : Six) : Prop := W.cell? ⟨p, 0, none⟩ = some (.int .u64 f.se) ∧ W.cell? ⟨p, 1, none⟩ = some (.int .u64 f.mi) ∧ W.cell? ⟨p, 2, none⟩ = some (.int .u64 f.ho) ∧ W.cell? ⟨p, 3, none⟩ = some (.int .u64 f.dom) ∧ W.cell? ⟨p, 4, none⟩ = some (.int .u64 f.mo) ∧ W.cell? ⟨p, 5, none⟩ = some (.int .u64 f.dow) ∧ W.cell? ⟨p, 6, none⟩ = some (.pointer none)
theorem sc_on {W W' : World} {p : Nat} {f : Six} (hb : Below W.heap.size W W') (h : SC W p f) : SC W' p f := by
  obtain ⟨a0, a1, a2, a3, a4, a5, a6⟩ := h
  exact ⟨cell_on hb a0, cell_on hb a1, cell_on hb a2, cell_on hb a3, cell_on hb a4, cell_on hb a5, cell_on hb a6⟩
abbrev M3 (w : World) (p : Nat) (f : Six) (n x : Int) (W : World) : Prop := SC W p f ∧ (W.cell? ⟨w.heap.size, 0, none⟩ = some (.int .u64 n) ∧ W.cell? ⟨w.heap.size, 1, none⟩ = some (.int .i64 x) ∧ W.cell? ⟨w.heap.size, 2, none⟩ = some (.pointer none)) ∧ Hid (Below w.heap.size w W)
theorem m3_on {w : World} {p : Nat} {f : Six} {n x : Int} {W W' : World} (hb : Below W.heap.size W W') (h : M3 w p f n x W) : M3 w p f n x W' := by
  obtain ⟨h0, ⟨h1, h2, h3⟩, hh⟩ := h
  exact ⟨sc_on hb h0, ⟨cell_on hb h1, cell_on hb h2, cell_on hb h3⟩, Lib.hid (bl_on hh.out hb)⟩
theorem m3_start (w : World) (p : Nat) (f : Six) (n x : Int) (h : SC w p f) : M3 w p f n x (w.alloc (.cells #[.int .u64 n, .int .i64 x, .pointer none] 66)) := by
  obtain ⟨k0, k1, k2, -⟩ := res3 (w := w.alloc (.cells #[.int .u64 n, .int .i64 x, .pointer none] 66)) (g := w.heap.size) (heap_new0 _ _ _ (by simp))
  exact ⟨sc_on (bl_alloc (Below.refl _ _) _) h, ⟨k0, k1, k2⟩, Lib.hid (bl_alloc (Below.refl _ _) _)⟩
/-- is a value in a set -/
def hb (S : Nat) (k : Int) : Bool := S.testBit k.toNat
theorem pow_w (k : Int) (k0 : 0 ≤ k) (k1 : k < 64) : IntKind.u64.wrap (2 ^ min (IntKind.u64.wrap k).toNat 64) = ((2 ^ k.toNat : Nat) : Int) := by
  have e : IntKind.u64.wrap k = k := u64_id k k0 (by omega)
  rw [e, Nat.min_eq_left (by omega)]
  have h : (2 : Nat) ^ k.toNat < 2 ^ 64 := Nat.pow_lt_pow_right (by decide) (by omega)
  have e2 : ((2 : Int) ^ k.toNat) = ((2 ^ k.toNat : Nat) : Int) := by push_cast; rfl
  rw [e2]
  generalize 2 ^ k.toNat = m at *
  simp only [IntKind.wrap, IntKind.bits, IntKind.signed]
  simp
  omega
theorem and2 (n S : Nat) : 2 ^ n &&& S = if S.testBit n then 2 ^ n else 0 := by
  apply Nat.eq_of_testBit_eq
  intro i
  rw [Nat.testBit_and, Nat.testBit_two_pow]
  by_cases h : n = i
  · subst h
    cases hS : S.testBit n <;> simp
  · cases hS : S.testBit n
    · simp [h]
    · simp only [h, decide_false, Bool.false_and, if_true]
      rw [Nat.testBit_two_pow]
      simp [h]
theorem and_pow (S : Nat) (n : Nat) (hS : S < 2 ^ 64) (hn : n < 64) : bits .and .u64 ((2 ^ n : Nat) : Int) (S : Int) = if S.testBit n then ((2 ^ n : Nat) : Int) else 0 := by
  rw [bits_and_nat _ _ (Nat.pow_lt_pow_right (by decide) hn) hS, and2]
  cases S.testBit n <;> rfl
theorem bit_gt (S : Nat) (k : Int) (hS : S < 2 ^ 64) (k0 : 0 ≤ k) (k1 : k < 64) : decide (0 < bits .and .u64 (IntKind.u64.wrap (2 ^ min (IntKind.u64.wrap k).toNat 64)) (S : Int)) = hb S k := by
  rw [pow_w k k0 k1, and_pow S _ hS (by omega)]
  have h : 0 < 2 ^ k.toNat := Nat.pow_pos (by decide)
  unfold hb
  cases S.testBit k.toNat
  · simp
  · simp only [if_true]
    exact decide_eq_true (by omega)
theorem bit_eq (S : Nat) (k : Int) (hS : S < 2 ^ 64) (k0 : 0 ≤ k) (k1 : k < 64) : (bits .and .u64 (IntKind.u64.wrap (2 ^ min (IntKind.u64.wrap k).toNat 64)) (S : Int) = 0) = (hb S k = false) := by
  rw [pow_w k k0 k1, and_pow S _ hS (by omega)]
  have h : 0 < 2 ^ k.toNat := Nat.pow_pos (by decide)
  unfold hb
  cases S.testBit k.toNat
  · simp
  · simp only [if_true]
    have h2 : (0 : Int) < ((2 ^ k.toNat : Nat) : Int) := Int.natCast_pos.mpr h
    simp only [Bool.true_eq_false, eq_iff_iff, iff_false]
    omega
theorem star_val (S : Nat) (hS : S < 2 ^ 64) : bits .and .u64 (S : Int) 9223372036854775808 = if hb S 63 then 9223372036854775808 else 0 := by
  rw [show (9223372036854775808 : Int) = ((2 ^ 63 : Nat) : Int) from rfl, bits_and_nat _ _ hS (by decide), Nat.and_comm, and2]
  unfold hb
  show _ = if S.testBit 63 then _ else _
  cases S.testBit 63 <;> rfl
/-- the weekday -/
def Wx (x : Int) : Int := (x / 86400 + 1) % 7
/-- do the sets of days allow a time's day -/
def dm (f : Six) (x : Int) : Bool := if hb f.dom 63 || hb f.dow 63 then hb f.dom (Dx x) && hb f.dow (Wx x) else hb f.dom (Dx x) || hb f.dow (Wx x)
set_option maxHeartbeats 1000000 in
theorem dayM_any (p : Nat) (f : Six) (x : Int) (w : World) (hp : SC w p f) (x0 : 0 ≤ x) (x1 : x ≤ 1000000000000) : Calls Try.prog 92 #[.pointer (some ⟨p, 0, none⟩), tmV 0 x] w fun e w' => e = .returned (.bool (dm f x)) ∧ Below w.heap.size w w' := by
  have HS := Lib.hid (m3_start w p f 0 x hp)
  obtain ⟨-, -, -, -, d0, d1⟩ := date_b x x0 x1
  have HA := Lib.hid (bit_gt f.dom (Dx x) f.h3 (by omega) (by omega))
  have HB := Lib.hid (bit_gt f.dow (Wx x) f.h5 (by unfold Wx; omega) (by unfold Wx; omega))
  have s1 := star_val f.dom f.h3
  have s2 := star_val f.dow f.h5
  have HV : Hid (∀ a b c d : Bool, hb f.dom 63 = a → hb f.dow 63 = b → hb f.dom (Dx x) = c → hb f.dow (Wx x) = d → dm f x = if a || b then c && d else c || d) := Lib.hid (by rintro _ _ _ _ rfl rfl rfl rfl; rfl)
  clear hp d0 d1
  cases z1 : hb f.dom 63 <;> cases z2 : hb f.dow 63 <;> rw [z1] at s1 <;> rw [z2] at s2 <;> simp only [if_true, if_false, Bool.false_eq_true] at s1 s2
  all_goals
    have HZ := Lib.hid (And.intro z1 z2)
    clear z1 z2
    go_enter Try.func92, Try.ntmps92
    go_wp2_with fail
    go_region_held3 (fun W => M3 w p f 0 x W) (first | assumption | exact m3_on (bl_drew (Below.refl _ _)) HS.out | (refine m3_on (by assumption) ?_; first | assumption | exact m3_on (bl_drew (Below.refl _ _)) HS.out)) (first
      | (go_at_call 85; refine (Day_any 0 x _ (by omega) (by omega) x0 x1).mono ?_; rintro e w3 ⟨rfl, hb⟩))
    rw [HA.out]
    have H3 := Lib.hid (m3_on hb (m3_on (bl_drew (Below.refl _ _)) HS.out))
    rename_i hq
    clear hb hq
    generalize hc : hb f.dom (Dx x) = c
    have HC := Lib.hid hc
    clear hc
    go_wp2_with fail
    go_region_held3 (fun W => M3 w p f 0 x W) (first | assumption | exact m3_on (bl_drew (Below.refl _ _)) H3.out | (refine m3_on (by assumption) ?_; first | assumption | exact m3_on (bl_drew (Below.refl _ _)) H3.out)) (first
      | (go_at_call 109; refine (Weekday_any 0 x _ (by omega) (by omega) x0 x1).mono ?_; rintro e w5 ⟨rfl, hb⟩))
    rw [show (x / 86400 + 1) % 7 = Wx x from rfl, HB.out]
    have H5 := Lib.hid (m3_on hb (m3_on (bl_drew (Below.refl _ _)) H3.out))
    rename_i hq
    clear hb hq
    generalize hc : hb f.dow (Wx x) = d
    have HD := Lib.hid hc
    clear hc
    obtain ⟨-, -, -, k3, -, k5, -⟩ := H5.out.1
    go_wp2_with fail
    all_goals go_ret
    all_goals
      refine ⟨?_, H5.out.2.2.out⟩
      rw [HV.out _ _ _ _ HZ.out.1 HZ.out.2 HC.out HD.out]
      clear HS HA HB HV HZ HC HD H3 H5 k3 k5 s1 s2
      first | rfl | (cases c <;> cases d <;> first | rfl | contradiction | (exfalso; simp_all; done))
end Go.Proofs.Ytdgglkihiibmhaa
