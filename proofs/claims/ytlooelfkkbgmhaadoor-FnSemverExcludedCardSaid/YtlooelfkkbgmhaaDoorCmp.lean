/-
  Compare and what stands over it, of two versions in memory.
-/
/-
  The thin package's comparisons of two versions.
-/
/-
  Equal, of two versions in two blocks.
-/
/-
  The version comparisons as functions with contracts, for the print.
-/
import Derived.Test.YtlooelfkkbgmhaaDoorQA
import Derived.WalkKit
import Derived.ProofKit
import Derived.Outline
import Derived.Lib.Hide
import Derived.Deep.RegionHeld3
import Derived.Deep.DeepCutAuto
import Derived.WalkLawsBesides
import Derived.Deep.RegionWith
import Derived.LaidEql
import Derived.MapKept
namespace Go.Proofs.YtlooelfkkbgmhaaDoor
open Go Go.RowKit

/-- six cells of a version -/
def IsVer (w : World) (p : Nat) (a b c : Int) (s m o : ByteArray) : Prop :=
  w.cell? ⟨p, 0, none⟩ = some (.int .u64 a) ∧ w.cell? ⟨p, 1, none⟩ = some (.int .u64 b) ∧ w.cell? ⟨p, 2, none⟩ = some (.int .u64 c) ∧ w.cell? ⟨p, 3, none⟩ = some (.string s) ∧ w.cell? ⟨p, 4, none⟩ = some (.string m) ∧ w.cell? ⟨p, 5, none⟩ = some (.string o)

theorem cell_below {w w' : World} {p i : Nat} {v : Value} (h : w.cell? ⟨p, i, none⟩ = some v) (hb : Below w.heap.size w w') : w'.cell? ⟨p, i, none⟩ = some v :=
  (hb.cell (World.block_lt_of_cell? w _ h)).trans h

theorem IsVer.below {w w' : World} {p : Nat} {a b c : Int} {s m o : ByteArray} (h : IsVer w p a b c s m o) (hb : Below w.heap.size w w') : IsVer w' p a b c s m o := by
  obtain ⟨h0, h1, h2, h3, h4, h5⟩ := h
  exact ⟨cell_below h0 hb, cell_below h1 hb, cell_below h2 hb, cell_below h3 hb, cell_below h4 hb, cell_below h5 hb⟩

theorem below_on {w w1 w2 : World} (h : Below w.heap.size w w1) (h2 : Below w1.heap.size w1 w2) : Below w.heap.size w w2 := h.trans (h2.mono h.size)

theorem Major_any (a b c : Int) (s m o : ByteArray) (w : World) : Calls Tryd.prog 111 #[.agg #[.int .u64 a, .int .u64 b, .int .u64 c, .string s, .string m, .string o]] w fun e w' => e = .returned (.int .u64 a) ∧ Below w.heap.size w w' := by
  go_enter Tryd.func111, Tryd.ntmps111
  go_wp2
  go_ret
  exact ⟨rfl, (Below.refl _ _).alloc (Nat.le_refl _) _⟩

theorem cell_on {w w' : World} {x : Addr} {v : Value} (hb : Below w.heap.size w w') (h : w.cell? x = some v) : w'.cell? x = some v :=
  (hb.cell (World.block_lt_of_cell? w _ h)).trans h
theorem hid_on {w w1 w2 : World} (h2 : Below w1.heap.size w1 w2) (h : Hid (Below w.heap.size w w1)) : Hid (Below w.heap.size w w2) := Lib.hid (below_on h.out h2)
theorem hid_drew {w w1 : World} (h : Hid (Below w.heap.size w w1)) : Hid (Below w.heap.size w w1.drew) := Lib.hid ⟨h.out.os, h.out.tape, h.out.output, h.out.size, h.out.block⟩

theorem Minor_any (a b c : Int) (s m o : ByteArray) (w : World) : Calls Tryd.prog 112 #[.agg #[.int .u64 a, .int .u64 b, .int .u64 c, .string s, .string m, .string o]] w fun e w' => e = .returned (.int .u64 b) ∧ Below w.heap.size w w' := by
  go_enter Tryd.func112, Tryd.ntmps112
  go_wp2
  go_ret
  exact ⟨rfl, (Below.refl _ _).alloc (Nat.le_refl _) _⟩

theorem Patch_any (a b c : Int) (s m o : ByteArray) (w : World) : Calls Tryd.prog 113 #[.agg #[.int .u64 a, .int .u64 b, .int .u64 c, .string s, .string m, .string o]] w fun e w' => e = .returned (.int .u64 c) ∧ Below w.heap.size w w' := by
  go_enter Tryd.func113, Tryd.ntmps113
  go_wp2
  go_ret
  exact ⟨rfl, (Below.refl _ _).alloc (Nat.le_refl _) _⟩

theorem Pre_any (a b c : Int) (s m o : ByteArray) (w : World) : Calls Tryd.prog 114 #[.agg #[.int .u64 a, .int .u64 b, .int .u64 c, .string s, .string m, .string o]] w fun e w' => e = .returned (.string s) ∧ Below w.heap.size w w' := by
  go_enter Tryd.func114, Tryd.ntmps114
  go_wp2
  go_ret
  exact ⟨rfl, (Below.refl _ _).alloc (Nat.le_refl _) _⟩

def segF (a b : Int) : Int := if a < b then -1 else if b < a then 1 else 0

theorem seg_any (a b : Int) (w : World) : Calls Tryd.prog 121 #[.int .u64 a, .int .u64 b] w fun e w' => e = .returned (.int .i64 (segF a b)) ∧ w = w' := by
  unfold segF
  by_cases h1 : a < b
  · rw [if_pos h1]
    go_enter Tryd.func121, Tryd.ntmps121
    go_wp2
    go_ret
    exact ⟨rfl, rfl⟩
  · rw [if_neg h1]
    by_cases h2 : b < a
    · rw [if_pos h2]
      go_enter Tryd.func121, Tryd.ntmps121
      go_wp2
      go_ret
      exact ⟨rfl, rfl⟩
    · rw [if_neg h2]
      go_enter Tryd.func121, Tryd.ntmps121
      go_wp2
      go_ret
      exact ⟨rfl, rfl⟩

abbrev Two (w : World) (p q : Nat) (a b c a' b' c' : Int) (s m o s' m' o' : ByteArray) (W : World) : Prop :=
  W.cell? ⟨p, 0, none⟩ = some (.int .u64 a) ∧ W.cell? ⟨p, 1, none⟩ = some (.int .u64 b) ∧ W.cell? ⟨p, 2, none⟩ = some (.int .u64 c) ∧ W.cell? ⟨p, 3, none⟩ = some (.string s) ∧ W.cell? ⟨p, 4, none⟩ = some (.string m) ∧ W.cell? ⟨p, 5, none⟩ = some (.string o) ∧
    W.cell? ⟨q, 0, none⟩ = some (.int .u64 a') ∧ W.cell? ⟨q, 1, none⟩ = some (.int .u64 b') ∧ W.cell? ⟨q, 2, none⟩ = some (.int .u64 c') ∧ W.cell? ⟨q, 3, none⟩ = some (.string s') ∧ W.cell? ⟨q, 4, none⟩ = some (.string m') ∧ W.cell? ⟨q, 5, none⟩ = some (.string o') ∧ Hid (Below w.heap.size w W)

theorem two_on {w W W' : World} {p q : Nat} {a b c a' b' c' : Int} {s m o s' m' o' : ByteArray} (hb : Below W.heap.size W W') (h : Two w p q a b c a' b' c' s m o s' m' o' W) : Two w p q a b c a' b' c' s m o s' m' o' W' := by
  obtain ⟨h0, h1, h2, h3, h4, h5, k0, k1, k2, k3, k4, k5, hh⟩ := h
  exact ⟨cell_on hb h0, cell_on hb h1, cell_on hb h2, cell_on hb h3, cell_on hb h4, cell_on hb h5, cell_on hb k0, cell_on hb k1, cell_on hb k2, cell_on hb k3, cell_on hb k4, cell_on hb k5, hid_on hb hh⟩
theorem drew_below (w : World) : Below w.heap.size w w.drew := ⟨rfl, rfl, rfl, Nat.le_refl _, fun _ _ => rfl⟩
theorem two_start {w : World} {p q : Nat} {a b c a' b' c' : Int} {s m o s' m' o' : ByteArray} (hp : IsVer w p a b c s m o) (hq : IsVer w q a' b' c' s' m' o') : Two w p q a b c a' b' c' s m o s' m' o' w := by
  obtain ⟨h0, h1, h2, h3, h4, h5⟩ := hp
  obtain ⟨k0, k1, k2, k3, k4, k5⟩ := hq
  exact ⟨h0, h1, h2, h3, h4, h5, k0, k1, k2, k3, k4, k5, Lib.hid (Below.refl _ _)⟩

set_option maxHeartbeats 2000000 in
set_option maxRecDepth 100000 in
theorem Compare_major (p q : Nat) (a b c a' b' c' : Int) (s m o s' m' o' : ByteArray) (w : World) (hp : IsVer w p a b c s m o) (hq : IsVer w q a' b' c' s' m' o') (h1 : (segF a a' != 0) = true) :
    Calls Tryd.prog 76 #[.pointer (some ⟨p, 0, none⟩), .pointer (some ⟨q, 0, none⟩)] w fun e w' => e = .returned (.int .i64 (segF a a')) ∧ Below w.heap.size w w' := by
  have HT := Lib.hid (two_start hp hq)
  clear hp hq
  go_enter Tryd.func76, Tryd.ntmps76
  go_wp2_with fail
  go_region_held3 (fun W => W.cell? ⟨p, 0, none⟩ = some (.int .u64 a) ∧ W.cell? ⟨p, 1, none⟩ = some (.int .u64 b) ∧ W.cell? ⟨p, 2, none⟩ = some (.int .u64 c) ∧ W.cell? ⟨p, 3, none⟩ = some (.string s) ∧ W.cell? ⟨p, 4, none⟩ = some (.string m) ∧ W.cell? ⟨p, 5, none⟩ = some (.string o) ∧ W.cell? ⟨q, 0, none⟩ = some (.int .u64 a') ∧ W.cell? ⟨q, 1, none⟩ = some (.int .u64 b') ∧ W.cell? ⟨q, 2, none⟩ = some (.int .u64 c') ∧ W.cell? ⟨q, 3, none⟩ = some (.string s') ∧ W.cell? ⟨q, 4, none⟩ = some (.string m') ∧ W.cell? ⟨q, 5, none⟩ = some (.string o') ∧ Hid (Below w.heap.size w W)) (first | assumption | exact two_on (drew_below _) HT.out | (apply two_on <;> first | assumption | exact two_on (drew_below _) HT.out))
    (first | (go_at_call 111; refine (Major_any _ _ _ _ _ _ _).mono ?_; rintro e w' ⟨rfl, hb⟩) | (go_at_call 121; refine (seg_any _ _ _).mono ?_; rintro e w' ⟨rfl, rfl⟩))
  rename_i hHT'
  have HTx := Lib.hid hHT'
  clear hHT'
  go_wp2_with fail
  go_ret
  exact ⟨rfl, HTx.out.2.2.2.2.2.2.2.2.2.2.2.2.out⟩
set_option maxHeartbeats 2000000 in
set_option maxRecDepth 100000 in
theorem Compare_minor (p q : Nat) (a b c a' b' c' : Int) (s m o s' m' o' : ByteArray) (w : World) (hp : IsVer w p a b c s m o) (hq : IsVer w q a' b' c' s' m' o') (h1 : (segF a a' != 0) = false) (h2 : (segF b b' != 0) = true) :
    Calls Tryd.prog 76 #[.pointer (some ⟨p, 0, none⟩), .pointer (some ⟨q, 0, none⟩)] w fun e w' => e = .returned (.int .i64 (segF b b')) ∧ Below w.heap.size w w' := by
  have HT := Lib.hid (two_start hp hq)
  clear hp hq
  go_enter Tryd.func76, Tryd.ntmps76
  go_wp2_with fail
  go_region_held3 (fun W => W.cell? ⟨p, 0, none⟩ = some (.int .u64 a) ∧ W.cell? ⟨p, 1, none⟩ = some (.int .u64 b) ∧ W.cell? ⟨p, 2, none⟩ = some (.int .u64 c) ∧ W.cell? ⟨p, 3, none⟩ = some (.string s) ∧ W.cell? ⟨p, 4, none⟩ = some (.string m) ∧ W.cell? ⟨p, 5, none⟩ = some (.string o) ∧ W.cell? ⟨q, 0, none⟩ = some (.int .u64 a') ∧ W.cell? ⟨q, 1, none⟩ = some (.int .u64 b') ∧ W.cell? ⟨q, 2, none⟩ = some (.int .u64 c') ∧ W.cell? ⟨q, 3, none⟩ = some (.string s') ∧ W.cell? ⟨q, 4, none⟩ = some (.string m') ∧ W.cell? ⟨q, 5, none⟩ = some (.string o') ∧ Hid (Below w.heap.size w W)) (first | assumption | exact two_on (drew_below _) HT.out | (apply two_on <;> first | assumption | exact two_on (drew_below _) HT.out))
    (first | (go_at_call 111; refine (Major_any _ _ _ _ _ _ _).mono ?_; rintro e w' ⟨rfl, hb⟩) | (go_at_call 121; refine (seg_any _ _ _).mono ?_; rintro e w' ⟨rfl, rfl⟩))
  rename_i hHT'
  have HTx := Lib.hid hHT'
  clear hHT'
  go_wp2_with fail
  go_region_held3 (fun W => W.cell? ⟨p, 0, none⟩ = some (.int .u64 a) ∧ W.cell? ⟨p, 1, none⟩ = some (.int .u64 b) ∧ W.cell? ⟨p, 2, none⟩ = some (.int .u64 c) ∧ W.cell? ⟨p, 3, none⟩ = some (.string s) ∧ W.cell? ⟨p, 4, none⟩ = some (.string m) ∧ W.cell? ⟨p, 5, none⟩ = some (.string o) ∧ W.cell? ⟨q, 0, none⟩ = some (.int .u64 a') ∧ W.cell? ⟨q, 1, none⟩ = some (.int .u64 b') ∧ W.cell? ⟨q, 2, none⟩ = some (.int .u64 c') ∧ W.cell? ⟨q, 3, none⟩ = some (.string s') ∧ W.cell? ⟨q, 4, none⟩ = some (.string m') ∧ W.cell? ⟨q, 5, none⟩ = some (.string o') ∧ Hid (Below w.heap.size w W)) (first | assumption | exact two_on (drew_below _) HTx.out | (apply two_on <;> first | assumption | exact two_on (drew_below _) HTx.out))
    (first | (go_at_call 112; refine (Minor_any _ _ _ _ _ _ _).mono ?_; rintro e w' ⟨rfl, hb⟩) | (go_at_call 121; refine (seg_any _ _ _).mono ?_; rintro e w' ⟨rfl, rfl⟩))
  rename_i hHTx'
  have HTxx := Lib.hid hHTx'
  clear hHTx'
  go_wp2_with fail
  go_ret
  exact ⟨rfl, HTxx.out.2.2.2.2.2.2.2.2.2.2.2.2.out⟩
set_option maxHeartbeats 2000000 in
set_option maxRecDepth 100000 in
theorem Compare_patch (p q : Nat) (a b c a' b' c' : Int) (s m o s' m' o' : ByteArray) (w : World) (hp : IsVer w p a b c s m o) (hq : IsVer w q a' b' c' s' m' o') (h1 : (segF a a' != 0) = false) (h2 : (segF b b' != 0) = false) (h3 : (segF c c' != 0) = true) :
    Calls Tryd.prog 76 #[.pointer (some ⟨p, 0, none⟩), .pointer (some ⟨q, 0, none⟩)] w fun e w' => e = .returned (.int .i64 (segF c c')) ∧ Below w.heap.size w w' := by
  have HT := Lib.hid (two_start hp hq)
  clear hp hq
  go_enter Tryd.func76, Tryd.ntmps76
  go_wp2_with fail
  go_region_held3 (fun W => W.cell? ⟨p, 0, none⟩ = some (.int .u64 a) ∧ W.cell? ⟨p, 1, none⟩ = some (.int .u64 b) ∧ W.cell? ⟨p, 2, none⟩ = some (.int .u64 c) ∧ W.cell? ⟨p, 3, none⟩ = some (.string s) ∧ W.cell? ⟨p, 4, none⟩ = some (.string m) ∧ W.cell? ⟨p, 5, none⟩ = some (.string o) ∧ W.cell? ⟨q, 0, none⟩ = some (.int .u64 a') ∧ W.cell? ⟨q, 1, none⟩ = some (.int .u64 b') ∧ W.cell? ⟨q, 2, none⟩ = some (.int .u64 c') ∧ W.cell? ⟨q, 3, none⟩ = some (.string s') ∧ W.cell? ⟨q, 4, none⟩ = some (.string m') ∧ W.cell? ⟨q, 5, none⟩ = some (.string o') ∧ Hid (Below w.heap.size w W)) (first | assumption | exact two_on (drew_below _) HT.out | (apply two_on <;> first | assumption | exact two_on (drew_below _) HT.out))
    (first | (go_at_call 111; refine (Major_any _ _ _ _ _ _ _).mono ?_; rintro e w' ⟨rfl, hb⟩) | (go_at_call 121; refine (seg_any _ _ _).mono ?_; rintro e w' ⟨rfl, rfl⟩))
  rename_i hHT'
  have HTx := Lib.hid hHT'
  clear hHT'
  go_wp2_with fail
  go_region_held3 (fun W => W.cell? ⟨p, 0, none⟩ = some (.int .u64 a) ∧ W.cell? ⟨p, 1, none⟩ = some (.int .u64 b) ∧ W.cell? ⟨p, 2, none⟩ = some (.int .u64 c) ∧ W.cell? ⟨p, 3, none⟩ = some (.string s) ∧ W.cell? ⟨p, 4, none⟩ = some (.string m) ∧ W.cell? ⟨p, 5, none⟩ = some (.string o) ∧ W.cell? ⟨q, 0, none⟩ = some (.int .u64 a') ∧ W.cell? ⟨q, 1, none⟩ = some (.int .u64 b') ∧ W.cell? ⟨q, 2, none⟩ = some (.int .u64 c') ∧ W.cell? ⟨q, 3, none⟩ = some (.string s') ∧ W.cell? ⟨q, 4, none⟩ = some (.string m') ∧ W.cell? ⟨q, 5, none⟩ = some (.string o') ∧ Hid (Below w.heap.size w W)) (first | assumption | exact two_on (drew_below _) HTx.out | (apply two_on <;> first | assumption | exact two_on (drew_below _) HTx.out))
    (first | (go_at_call 112; refine (Minor_any _ _ _ _ _ _ _).mono ?_; rintro e w' ⟨rfl, hb⟩) | (go_at_call 121; refine (seg_any _ _ _).mono ?_; rintro e w' ⟨rfl, rfl⟩))
  rename_i hHTx'
  have HTxx := Lib.hid hHTx'
  clear hHTx'
  go_wp2_with fail
  go_region_held3 (fun W => W.cell? ⟨p, 0, none⟩ = some (.int .u64 a) ∧ W.cell? ⟨p, 1, none⟩ = some (.int .u64 b) ∧ W.cell? ⟨p, 2, none⟩ = some (.int .u64 c) ∧ W.cell? ⟨p, 3, none⟩ = some (.string s) ∧ W.cell? ⟨p, 4, none⟩ = some (.string m) ∧ W.cell? ⟨p, 5, none⟩ = some (.string o) ∧ W.cell? ⟨q, 0, none⟩ = some (.int .u64 a') ∧ W.cell? ⟨q, 1, none⟩ = some (.int .u64 b') ∧ W.cell? ⟨q, 2, none⟩ = some (.int .u64 c') ∧ W.cell? ⟨q, 3, none⟩ = some (.string s') ∧ W.cell? ⟨q, 4, none⟩ = some (.string m') ∧ W.cell? ⟨q, 5, none⟩ = some (.string o') ∧ Hid (Below w.heap.size w W)) (first | assumption | exact two_on (drew_below _) HTxx.out | (apply two_on <;> first | assumption | exact two_on (drew_below _) HTxx.out))
    (first | (go_at_call 113; refine (Patch_any _ _ _ _ _ _ _).mono ?_; rintro e w' ⟨rfl, hb⟩) | (go_at_call 121; refine (seg_any _ _ _).mono ?_; rintro e w' ⟨rfl, rfl⟩))
  rename_i hHTxx'
  have HTxxx := Lib.hid hHTxx'
  clear hHTxx'
  go_wp2_with fail
  go_ret
  exact ⟨rfl, HTxxx.out.2.2.2.2.2.2.2.2.2.2.2.2.out⟩
set_option maxHeartbeats 2000000 in
set_option maxRecDepth 100000 in
theorem Compare_none (p q : Nat) (a b c a' b' c' : Int) (s m o s' m' o' : ByteArray) (w : World) (hp : IsVer w p a b c s m o) (hq : IsVer w q a' b' c' s' m' o') (h1 : (segF a a' != 0) = false) (h2 : (segF b b' != 0) = false) (h3 : (segF c c' != 0) = false) (hs : s.toList = []) (hs' : s'.toList = []) :
    Calls Tryd.prog 76 #[.pointer (some ⟨p, 0, none⟩), .pointer (some ⟨q, 0, none⟩)] w fun e w' => e = .returned (.int .i64 (0)) ∧ Below w.heap.size w w' := by
  have HT := Lib.hid (two_start hp hq)
  clear hp hq
  go_enter Tryd.func76, Tryd.ntmps76
  go_wp2_with fail
  go_region_held3 (fun W => W.cell? ⟨p, 0, none⟩ = some (.int .u64 a) ∧ W.cell? ⟨p, 1, none⟩ = some (.int .u64 b) ∧ W.cell? ⟨p, 2, none⟩ = some (.int .u64 c) ∧ W.cell? ⟨p, 3, none⟩ = some (.string s) ∧ W.cell? ⟨p, 4, none⟩ = some (.string m) ∧ W.cell? ⟨p, 5, none⟩ = some (.string o) ∧ W.cell? ⟨q, 0, none⟩ = some (.int .u64 a') ∧ W.cell? ⟨q, 1, none⟩ = some (.int .u64 b') ∧ W.cell? ⟨q, 2, none⟩ = some (.int .u64 c') ∧ W.cell? ⟨q, 3, none⟩ = some (.string s') ∧ W.cell? ⟨q, 4, none⟩ = some (.string m') ∧ W.cell? ⟨q, 5, none⟩ = some (.string o') ∧ Hid (Below w.heap.size w W)) (first | assumption | exact two_on (drew_below _) HT.out | (apply two_on <;> first | assumption | exact two_on (drew_below _) HT.out))
    (first | (go_at_call 111; refine (Major_any _ _ _ _ _ _ _).mono ?_; rintro e w' ⟨rfl, hb⟩) | (go_at_call 121; refine (seg_any _ _ _).mono ?_; rintro e w' ⟨rfl, rfl⟩))
  rename_i hHT'
  have HTx := Lib.hid hHT'
  clear hHT'
  go_wp2_with fail
  go_region_held3 (fun W => W.cell? ⟨p, 0, none⟩ = some (.int .u64 a) ∧ W.cell? ⟨p, 1, none⟩ = some (.int .u64 b) ∧ W.cell? ⟨p, 2, none⟩ = some (.int .u64 c) ∧ W.cell? ⟨p, 3, none⟩ = some (.string s) ∧ W.cell? ⟨p, 4, none⟩ = some (.string m) ∧ W.cell? ⟨p, 5, none⟩ = some (.string o) ∧ W.cell? ⟨q, 0, none⟩ = some (.int .u64 a') ∧ W.cell? ⟨q, 1, none⟩ = some (.int .u64 b') ∧ W.cell? ⟨q, 2, none⟩ = some (.int .u64 c') ∧ W.cell? ⟨q, 3, none⟩ = some (.string s') ∧ W.cell? ⟨q, 4, none⟩ = some (.string m') ∧ W.cell? ⟨q, 5, none⟩ = some (.string o') ∧ Hid (Below w.heap.size w W)) (first | assumption | exact two_on (drew_below _) HTx.out | (apply two_on <;> first | assumption | exact two_on (drew_below _) HTx.out))
    (first | (go_at_call 112; refine (Minor_any _ _ _ _ _ _ _).mono ?_; rintro e w' ⟨rfl, hb⟩) | (go_at_call 121; refine (seg_any _ _ _).mono ?_; rintro e w' ⟨rfl, rfl⟩))
  rename_i hHTx'
  have HTxx := Lib.hid hHTx'
  clear hHTx'
  go_wp2_with fail
  go_region_held3 (fun W => W.cell? ⟨p, 0, none⟩ = some (.int .u64 a) ∧ W.cell? ⟨p, 1, none⟩ = some (.int .u64 b) ∧ W.cell? ⟨p, 2, none⟩ = some (.int .u64 c) ∧ W.cell? ⟨p, 3, none⟩ = some (.string s) ∧ W.cell? ⟨p, 4, none⟩ = some (.string m) ∧ W.cell? ⟨p, 5, none⟩ = some (.string o) ∧ W.cell? ⟨q, 0, none⟩ = some (.int .u64 a') ∧ W.cell? ⟨q, 1, none⟩ = some (.int .u64 b') ∧ W.cell? ⟨q, 2, none⟩ = some (.int .u64 c') ∧ W.cell? ⟨q, 3, none⟩ = some (.string s') ∧ W.cell? ⟨q, 4, none⟩ = some (.string m') ∧ W.cell? ⟨q, 5, none⟩ = some (.string o') ∧ Hid (Below w.heap.size w W)) (first | assumption | exact two_on (drew_below _) HTxx.out | (apply two_on <;> first | assumption | exact two_on (drew_below _) HTxx.out))
    (first | (go_at_call 113; refine (Patch_any _ _ _ _ _ _ _).mono ?_; rintro e w' ⟨rfl, hb⟩) | (go_at_call 121; refine (seg_any _ _ _).mono ?_; rintro e w' ⟨rfl, rfl⟩))
  rename_i hHTxx'
  have HTxxx := Lib.hid hHTxx'
  clear hHTxx'
  obtain ⟨c0, c1, c2, c3, c4, c5, k0, k1, k2, k3, k4, k5, hh⟩ := HTxxx.out
  go_wp2_with fail
  refine (Pre_any _ _ _ _ _ _ _).mono ?_
  rintro e w1 ⟨rfl, hb⟩
  clear c0 c1 c2 c3 c4 c5 k0 k1 k2 k3 k4 k5
  go_wp2
  go_ret
  exact ⟨rfl, below_on hh.out hb⟩
set_option maxHeartbeats 2000000 in
set_option maxRecDepth 100000 in
theorem Compare_left (p q : Nat) (a b c a' b' c' : Int) (s m o s' m' o' : ByteArray) (w : World) (hp : IsVer w p a b c s m o) (hq : IsVer w q a' b' c' s' m' o') (h1 : (segF a a' != 0) = false) (h2 : (segF b b' != 0) = false) (h3 : (segF c c' != 0) = false) (hs : s.toList = []) (hs' : s'.toList.isEmpty = false) :
    Calls Tryd.prog 76 #[.pointer (some ⟨p, 0, none⟩), .pointer (some ⟨q, 0, none⟩)] w fun e w' => e = .returned (.int .i64 (1)) ∧ Below w.heap.size w w' := by
  have HT := Lib.hid (two_start hp hq)
  clear hp hq
  go_enter Tryd.func76, Tryd.ntmps76
  go_wp2_with fail
  go_region_held3 (fun W => W.cell? ⟨p, 0, none⟩ = some (.int .u64 a) ∧ W.cell? ⟨p, 1, none⟩ = some (.int .u64 b) ∧ W.cell? ⟨p, 2, none⟩ = some (.int .u64 c) ∧ W.cell? ⟨p, 3, none⟩ = some (.string s) ∧ W.cell? ⟨p, 4, none⟩ = some (.string m) ∧ W.cell? ⟨p, 5, none⟩ = some (.string o) ∧ W.cell? ⟨q, 0, none⟩ = some (.int .u64 a') ∧ W.cell? ⟨q, 1, none⟩ = some (.int .u64 b') ∧ W.cell? ⟨q, 2, none⟩ = some (.int .u64 c') ∧ W.cell? ⟨q, 3, none⟩ = some (.string s') ∧ W.cell? ⟨q, 4, none⟩ = some (.string m') ∧ W.cell? ⟨q, 5, none⟩ = some (.string o') ∧ Hid (Below w.heap.size w W)) (first | assumption | exact two_on (drew_below _) HT.out | (apply two_on <;> first | assumption | exact two_on (drew_below _) HT.out))
    (first | (go_at_call 111; refine (Major_any _ _ _ _ _ _ _).mono ?_; rintro e w' ⟨rfl, hb⟩) | (go_at_call 121; refine (seg_any _ _ _).mono ?_; rintro e w' ⟨rfl, rfl⟩))
  rename_i hHT'
  have HTx := Lib.hid hHT'
  clear hHT'
  go_wp2_with fail
  go_region_held3 (fun W => W.cell? ⟨p, 0, none⟩ = some (.int .u64 a) ∧ W.cell? ⟨p, 1, none⟩ = some (.int .u64 b) ∧ W.cell? ⟨p, 2, none⟩ = some (.int .u64 c) ∧ W.cell? ⟨p, 3, none⟩ = some (.string s) ∧ W.cell? ⟨p, 4, none⟩ = some (.string m) ∧ W.cell? ⟨p, 5, none⟩ = some (.string o) ∧ W.cell? ⟨q, 0, none⟩ = some (.int .u64 a') ∧ W.cell? ⟨q, 1, none⟩ = some (.int .u64 b') ∧ W.cell? ⟨q, 2, none⟩ = some (.int .u64 c') ∧ W.cell? ⟨q, 3, none⟩ = some (.string s') ∧ W.cell? ⟨q, 4, none⟩ = some (.string m') ∧ W.cell? ⟨q, 5, none⟩ = some (.string o') ∧ Hid (Below w.heap.size w W)) (first | assumption | exact two_on (drew_below _) HTx.out | (apply two_on <;> first | assumption | exact two_on (drew_below _) HTx.out))
    (first | (go_at_call 112; refine (Minor_any _ _ _ _ _ _ _).mono ?_; rintro e w' ⟨rfl, hb⟩) | (go_at_call 121; refine (seg_any _ _ _).mono ?_; rintro e w' ⟨rfl, rfl⟩))
  rename_i hHTx'
  have HTxx := Lib.hid hHTx'
  clear hHTx'
  go_wp2_with fail
  go_region_held3 (fun W => W.cell? ⟨p, 0, none⟩ = some (.int .u64 a) ∧ W.cell? ⟨p, 1, none⟩ = some (.int .u64 b) ∧ W.cell? ⟨p, 2, none⟩ = some (.int .u64 c) ∧ W.cell? ⟨p, 3, none⟩ = some (.string s) ∧ W.cell? ⟨p, 4, none⟩ = some (.string m) ∧ W.cell? ⟨p, 5, none⟩ = some (.string o) ∧ W.cell? ⟨q, 0, none⟩ = some (.int .u64 a') ∧ W.cell? ⟨q, 1, none⟩ = some (.int .u64 b') ∧ W.cell? ⟨q, 2, none⟩ = some (.int .u64 c') ∧ W.cell? ⟨q, 3, none⟩ = some (.string s') ∧ W.cell? ⟨q, 4, none⟩ = some (.string m') ∧ W.cell? ⟨q, 5, none⟩ = some (.string o') ∧ Hid (Below w.heap.size w W)) (first | assumption | exact two_on (drew_below _) HTxx.out | (apply two_on <;> first | assumption | exact two_on (drew_below _) HTxx.out))
    (first | (go_at_call 113; refine (Patch_any _ _ _ _ _ _ _).mono ?_; rintro e w' ⟨rfl, hb⟩) | (go_at_call 121; refine (seg_any _ _ _).mono ?_; rintro e w' ⟨rfl, rfl⟩))
  rename_i hHTxx'
  have HTxxx := Lib.hid hHTxx'
  clear hHTxx'
  obtain ⟨c0, c1, c2, c3, c4, c5, k0, k1, k2, k3, k4, k5, hh⟩ := HTxxx.out
  go_wp2_with fail
  refine (Pre_any _ _ _ _ _ _ _).mono ?_
  rintro e w1 ⟨rfl, hb⟩
  clear c0 c1 c2 c3 c4 c5 k0 k1 k2 k3 k4 k5
  go_wp2
  go_ret
  exact ⟨rfl, below_on hh.out hb⟩
set_option maxHeartbeats 2000000 in
set_option maxRecDepth 100000 in
theorem Compare_right (p q : Nat) (a b c a' b' c' : Int) (s m o s' m' o' : ByteArray) (w : World) (hp : IsVer w p a b c s m o) (hq : IsVer w q a' b' c' s' m' o') (h1 : (segF a a' != 0) = false) (h2 : (segF b b' != 0) = false) (h3 : (segF c c' != 0) = false) (hs : s.toList.isEmpty = false) (hs' : s'.toList = []) :
    Calls Tryd.prog 76 #[.pointer (some ⟨p, 0, none⟩), .pointer (some ⟨q, 0, none⟩)] w fun e w' => e = .returned (.int .i64 (-1)) ∧ Below w.heap.size w w' := by
  have HT := Lib.hid (two_start hp hq)
  clear hp hq
  go_enter Tryd.func76, Tryd.ntmps76
  go_wp2_with fail
  go_region_held3 (fun W => W.cell? ⟨p, 0, none⟩ = some (.int .u64 a) ∧ W.cell? ⟨p, 1, none⟩ = some (.int .u64 b) ∧ W.cell? ⟨p, 2, none⟩ = some (.int .u64 c) ∧ W.cell? ⟨p, 3, none⟩ = some (.string s) ∧ W.cell? ⟨p, 4, none⟩ = some (.string m) ∧ W.cell? ⟨p, 5, none⟩ = some (.string o) ∧ W.cell? ⟨q, 0, none⟩ = some (.int .u64 a') ∧ W.cell? ⟨q, 1, none⟩ = some (.int .u64 b') ∧ W.cell? ⟨q, 2, none⟩ = some (.int .u64 c') ∧ W.cell? ⟨q, 3, none⟩ = some (.string s') ∧ W.cell? ⟨q, 4, none⟩ = some (.string m') ∧ W.cell? ⟨q, 5, none⟩ = some (.string o') ∧ Hid (Below w.heap.size w W)) (first | assumption | exact two_on (drew_below _) HT.out | (apply two_on <;> first | assumption | exact two_on (drew_below _) HT.out))
    (first | (go_at_call 111; refine (Major_any _ _ _ _ _ _ _).mono ?_; rintro e w' ⟨rfl, hb⟩) | (go_at_call 121; refine (seg_any _ _ _).mono ?_; rintro e w' ⟨rfl, rfl⟩))
  rename_i hHT'
  have HTx := Lib.hid hHT'
  clear hHT'
  go_wp2_with fail
  go_region_held3 (fun W => W.cell? ⟨p, 0, none⟩ = some (.int .u64 a) ∧ W.cell? ⟨p, 1, none⟩ = some (.int .u64 b) ∧ W.cell? ⟨p, 2, none⟩ = some (.int .u64 c) ∧ W.cell? ⟨p, 3, none⟩ = some (.string s) ∧ W.cell? ⟨p, 4, none⟩ = some (.string m) ∧ W.cell? ⟨p, 5, none⟩ = some (.string o) ∧ W.cell? ⟨q, 0, none⟩ = some (.int .u64 a') ∧ W.cell? ⟨q, 1, none⟩ = some (.int .u64 b') ∧ W.cell? ⟨q, 2, none⟩ = some (.int .u64 c') ∧ W.cell? ⟨q, 3, none⟩ = some (.string s') ∧ W.cell? ⟨q, 4, none⟩ = some (.string m') ∧ W.cell? ⟨q, 5, none⟩ = some (.string o') ∧ Hid (Below w.heap.size w W)) (first | assumption | exact two_on (drew_below _) HTx.out | (apply two_on <;> first | assumption | exact two_on (drew_below _) HTx.out))
    (first | (go_at_call 112; refine (Minor_any _ _ _ _ _ _ _).mono ?_; rintro e w' ⟨rfl, hb⟩) | (go_at_call 121; refine (seg_any _ _ _).mono ?_; rintro e w' ⟨rfl, rfl⟩))
  rename_i hHTx'
  have HTxx := Lib.hid hHTx'
  clear hHTx'
  go_wp2_with fail
  go_region_held3 (fun W => W.cell? ⟨p, 0, none⟩ = some (.int .u64 a) ∧ W.cell? ⟨p, 1, none⟩ = some (.int .u64 b) ∧ W.cell? ⟨p, 2, none⟩ = some (.int .u64 c) ∧ W.cell? ⟨p, 3, none⟩ = some (.string s) ∧ W.cell? ⟨p, 4, none⟩ = some (.string m) ∧ W.cell? ⟨p, 5, none⟩ = some (.string o) ∧ W.cell? ⟨q, 0, none⟩ = some (.int .u64 a') ∧ W.cell? ⟨q, 1, none⟩ = some (.int .u64 b') ∧ W.cell? ⟨q, 2, none⟩ = some (.int .u64 c') ∧ W.cell? ⟨q, 3, none⟩ = some (.string s') ∧ W.cell? ⟨q, 4, none⟩ = some (.string m') ∧ W.cell? ⟨q, 5, none⟩ = some (.string o') ∧ Hid (Below w.heap.size w W)) (first | assumption | exact two_on (drew_below _) HTxx.out | (apply two_on <;> first | assumption | exact two_on (drew_below _) HTxx.out))
    (first | (go_at_call 113; refine (Patch_any _ _ _ _ _ _ _).mono ?_; rintro e w' ⟨rfl, hb⟩) | (go_at_call 121; refine (seg_any _ _ _).mono ?_; rintro e w' ⟨rfl, rfl⟩))
  rename_i hHTxx'
  have HTxxx := Lib.hid hHTxx'
  clear hHTxx'
  obtain ⟨c0, c1, c2, c3, c4, c5, k0, k1, k2, k3, k4, k5, hh⟩ := HTxxx.out
  go_wp2_with fail
  refine (Pre_any _ _ _ _ _ _ _).mono ?_
  rintro e w1 ⟨rfl, hb⟩
  clear c0 c1 c2 c3 c4 c5 k0 k1 k2 k3 k4 k5
  go_wp2
  go_ret
  exact ⟨rfl, below_on hh.out hb⟩
set_option maxHeartbeats 2000000 in
set_option maxRecDepth 100000 in
theorem Compare_pres (p q : Nat) (a b c a' b' c' : Int) (s m o s' m' o' : ByteArray) (w : World) (hp : IsVer w p a b c s m o) (hq : IsVer w q a' b' c' s' m' o') (h1 : (segF a a' != 0) = false) (h2 : (segF b b' != 0) = false) (h3 : (segF c c' != 0) = false) (hs : s.toList.isEmpty = false) (hs' : s'.toList.isEmpty = false) (k : Nat) (r : Int) (hr : semver_comparePrerelease.f k s s' = some r) (hG : GlobE w) :
    Calls Tryd.prog 76 #[.pointer (some ⟨p, 0, none⟩), .pointer (some ⟨q, 0, none⟩)] w fun e w' => e = .returned (.int .i64 (r)) ∧ Below w.heap.size w w' := by
  have HG := Lib.hid hG
  have HR := Lib.hid hr
  clear hG hr
  have HT := Lib.hid (two_start hp hq)
  clear hp hq
  go_enter Tryd.func76, Tryd.ntmps76
  go_wp2_with fail
  go_region_held3 (fun W => W.cell? ⟨p, 0, none⟩ = some (.int .u64 a) ∧ W.cell? ⟨p, 1, none⟩ = some (.int .u64 b) ∧ W.cell? ⟨p, 2, none⟩ = some (.int .u64 c) ∧ W.cell? ⟨p, 3, none⟩ = some (.string s) ∧ W.cell? ⟨p, 4, none⟩ = some (.string m) ∧ W.cell? ⟨p, 5, none⟩ = some (.string o) ∧ W.cell? ⟨q, 0, none⟩ = some (.int .u64 a') ∧ W.cell? ⟨q, 1, none⟩ = some (.int .u64 b') ∧ W.cell? ⟨q, 2, none⟩ = some (.int .u64 c') ∧ W.cell? ⟨q, 3, none⟩ = some (.string s') ∧ W.cell? ⟨q, 4, none⟩ = some (.string m') ∧ W.cell? ⟨q, 5, none⟩ = some (.string o') ∧ Hid (Below w.heap.size w W)) (first | assumption | exact two_on (drew_below _) HT.out | (apply two_on <;> first | assumption | exact two_on (drew_below _) HT.out))
    (first | (go_at_call 111; refine (Major_any _ _ _ _ _ _ _).mono ?_; rintro e w' ⟨rfl, hb⟩) | (go_at_call 121; refine (seg_any _ _ _).mono ?_; rintro e w' ⟨rfl, rfl⟩))
  rename_i hHT'
  have HTx := Lib.hid hHT'
  clear hHT'
  go_wp2_with fail
  go_region_held3 (fun W => W.cell? ⟨p, 0, none⟩ = some (.int .u64 a) ∧ W.cell? ⟨p, 1, none⟩ = some (.int .u64 b) ∧ W.cell? ⟨p, 2, none⟩ = some (.int .u64 c) ∧ W.cell? ⟨p, 3, none⟩ = some (.string s) ∧ W.cell? ⟨p, 4, none⟩ = some (.string m) ∧ W.cell? ⟨p, 5, none⟩ = some (.string o) ∧ W.cell? ⟨q, 0, none⟩ = some (.int .u64 a') ∧ W.cell? ⟨q, 1, none⟩ = some (.int .u64 b') ∧ W.cell? ⟨q, 2, none⟩ = some (.int .u64 c') ∧ W.cell? ⟨q, 3, none⟩ = some (.string s') ∧ W.cell? ⟨q, 4, none⟩ = some (.string m') ∧ W.cell? ⟨q, 5, none⟩ = some (.string o') ∧ Hid (Below w.heap.size w W)) (first | assumption | exact two_on (drew_below _) HTx.out | (apply two_on <;> first | assumption | exact two_on (drew_below _) HTx.out))
    (first | (go_at_call 112; refine (Minor_any _ _ _ _ _ _ _).mono ?_; rintro e w' ⟨rfl, hb⟩) | (go_at_call 121; refine (seg_any _ _ _).mono ?_; rintro e w' ⟨rfl, rfl⟩))
  rename_i hHTx'
  have HTxx := Lib.hid hHTx'
  clear hHTx'
  go_wp2_with fail
  go_region_held3 (fun W => W.cell? ⟨p, 0, none⟩ = some (.int .u64 a) ∧ W.cell? ⟨p, 1, none⟩ = some (.int .u64 b) ∧ W.cell? ⟨p, 2, none⟩ = some (.int .u64 c) ∧ W.cell? ⟨p, 3, none⟩ = some (.string s) ∧ W.cell? ⟨p, 4, none⟩ = some (.string m) ∧ W.cell? ⟨p, 5, none⟩ = some (.string o) ∧ W.cell? ⟨q, 0, none⟩ = some (.int .u64 a') ∧ W.cell? ⟨q, 1, none⟩ = some (.int .u64 b') ∧ W.cell? ⟨q, 2, none⟩ = some (.int .u64 c') ∧ W.cell? ⟨q, 3, none⟩ = some (.string s') ∧ W.cell? ⟨q, 4, none⟩ = some (.string m') ∧ W.cell? ⟨q, 5, none⟩ = some (.string o') ∧ Hid (Below w.heap.size w W)) (first | assumption | exact two_on (drew_below _) HTxx.out | (apply two_on <;> first | assumption | exact two_on (drew_below _) HTxx.out))
    (first | (go_at_call 113; refine (Patch_any _ _ _ _ _ _ _).mono ?_; rintro e w' ⟨rfl, hb⟩) | (go_at_call 121; refine (seg_any _ _ _).mono ?_; rintro e w' ⟨rfl, rfl⟩))
  rename_i hHTxx'
  have HTxxx := Lib.hid hHTxx'
  clear hHTxx'
  obtain ⟨c0, c1, c2, c3, c4, c5, k0, k1, k2, k3, k4, k5, hh⟩ := HTxxx.out
  go_wp2_with fail
  refine (Pre_any _ _ _ _ _ _ _).mono ?_
  rintro e w1 ⟨rfl, hb⟩
  clear c0 c1 c2 c3 c4 c5 k0 k1 k2 k3 k4 k5
  go_wp2_with fail
  refine (semver_comparePrerelease.calls k s s' r _ (globE_below HG.out (below_on hh.out hb)) HR.out).mono ?_
  rintro e w2 ⟨rfl, hb2⟩
  go_wp2
  go_ret
  exact ⟨rfl, below_on (below_on hh.out hb) hb2⟩

/-- what Compare returns, where the comparison of the prereleases comes to 'pre' -/
def cmpF (a b c a' b' c' : Int) (s s' : ByteArray) (pre : Int) : Int :=
  if segF a a' ≠ 0 then segF a a' else if segF b b' ≠ 0 then segF b b' else if segF c c' ≠ 0 then segF c c' else
  if s.toList = [] then (if s'.toList = [] then 0 else 1) else if s'.toList = [] then -1 else pre

theorem Compare_any (p q : Nat) (a b c a' b' c' : Int) (s m o s' m' o' : ByteArray) (w : World) (hp : IsVer w p a b c s m o) (hq : IsVer w q a' b' c' s' m' o')
    (hG : GlobE w) (k : Nat) (r : Int) (hr : semver_comparePrerelease.f k s s' = some r) :
    Calls Tryd.prog 76 #[.pointer (some ⟨p, 0, none⟩), .pointer (some ⟨q, 0, none⟩)] w fun e w' => e = .returned (.int .i64 (cmpF a b c a' b' c' s s' r)) ∧ Below w.heap.size w w' := by
  unfold cmpF
  by_cases h1 : segF a a' = 0
  · rw [if_neg (by simpa using h1)]
    by_cases h2 : segF b b' = 0
    · rw [if_neg (by simpa using h2)]
      by_cases h3 : segF c c' = 0
      · rw [if_neg (by simpa using h3)]
        have g1 : (segF a a' != 0) = false := by simpa using h1
        have g2 : (segF b b' != 0) = false := by simpa using h2
        have g3 : (segF c c' != 0) = false := by simpa using h3
        by_cases hs : s.toList = []
        · rw [if_pos hs]
          by_cases hs' : s'.toList = []
          · rw [if_pos hs']; exact Compare_none p q a b c a' b' c' s m o s' m' o' w hp hq g1 g2 g3 hs hs'
          · rw [if_neg hs']; exact Compare_left p q a b c a' b' c' s m o s' m' o' w hp hq g1 g2 g3 hs (by simpa using hs')
        · rw [if_neg hs]
          by_cases hs' : s'.toList = []
          · rw [if_pos hs']; exact Compare_right p q a b c a' b' c' s m o s' m' o' w hp hq g1 g2 g3 (by simpa using hs) hs'
          · rw [if_neg hs']; exact Compare_pres p q a b c a' b' c' s m o s' m' o' w hp hq g1 g2 g3 (by simpa using hs) (by simpa using hs') k r hr hG
      · rw [if_pos (by simpa using h3)]; exact Compare_patch p q a b c a' b' c' s m o s' m' o' w hp hq (by simpa using h1) (by simpa using h2) (by simpa using h3)
    · rw [if_pos (by simpa using h2)]; exact Compare_minor p q a b c a' b' c' s m o s' m' o' w hp hq (by simpa using h1) (by simpa using h2)
  · rw [if_pos (by simpa using h1)]; exact Compare_major p q a b c a' b' c' s m o s' m' o' w hp hq (by simpa using h1)
end Go.Proofs.YtlooelfkkbgmhaaDoor

namespace Go.Proofs.YtlooelfkkbgmhaaDoor
open Go Go.RowKit

theorem bl_drew {B : Nat} {w W : World} (h : Below B w W) : Below B w W.drew := ⟨h.os, h.tape, h.output, h.size, h.block⟩
theorem bl_alloc {w W : World} (h : Below w.heap.size w W) (o : Obj) : Below w.heap.size w (W.alloc o) := h.alloc h.size o
theorem bl_on {w W W1 : World} (h : Below w.heap.size w W) (h1 : Below W.heap.size W W1) : Below w.heap.size w W1 := h.trans (h1.mono h.size)

theorem version_any (a b c : Int) (s m : ByteArray) (w : World) :
    Calls Tryd.prog 66 #[.agg #[.int .u64 a, .int .u64 b, .int .u64 c, .string s, .string m]] w fun e w' => e = .returned (.pointer (some ⟨w.heap.size + 1, 0, none⟩)) ∧
      w' = (w.alloc (.cells #[.int .u64 a, .int .u64 b, .int .u64 c, .string s, .string m] 24)).alloc (.cells #[.int .u64 a, .int .u64 b, .int .u64 c, .string s, .string m, .string ⟨#[]⟩] 70) := by
  go_enter Tryd.func66, Tryd.ntmps66
  go_wp2
  go_ret
  exact ⟨rfl, rfl⟩

set_option maxHeartbeats 2000000 in
set_option maxRecDepth 100000 in
theorem VersionCompare_any (a b c a' b' c' : Int) (s m s' m' : ByteArray) (w : World) (k : Nat) (r : Int) (hr : semver_comparePrerelease.f k s s' = some r) (hG : GlobE w) :
    Calls Tryd.prog 27 #[.agg #[.int .u64 a, .int .u64 b, .int .u64 c, .string s, .string m], .agg #[.int .u64 a', .int .u64 b', .int .u64 c', .string s', .string m']] w fun e w' => e = .returned (.int .i64 (cmpF a b c a' b' c' s s' r)) ∧ Below w.heap.size w w' := by
  have HG := Lib.hid hG
  have HR := Lib.hid hr
  clear hG hr
  go_enter Tryd.func27, Tryd.ntmps27
  go_wp2_with fail
  go_region_with (first
    | (go_at_call 66; refine (version_any _ _ _ _ _ _).mono ?_; rintro e w' ⟨rfl, rfl⟩)
    | (go_at_call 76; refine (Compare_any _ _ a b c a' b' c' s m ⟨#[]⟩ s' m' ⟨#[]⟩ _ ?_ ?_ ?_ k r HR.out).mono ?_; (unfold IsVer; go_simp); (unfold IsVer; go_simp); (exact globE_below HG.out (by repeat (first | exact Below.refl _ _ | apply bl_drew | apply bl_alloc))); rintro e w' ⟨rfl, hb⟩))
  all_goals go_wp2
  all_goals go_ret
  all_goals exact ⟨rfl, bl_on (by repeat (first | exact Below.refl _ _ | apply bl_drew | apply bl_alloc)) hb⟩

set_option maxRecDepth 100000 in
theorem Less_any (p q : Nat) (a b c a' b' c' : Int) (s m o s' m' o' : ByteArray) (w : World) (hp : IsVer w p a b c s m o) (hq : IsVer w q a' b' c' s' m' o')
    (hG : GlobE w) (k : Nat) (r : Int) (hr : semver_comparePrerelease.f k s s' = some r) :
    Calls Tryd.prog 78 #[.pointer (some ⟨p, 0, none⟩), .pointer (some ⟨q, 0, none⟩)] w fun e w' => e = .returned (.bool (decide (cmpF a b c a' b' c' s s' r < 0))) ∧ Below w.heap.size w w' := by
  have HP := Lib.hid hp
  have HQ := Lib.hid hq
  have HG := Lib.hid hG
  have HR := Lib.hid hr
  clear hp hq hG hr
  go_enter Tryd.func78, Tryd.ntmps78
  go_wp2_with (go_at_call 76; refine (Compare_any p q a b c a' b' c' s m o s' m' o' _ HP.out HQ.out HG.out k r HR.out).mono ?_; rintro e w' ⟨rfl, hb⟩)
  go_ret
  exact ⟨rfl, hb⟩

set_option maxRecDepth 100000 in
theorem LessEqual_any (p q : Nat) (a b c a' b' c' : Int) (s m o s' m' o' : ByteArray) (w : World) (hp : IsVer w p a b c s m o) (hq : IsVer w q a' b' c' s' m' o')
    (hG : GlobE w) (k : Nat) (r : Int) (hr : semver_comparePrerelease.f k s s' = some r) :
    Calls Tryd.prog 79 #[.pointer (some ⟨p, 0, none⟩), .pointer (some ⟨q, 0, none⟩)] w fun e w' => e = .returned (.bool (decide (cmpF a b c a' b' c' s s' r ≤ 0))) ∧ Below w.heap.size w w' := by
  have HP := Lib.hid hp
  have HQ := Lib.hid hq
  have HG := Lib.hid hG
  have HR := Lib.hid hr
  clear hp hq hG hr
  go_enter Tryd.func79, Tryd.ntmps79
  go_wp2_with (go_at_call 76; refine (Compare_any p q a b c a' b' c' s m o s' m' o' _ HP.out HQ.out HG.out k r HR.out).mono ?_; rintro e w' ⟨rfl, hb⟩)
  go_ret
  exact ⟨rfl, hb⟩

set_option maxRecDepth 100000 in
theorem Greater_any (p q : Nat) (a b c a' b' c' : Int) (s m o s' m' o' : ByteArray) (w : World) (hp : IsVer w p a b c s m o) (hq : IsVer w q a' b' c' s' m' o')
    (hG : GlobE w) (k : Nat) (r : Int) (hr : semver_comparePrerelease.f k s s' = some r) :
    Calls Tryd.prog 80 #[.pointer (some ⟨p, 0, none⟩), .pointer (some ⟨q, 0, none⟩)] w fun e w' => e = .returned (.bool (decide (0 < cmpF a b c a' b' c' s s' r))) ∧ Below w.heap.size w w' := by
  have HP := Lib.hid hp
  have HQ := Lib.hid hq
  have HG := Lib.hid hG
  have HR := Lib.hid hr
  clear hp hq hG hr
  go_enter Tryd.func80, Tryd.ntmps80
  go_wp2_with (go_at_call 76; refine (Compare_any p q a b c a' b' c' s m o s' m' o' _ HP.out HQ.out HG.out k r HR.out).mono ?_; rintro e w' ⟨rfl, hb⟩)
  go_ret
  exact ⟨rfl, hb⟩

set_option maxRecDepth 100000 in
theorem GreaterEqual_any (p q : Nat) (a b c a' b' c' : Int) (s m o s' m' o' : ByteArray) (w : World) (hp : IsVer w p a b c s m o) (hq : IsVer w q a' b' c' s' m' o')
    (hG : GlobE w) (k : Nat) (r : Int) (hr : semver_comparePrerelease.f k s s' = some r) :
    Calls Tryd.prog 81 #[.pointer (some ⟨p, 0, none⟩), .pointer (some ⟨q, 0, none⟩)] w fun e w' => e = .returned (.bool (decide (0 ≤ cmpF a b c a' b' c' s s' r))) ∧ Below w.heap.size w w' := by
  have HP := Lib.hid hp
  have HQ := Lib.hid hq
  have HG := Lib.hid hG
  have HR := Lib.hid hr
  clear hp hq hG hr
  go_enter Tryd.func81, Tryd.ntmps81
  go_wp2_with (go_at_call 76; refine (Compare_any p q a b c a' b' c' s m o s' m' o' _ HP.out HQ.out HG.out k r HR.out).mono ?_; rintro e w' ⟨rfl, hb⟩)
  go_ret
  exact ⟨rfl, hb⟩

set_option maxHeartbeats 2000000 in
set_option maxRecDepth 100000 in
theorem VersionLess_any (a b c a' b' c' : Int) (s m s' m' : ByteArray) (w : World) (k : Nat) (r : Int) (hr : semver_comparePrerelease.f k s s' = some r) (hG : GlobE w) :
    Calls Tryd.prog 29 #[.agg #[.int .u64 a, .int .u64 b, .int .u64 c, .string s, .string m], .agg #[.int .u64 a', .int .u64 b', .int .u64 c', .string s', .string m']] w fun e w' => e = .returned (.bool (decide (cmpF a b c a' b' c' s s' r < 0))) ∧ Below w.heap.size w w' := by
  have HG := Lib.hid hG
  have HR := Lib.hid hr
  clear hG hr
  go_enter Tryd.func29, Tryd.ntmps29
  go_wp2_with fail
  go_region_with (first
    | (go_at_call 66; refine (version_any _ _ _ _ _ _).mono ?_; rintro e w' ⟨rfl, rfl⟩)
    | (go_at_call 78; refine (Less_any _ _ a b c a' b' c' s m ⟨#[]⟩ s' m' ⟨#[]⟩ _ ?_ ?_ ?_ k r HR.out).mono ?_; (unfold IsVer; go_simp); (unfold IsVer; go_simp); (exact globE_below HG.out (by repeat (first | exact Below.refl _ _ | apply bl_drew | apply bl_alloc))); rintro e w' ⟨rfl, hb⟩))
  all_goals go_wp2
  all_goals go_ret
  all_goals exact ⟨rfl, bl_on (by repeat (first | exact Below.refl _ _ | apply bl_drew | apply bl_alloc)) hb⟩

set_option maxHeartbeats 2000000 in
set_option maxRecDepth 100000 in
theorem VersionLessEqual_any (a b c a' b' c' : Int) (s m s' m' : ByteArray) (w : World) (k : Nat) (r : Int) (hr : semver_comparePrerelease.f k s s' = some r) (hG : GlobE w) :
    Calls Tryd.prog 30 #[.agg #[.int .u64 a, .int .u64 b, .int .u64 c, .string s, .string m], .agg #[.int .u64 a', .int .u64 b', .int .u64 c', .string s', .string m']] w fun e w' => e = .returned (.bool (decide (cmpF a b c a' b' c' s s' r ≤ 0))) ∧ Below w.heap.size w w' := by
  have HG := Lib.hid hG
  have HR := Lib.hid hr
  clear hG hr
  go_enter Tryd.func30, Tryd.ntmps30
  go_wp2_with fail
  go_region_with (first
    | (go_at_call 66; refine (version_any _ _ _ _ _ _).mono ?_; rintro e w' ⟨rfl, rfl⟩)
    | (go_at_call 79; refine (LessEqual_any _ _ a b c a' b' c' s m ⟨#[]⟩ s' m' ⟨#[]⟩ _ ?_ ?_ ?_ k r HR.out).mono ?_; (unfold IsVer; go_simp); (unfold IsVer; go_simp); (exact globE_below HG.out (by repeat (first | exact Below.refl _ _ | apply bl_drew | apply bl_alloc))); rintro e w' ⟨rfl, hb⟩))
  all_goals go_wp2
  all_goals go_ret
  all_goals exact ⟨rfl, bl_on (by repeat (first | exact Below.refl _ _ | apply bl_drew | apply bl_alloc)) hb⟩

set_option maxHeartbeats 2000000 in
set_option maxRecDepth 100000 in
theorem VersionGreater_any (a b c a' b' c' : Int) (s m s' m' : ByteArray) (w : World) (k : Nat) (r : Int) (hr : semver_comparePrerelease.f k s s' = some r) (hG : GlobE w) :
    Calls Tryd.prog 31 #[.agg #[.int .u64 a, .int .u64 b, .int .u64 c, .string s, .string m], .agg #[.int .u64 a', .int .u64 b', .int .u64 c', .string s', .string m']] w fun e w' => e = .returned (.bool (decide (0 < cmpF a b c a' b' c' s s' r))) ∧ Below w.heap.size w w' := by
  have HG := Lib.hid hG
  have HR := Lib.hid hr
  clear hG hr
  go_enter Tryd.func31, Tryd.ntmps31
  go_wp2_with fail
  go_region_with (first
    | (go_at_call 66; refine (version_any _ _ _ _ _ _).mono ?_; rintro e w' ⟨rfl, rfl⟩)
    | (go_at_call 80; refine (Greater_any _ _ a b c a' b' c' s m ⟨#[]⟩ s' m' ⟨#[]⟩ _ ?_ ?_ ?_ k r HR.out).mono ?_; (unfold IsVer; go_simp); (unfold IsVer; go_simp); (exact globE_below HG.out (by repeat (first | exact Below.refl _ _ | apply bl_drew | apply bl_alloc))); rintro e w' ⟨rfl, hb⟩))
  all_goals go_wp2
  all_goals go_ret
  all_goals exact ⟨rfl, bl_on (by repeat (first | exact Below.refl _ _ | apply bl_drew | apply bl_alloc)) hb⟩

set_option maxHeartbeats 2000000 in
set_option maxRecDepth 100000 in
theorem VersionGreaterEqual_any (a b c a' b' c' : Int) (s m s' m' : ByteArray) (w : World) (k : Nat) (r : Int) (hr : semver_comparePrerelease.f k s s' = some r) (hG : GlobE w) :
    Calls Tryd.prog 32 #[.agg #[.int .u64 a, .int .u64 b, .int .u64 c, .string s, .string m], .agg #[.int .u64 a', .int .u64 b', .int .u64 c', .string s', .string m']] w fun e w' => e = .returned (.bool (decide (0 ≤ cmpF a b c a' b' c' s s' r))) ∧ Below w.heap.size w w' := by
  have HG := Lib.hid hG
  have HR := Lib.hid hr
  clear hG hr
  go_enter Tryd.func32, Tryd.ntmps32
  go_wp2_with fail
  go_region_with (first
    | (go_at_call 66; refine (version_any _ _ _ _ _ _).mono ?_; rintro e w' ⟨rfl, rfl⟩)
    | (go_at_call 81; refine (GreaterEqual_any _ _ a b c a' b' c' s m ⟨#[]⟩ s' m' ⟨#[]⟩ _ ?_ ?_ ?_ k r HR.out).mono ?_; (unfold IsVer; go_simp); (unfold IsVer; go_simp); (exact globE_below HG.out (by repeat (first | exact Below.refl _ _ | apply bl_drew | apply bl_alloc))); rintro e w' ⟨rfl, hb⟩))
  all_goals go_wp2
  all_goals go_ret
  all_goals exact ⟨rfl, bl_on (by repeat (first | exact Below.refl _ _ | apply bl_drew | apply bl_alloc)) hb⟩
end Go.Proofs.YtlooelfkkbgmhaaDoor

namespace Go.Proofs.YtlooelfkkbgmhaaDoor
open Go Go.RowKit

theorem run_eql_ptr {P : Program} {w : World} {t te : TypeId} {j : TypeInfo} {a b : Addr} {ca cb : Array Value} {ta tb : TypeId} (hu : P.underlying t = some (.pointer te)) (hte : P.info? te = some j) (hsz : j.size ≠ 0) (hne : a ≠ b) (ha : w.heap[a.block]? = some (.cells ca ta (0, 0))) (hb : w.heap[b.block]? = some (.cells cb tb (0, 0))) :
    (binOp .eql t (.pointer (some a)) (.pointer (some b))).run P w = .ok (.bool false) w := by
  have h : ∀ d : Nat, (Op.equalIn (d + 1) t (.pointer (some a)) (.pointer (some b))).run P w = .ok false w := fun d => by simp [Op.equalIn, run_underlying hu, typeInfo, sizeOf, hte, hsz, run_sameAddr_other w hne ha hb]
  simp only [binOp]
  simp [Op.equal, Op.maxDepth, h 9999]

/-- a block of plain cells -/
def Blk (w : World) (p : Nat) : Prop := ∃ ca ta, w.heap[p]? = some (.cells ca ta (0, 0))
theorem kblk_new {W : World} {p : Nat} {cs : Array Value} {t : TypeId} (h : p = W.heap.size) : Blk (W.alloc (.cells cs t)) p := by
  subst h
  exact ⟨cs, t, (MapKept.heap_alloc W _).1⟩
theorem blk_old {W : World} {p : Nat} {o : Obj} (h : Blk W p) : Blk (W.alloc o) p := by
  obtain ⟨ca, ta, h⟩ := h
  have hlt : p < W.heap.size := (Array.getElem?_eq_some_iff.1 h).1
  exact ⟨ca, ta, ((MapKept.heap_alloc W o).2 p hlt).trans h⟩
theorem kblk_drew {W : World} {p : Nat} (h : Blk W p) : Blk W.drew p := h

theorem two_blk1 (w : World) (o1 o2 o3 o5 : Obj) (c4 c6 : Array Value) (t4 t6 : TypeId) : Blk ((((((w.alloc o1).alloc o2).alloc o3).alloc (.cells c4 t4)).alloc o5).alloc (.cells c6 t6)).drew (w.heap.size + 1 + 1 + 1) :=
  kblk_drew (blk_old (blk_old (kblk_new (by simp))))
theorem two_blk2 (w : World) (o1 o2 o3 o5 : Obj) (c4 c6 : Array Value) (t4 t6 : TypeId) : Blk ((((((w.alloc o1).alloc o2).alloc o3).alloc (.cells c4 t4)).alloc o5).alloc (.cells c6 t6)).drew (w.heap.size + 1 + 1 + 1 + 1 + 1) :=
  kblk_drew (kblk_new (by simp))

set_option maxRecDepth 100000 in
theorem Equal_any (p q : Nat) (hne : p ≠ q) (a b c a' b' c' : Int) (s m o s' m' o' : ByteArray) (w : World) (hp : IsVer w p a b c s m o) (hq : IsVer w q a' b' c' s' m' o')
    (hpb : Blk w p) (hqb : Blk w q)
    (hG : GlobE w) (k : Nat) (r : Int) (hr : semver_comparePrerelease.f k s s' = some r) :
    Calls Tryd.prog 77 #[.pointer (some ⟨p, 0, none⟩), .pointer (some ⟨q, 0, none⟩)] w fun e w' => e = .returned (.bool (cmpF a b c a' b' c' s s' r == 0)) ∧ Below w.heap.size w w' := by
  obtain ⟨ca, ta, hpb⟩ := hpb
  obtain ⟨cb, tb, hqb⟩ := hqb
  obtain ⟨j70, hj70, hs70⟩ := Option.map_eq_some_iff.1 (show (Tryd.prog.info? 70).map (·.size) = some 6 by kernel_rfl)
  have he := run_eql_ptr (P := Tryd.prog) (t := 71) (a := ⟨p, 0, none⟩) (b := ⟨q, 0, none⟩) Tryd.underlying71 hj70 (by omega) (by intro h; injection h with h1; exact hne h1) hpb hqb
  have HP := Lib.hid hp
  have HQ := Lib.hid hq
  have HG := Lib.hid hG
  have HR := Lib.hid hr
  clear hp hq hG hr hpb hqb hj70 hs70
  go_enter Tryd.func77, Tryd.ntmps77
  go_wp2_with (go_at_call 76; refine (Compare_any p q a b c a' b' c' s m o s' m' o' _ HP.out HQ.out HG.out k r HR.out).mono ?_; rintro e w' ⟨rfl, hb⟩)
  go_ret
  exact ⟨rfl, hb⟩

set_option maxHeartbeats 2000000 in
set_option maxRecDepth 100000 in
theorem VersionEqual_any (a b c a' b' c' : Int) (s m s' m' : ByteArray) (w : World) (k : Nat) (r : Int) (hr : semver_comparePrerelease.f k s s' = some r) (hG : GlobE w) :
    Calls Tryd.prog 28 #[.agg #[.int .u64 a, .int .u64 b, .int .u64 c, .string s, .string m], .agg #[.int .u64 a', .int .u64 b', .int .u64 c', .string s', .string m']] w fun e w' => e = .returned (.bool (cmpF a b c a' b' c' s s' r == 0)) ∧ Below w.heap.size w w' := by
  have HG := Lib.hid hG
  have HR := Lib.hid hr
  clear hG hr
  go_enter Tryd.func28, Tryd.ntmps28
  go_wp2_with fail
  go_region_with (first
    | (go_at_call 66; refine (version_any _ _ _ _ _ _).mono ?_; rintro e w' ⟨rfl, rfl⟩)
    | (go_at_call 77; refine (Equal_any _ _ ?_ a b c a' b' c' s m ⟨#[]⟩ s' m' ⟨#[]⟩ _ ?_ ?_ ?_ ?_ ?_ k r HR.out).mono ?_; (omega); (unfold IsVer; go_simp); (unfold IsVer; go_simp); (exact two_blk1 _ _ _ _ _ _ _ _ _); (exact two_blk2 _ _ _ _ _ _ _ _ _); (exact globE_below HG.out (by repeat (first | exact Below.refl _ _ | apply bl_drew | apply bl_alloc))); rintro e w' ⟨rfl, hb⟩))
  all_goals go_wp2
  all_goals go_ret
  all_goals exact ⟨rfl, bl_on (by repeat (first | exact Below.refl _ _ | apply bl_drew | apply bl_alloc)) hb⟩
end Go.Proofs.YtlooelfkkbgmhaaDoor

set_option linter.unusedVariables false
namespace Go.Proofs.YtlooelfkkbgmhaaDoor
open Go Go.RowKit Go.Proofs.YtlooelfkkbgmhaaDoorW.PrintWords Go.Proofs.YtlooelfkkbgmhaaDoorW.PrintLast
def impl_VersionCompare.f (k : Nat) (a b c : Int) (s m : ByteArray) (a' b' c' : Int) (s' m' : ByteArray) : Option Int := (semver_comparePrerelease.f k s s').bind fun x => some ((cmpF a b c a' b' c' s s' x))
theorem impl_VersionCompare.mono : ∀ a b c s m a' b' c' s' m' k, LeO (impl_VersionCompare.f k a b c s m a' b' c' s' m') (impl_VersionCompare.f (k + 1) a b c s m a' b' c' s' m') := by
  intro a b c s m a' b' c' s' m' k
  exact LeO.bind (semver_comparePrerelease.mono s s' k) (fun _ => LeO.refl _)
theorem impl_VersionCompare.calls (k : Nat) (a b c : Int) (s m : ByteArray) (a' b' c' : Int) (s' m' : ByteArray) (r : Int) (w : World) (hGE : GlobE w) (h : impl_VersionCompare.f k a b c s m a' b' c' s' m' = some r) :
    Calls Tryd.prog 27 #[.agg #[.int .u64 a, .int .u64 b, .int .u64 c, .string s, .string m], .agg #[.int .u64 a', .int .u64 b', .int .u64 c', .string s', .string m']] w fun e w' => e = .returned (.int .i64 r) ∧ Below w.heap.size w w' := by
  obtain ⟨x, hx, h⟩ := Option.bind_eq_some_iff.1 h
  obtain rfl := Option.some.inj h
  exact VersionCompare_any a b c a' b' c' s m s' m' w k x hx hGE
def impl_VersionEqual.f (k : Nat) (a b c : Int) (s m : ByteArray) (a' b' c' : Int) (s' m' : ByteArray) : Option Bool := (semver_comparePrerelease.f k s s').bind fun x => some (cmpF a b c a' b' c' s s' x == 0)
theorem impl_VersionEqual.mono : ∀ a b c s m a' b' c' s' m' k, LeO (impl_VersionEqual.f k a b c s m a' b' c' s' m') (impl_VersionEqual.f (k + 1) a b c s m a' b' c' s' m') := by
  intro a b c s m a' b' c' s' m' k
  exact LeO.bind (semver_comparePrerelease.mono s s' k) (fun _ => LeO.refl _)
theorem impl_VersionEqual.calls (k : Nat) (a b c : Int) (s m : ByteArray) (a' b' c' : Int) (s' m' : ByteArray) (r : Bool) (w : World) (hGE : GlobE w) (h : impl_VersionEqual.f k a b c s m a' b' c' s' m' = some r) :
    Calls Tryd.prog 28 #[.agg #[.int .u64 a, .int .u64 b, .int .u64 c, .string s, .string m], .agg #[.int .u64 a', .int .u64 b', .int .u64 c', .string s', .string m']] w fun e w' => e = .returned (.bool r) ∧ Below w.heap.size w w' := by
  obtain ⟨x, hx, h⟩ := Option.bind_eq_some_iff.1 h
  obtain rfl := Option.some.inj h
  exact VersionEqual_any a b c a' b' c' s m s' m' w k x hx hGE
def impl_VersionLess.f (k : Nat) (a b c : Int) (s m : ByteArray) (a' b' c' : Int) (s' m' : ByteArray) : Option Bool := (semver_comparePrerelease.f k s s').bind fun x => some (decide (cmpF a b c a' b' c' s s' x < 0))
theorem impl_VersionLess.mono : ∀ a b c s m a' b' c' s' m' k, LeO (impl_VersionLess.f k a b c s m a' b' c' s' m') (impl_VersionLess.f (k + 1) a b c s m a' b' c' s' m') := by
  intro a b c s m a' b' c' s' m' k
  exact LeO.bind (semver_comparePrerelease.mono s s' k) (fun _ => LeO.refl _)
theorem impl_VersionLess.calls (k : Nat) (a b c : Int) (s m : ByteArray) (a' b' c' : Int) (s' m' : ByteArray) (r : Bool) (w : World) (hGE : GlobE w) (h : impl_VersionLess.f k a b c s m a' b' c' s' m' = some r) :
    Calls Tryd.prog 29 #[.agg #[.int .u64 a, .int .u64 b, .int .u64 c, .string s, .string m], .agg #[.int .u64 a', .int .u64 b', .int .u64 c', .string s', .string m']] w fun e w' => e = .returned (.bool r) ∧ Below w.heap.size w w' := by
  obtain ⟨x, hx, h⟩ := Option.bind_eq_some_iff.1 h
  obtain rfl := Option.some.inj h
  exact VersionLess_any a b c a' b' c' s m s' m' w k x hx hGE
def impl_VersionLessEqual.f (k : Nat) (a b c : Int) (s m : ByteArray) (a' b' c' : Int) (s' m' : ByteArray) : Option Bool := (semver_comparePrerelease.f k s s').bind fun x => some (decide (cmpF a b c a' b' c' s s' x ≤ 0))
theorem impl_VersionLessEqual.mono : ∀ a b c s m a' b' c' s' m' k, LeO (impl_VersionLessEqual.f k a b c s m a' b' c' s' m') (impl_VersionLessEqual.f (k + 1) a b c s m a' b' c' s' m') := by
  intro a b c s m a' b' c' s' m' k
  exact LeO.bind (semver_comparePrerelease.mono s s' k) (fun _ => LeO.refl _)
theorem impl_VersionLessEqual.calls (k : Nat) (a b c : Int) (s m : ByteArray) (a' b' c' : Int) (s' m' : ByteArray) (r : Bool) (w : World) (hGE : GlobE w) (h : impl_VersionLessEqual.f k a b c s m a' b' c' s' m' = some r) :
    Calls Tryd.prog 30 #[.agg #[.int .u64 a, .int .u64 b, .int .u64 c, .string s, .string m], .agg #[.int .u64 a', .int .u64 b', .int .u64 c', .string s', .string m']] w fun e w' => e = .returned (.bool r) ∧ Below w.heap.size w w' := by
  obtain ⟨x, hx, h⟩ := Option.bind_eq_some_iff.1 h
  obtain rfl := Option.some.inj h
  exact VersionLessEqual_any a b c a' b' c' s m s' m' w k x hx hGE
def impl_VersionGreater.f (k : Nat) (a b c : Int) (s m : ByteArray) (a' b' c' : Int) (s' m' : ByteArray) : Option Bool := (semver_comparePrerelease.f k s s').bind fun x => some (decide (cmpF a b c a' b' c' s s' x > 0))
theorem impl_VersionGreater.mono : ∀ a b c s m a' b' c' s' m' k, LeO (impl_VersionGreater.f k a b c s m a' b' c' s' m') (impl_VersionGreater.f (k + 1) a b c s m a' b' c' s' m') := by
  intro a b c s m a' b' c' s' m' k
  exact LeO.bind (semver_comparePrerelease.mono s s' k) (fun _ => LeO.refl _)
theorem impl_VersionGreater.calls (k : Nat) (a b c : Int) (s m : ByteArray) (a' b' c' : Int) (s' m' : ByteArray) (r : Bool) (w : World) (hGE : GlobE w) (h : impl_VersionGreater.f k a b c s m a' b' c' s' m' = some r) :
    Calls Tryd.prog 31 #[.agg #[.int .u64 a, .int .u64 b, .int .u64 c, .string s, .string m], .agg #[.int .u64 a', .int .u64 b', .int .u64 c', .string s', .string m']] w fun e w' => e = .returned (.bool r) ∧ Below w.heap.size w w' := by
  obtain ⟨x, hx, h⟩ := Option.bind_eq_some_iff.1 h
  obtain rfl := Option.some.inj h
  exact VersionGreater_any a b c a' b' c' s m s' m' w k x hx hGE
def impl_VersionGreaterEqual.f (k : Nat) (a b c : Int) (s m : ByteArray) (a' b' c' : Int) (s' m' : ByteArray) : Option Bool := (semver_comparePrerelease.f k s s').bind fun x => some (decide (cmpF a b c a' b' c' s s' x ≥ 0))
theorem impl_VersionGreaterEqual.mono : ∀ a b c s m a' b' c' s' m' k, LeO (impl_VersionGreaterEqual.f k a b c s m a' b' c' s' m') (impl_VersionGreaterEqual.f (k + 1) a b c s m a' b' c' s' m') := by
  intro a b c s m a' b' c' s' m' k
  exact LeO.bind (semver_comparePrerelease.mono s s' k) (fun _ => LeO.refl _)
theorem impl_VersionGreaterEqual.calls (k : Nat) (a b c : Int) (s m : ByteArray) (a' b' c' : Int) (s' m' : ByteArray) (r : Bool) (w : World) (hGE : GlobE w) (h : impl_VersionGreaterEqual.f k a b c s m a' b' c' s' m' = some r) :
    Calls Tryd.prog 32 #[.agg #[.int .u64 a, .int .u64 b, .int .u64 c, .string s, .string m], .agg #[.int .u64 a', .int .u64 b', .int .u64 c', .string s', .string m']] w fun e w' => e = .returned (.bool r) ∧ Below w.heap.size w w' := by
  obtain ⟨x, hx, h⟩ := Option.bind_eq_some_iff.1 h
  obtain rfl := Option.some.inj h
  exact VersionGreaterEqual_any a b c a' b' c' s m s' m' w k x hx hGE
end Go.Proofs.YtlooelfkkbgmhaaDoor
