/-
  The reference's comparison of the first numbers of two versions, as a function with a contract.
-/
import Derived.Test.YtlooelfkkbgmhaaDoorCmp
import Derived.Deep.QuietTactic
import Derived.BigQuiet
set_option linter.unusedVariables false
set_option linter.unusedSimpArgs false
namespace Go.Proofs.YtlooelfkkbgmhaaDoor
open Go Go.RowKit Go.Proofs.YtlooelfkkbgmhaaDoorW.PrintWords Go.Proofs.YtlooelfkkbgmhaaDoorW.PrintLast

/-- the first k of three numbers, compared from the left -/
def cnF (a b c a' b' c' k : Int) : Int :=
  if k ≤ 0 then 0 else if segF a a' ≠ 0 then segF a a' else if k ≤ 1 then 0 else if segF b b' ≠ 0 then segF b b' else if k ≤ 2 then 0 else segF c c'

theorem order_any (a b : Int) (w : World) : Calls Tryd.prog 74 #[.int .u64 a, .int .u64 b] w fun e w' => e = .returned (.int .i64 (segF a b)) ∧ w = w' := by
  unfold segF
  by_cases h1 : a < b
  · rw [if_pos h1]
    go_enter Tryd.func74, Tryd.ntmps74
    go_wp2
    go_ret
    exact ⟨rfl, rfl⟩
  · rw [if_neg h1]
    by_cases h2 : b < a
    · rw [if_pos h2]
      go_enter Tryd.func74, Tryd.ntmps74
      go_wp2
      go_ret
      exact ⟨rfl, rfl⟩
    · rw [if_neg h2]
      go_enter Tryd.func74, Tryd.ntmps74
      go_wp2
      go_ret
      exact ⟨rfl, rfl⟩

theorem ret_int {k : IntKind} {a b : Int} (h : a = b) : Ending.returned (.int k a) = .returned (.int k b) := by rw [h]
theorem bool_two' (x : Bool) : x = false ∨ x = true := by cases x <;> simp
/-- two rows of three numbers -/
def Six (w : World) (g h : Nat) (a b c a' b' c' : Int) (W : World) : Prop := W.cell? ⟨g, 0, none⟩ = some (.int .u64 a) ∧ W.cell? ⟨g, 1, none⟩ = some (.int .u64 b) ∧ W.cell? ⟨g, 2, none⟩ = some (.int .u64 c) ∧ W.cell? ⟨h, 0, none⟩ = some (.int .u64 a') ∧ W.cell? ⟨h, 1, none⟩ = some (.int .u64 b') ∧ W.cell? ⟨h, 2, none⟩ = some (.int .u64 c') ∧ Below w.heap.size w W
theorem six_drew {w W : World} {g h : Nat} {a b c a' b' c' : Int} (H : Six w g h a b c a' b' c' W) (n : Nat) : Six w g h a b c a' b' c' (W.drewN n) := by
  obtain ⟨c0, c1, c2, c3, c4, c5, hb⟩ := H
  exact ⟨c0, c1, c2, c3, c4, c5, ⟨hb.os, hb.tape, hb.output, hb.size, hb.block⟩⟩

set_option maxHeartbeats 4000000 in
set_option maxRecDepth 100000 in
theorem cn_any (a b c a' b' c' k : Int) (s m s' m' : ByteArray) (w : World) :
    Calls Tryd.prog 94 #[.agg #[.int .u64 a, .int .u64 b, .int .u64 c, .string s, .string m], .agg #[.int .u64 a', .int .u64 b', .int .u64 c', .string s', .string m'], .int .i64 k] w fun e w' => e = .returned (.int .i64 (cnF a b c a' b' c' k)) ∧ Below w.heap.size w w' := by
  go_enter Tryd.func94, Tryd.ntmps94
  go_upto_region 1 with fail
  go_cut [7, 8] (fun s7 s8 W => ∃ g h : Nat, s7 = .pointer (some ⟨g, 0, none⟩) ∧ s8 = .pointer (some ⟨h, 0, none⟩) ∧ Hid (Six w g h a b c a' b' c' W))
  case first =>
    first | go_region_held3 (fun W => W.cell? ⟨w.heap.size, 0, none⟩ = some (.int .u64 a) ∧ W.cell? ⟨w.heap.size, 1, none⟩ = some (.int .u64 b) ∧ W.cell? ⟨w.heap.size, 2, none⟩ = some (.int .u64 c) ∧ W.cell? ⟨w.heap.size + 1, 0, none⟩ = some (.int .u64 a') ∧ W.cell? ⟨w.heap.size + 1, 1, none⟩ = some (.int .u64 b') ∧ W.cell? ⟨w.heap.size + 1, 2, none⟩ = some (.int .u64 c')) (first | (go_simp; done) | go_keep) (first | fail) | fail
    all_goals go_wp2_with fail
    all_goals go_meet
    all_goals exact ⟨_, _, rfl, rfl, Lib.hid ⟨by go_simp, by go_simp, by go_simp, by go_simp, by go_simp, by go_simp, by repeat (first | exact Below.refl _ _ | apply bl_drew | apply bl_alloc)⟩⟩
  case rest =>
    obtain ⟨g, h, rfl, rfl, HS⟩ := hcut
    go_wp2_with fail
    go_loopw [9] (fun i W => ∃ n : Int, 0 ≤ n ∧ n ≤ 3 ∧ i = .int .i64 n ∧ Hid ((0 < n → segF a a' = 0 ∧ 0 < k) ∧ (1 < n → segF b b' = 0 ∧ 1 < k) ∧ (2 < n → segF c c' = 0 ∧ 2 < k)) ∧ Hid (Six w g h a b c a' b' c' W)) (fun i _ => 3 - (intOf i).toNat)
    case atStart => exact ⟨0, by omega, by omega, rfl, Lib.hid ⟨by omega, by omega, by omega⟩, HS⟩
    case round =>
      obtain ⟨n, hn0, hn, rfl, HP, HQ⟩ := hrel
      clear HS
      obtain ⟨c0, c1, c2, c3, c4, c5, hb⟩ := HQ.out
      have HB := Lib.hid hb
      clear hb
      have h4 : n = 0 ∨ n = 1 ∨ n = 2 ∨ n = 3 := by omega
      clear hn hn0
      rcases h4 with rfl | rfl | rfl | rfl
      · by_cases hk : 0 < k
        · rcases bool_two' (segF a a' != 0) with hs | hs
          · have hz : segF a a' = 0 := by simpa using hs
            have HZ := Lib.hid hz
            clear hz
            go_wp2_with fail
            go_quiet ((go_at_call 74; exact Calls.quiet_of_same ((order_any _ _ _).mono fun e w' h => ⟨h.1, h.2.symm⟩)))
            go_wp2_with fail
            go_roundw
            case rel => exact ⟨1, by omega, by omega, rfl, Lib.hid ⟨fun _ => ⟨HZ.out, hk⟩, by omega, by omega⟩, Lib.hid (six_drew HQ.out _)⟩
            case measure => simp [intOf]
          · have hz : segF a a' ≠ 0 := by simpa using hs
            have HZ := Lib.hid hz
            clear hz
            go_wp2_with fail
            go_quiet ((go_at_call 74; exact Calls.quiet_of_same ((order_any _ _ _).mono fun e w' h => ⟨h.1, h.2.symm⟩)))
            go_wp2_with fail
            go_ret
            exact ⟨ret_int (by unfold cnF; rw [if_neg (by omega), if_pos HZ.out]), (six_drew HQ.out _).2.2.2.2.2.2⟩
        · go_wp2_with fail
          go_ret
          exact ⟨ret_int (by unfold cnF; rw [if_pos (by omega)]), HB.out⟩
      · have z0 := Lib.hid (HP.out.1 (by omega)).1
        have hk0 : 0 < k := (HP.out.1 (by omega)).2
        by_cases hk : 1 < k
        · rcases bool_two' (segF b b' != 0) with hs | hs
          · have hz : segF b b' = 0 := by simpa using hs
            have HZ := Lib.hid hz
            clear hz
            go_wp2_with fail
            go_quiet ((go_at_call 74; exact Calls.quiet_of_same ((order_any _ _ _).mono fun e w' h => ⟨h.1, h.2.symm⟩)))
            go_wp2_with fail
            go_roundw
            case rel => exact ⟨2, by omega, by omega, rfl, Lib.hid ⟨fun _ => HP.out.1 (by omega), fun _ => ⟨HZ.out, hk⟩, by omega⟩, Lib.hid (six_drew HQ.out _)⟩
            case measure => simp [intOf]
          · have hz : segF b b' ≠ 0 := by simpa using hs
            have HZ := Lib.hid hz
            clear hz
            go_wp2_with fail
            go_quiet ((go_at_call 74; exact Calls.quiet_of_same ((order_any _ _ _).mono fun e w' h => ⟨h.1, h.2.symm⟩)))
            go_wp2_with fail
            go_ret
            exact ⟨ret_int (by unfold cnF; rw [if_neg (by omega), if_neg (by rw [z0.out]; decide)]; rw [if_neg (by omega), if_pos HZ.out]), (six_drew HQ.out _).2.2.2.2.2.2⟩
        · go_wp2_with fail
          go_ret
          exact ⟨ret_int (by unfold cnF; rw [if_neg (by omega), if_neg (by rw [z0.out]; decide)]; rw [if_pos (by omega)]), HB.out⟩
      · have z0 := Lib.hid (HP.out.1 (by omega)).1
        have z1 := Lib.hid (HP.out.2.1 (by omega)).1
        have hk0 : 1 < k := (HP.out.2.1 (by omega)).2
        by_cases hk : 2 < k
        · rcases bool_two' (segF c c' != 0) with hs | hs
          · have hz : segF c c' = 0 := by simpa using hs
            have HZ := Lib.hid hz
            clear hz
            go_wp2_with fail
            go_quiet ((go_at_call 74; exact Calls.quiet_of_same ((order_any _ _ _).mono fun e w' h => ⟨h.1, h.2.symm⟩)))
            go_wp2_with fail
            go_roundw
            case rel => exact ⟨3, by omega, by omega, rfl, Lib.hid ⟨fun _ => HP.out.1 (by omega), fun _ => HP.out.2.1 (by omega), fun _ => ⟨HZ.out, hk⟩⟩, Lib.hid (six_drew HQ.out _)⟩
            case measure => simp [intOf]
          · have hz : segF c c' ≠ 0 := by simpa using hs
            have HZ := Lib.hid hz
            clear hz
            go_wp2_with fail
            go_quiet ((go_at_call 74; exact Calls.quiet_of_same ((order_any _ _ _).mono fun e w' h => ⟨h.1, h.2.symm⟩)))
            go_wp2_with fail
            go_ret
            exact ⟨ret_int (by unfold cnF; rw [if_neg (by omega), if_neg (by rw [z0.out]; decide)]; rw [if_neg (by omega), if_neg (by rw [z1.out]; decide)]; rw [if_neg (by omega)]), (six_drew HQ.out _).2.2.2.2.2.2⟩
        · go_wp2_with fail
          go_ret
          exact ⟨ret_int (by unfold cnF; rw [if_neg (by omega), if_neg (by rw [z0.out]; decide)]; rw [if_neg (by omega), if_neg (by rw [z1.out]; decide)]; rw [if_pos (by omega)]), HB.out⟩
      · have z0 := Lib.hid (HP.out.1 (by omega)).1
        have z1 := Lib.hid (HP.out.2.1 (by omega)).1
        have z2 := Lib.hid (HP.out.2.2 (by omega)).1
        have hk : 2 < k := (HP.out.2.2 (by omega)).2
        go_wp2_with fail
        all_goals go_ret
        all_goals exact ⟨ret_int (by unfold cnF; rw [if_neg (by omega), if_neg (by rw [z0.out]; decide), if_neg (by omega), if_neg (by rw [z1.out]; decide), if_neg (by omega), z2.out]), HB.out⟩

def spec_CompareNumbers.f (a b c : Int) (s m : ByteArray) (a' b' c' : Int) (s' m' : ByteArray) (k : Int) : Option Int := some (cnF a b c a' b' c' k)
theorem spec_CompareNumbers.calls (a b c : Int) (s m : ByteArray) (a' b' c' : Int) (s' m' : ByteArray) (k : Int) (r : Int) (w : World) (h : spec_CompareNumbers.f a b c s m a' b' c' s' m' k = some r) :
    Calls Tryd.prog 94 #[.agg #[.int .u64 a, .int .u64 b, .int .u64 c, .string s, .string m], .agg #[.int .u64 a', .int .u64 b', .int .u64 c', .string s', .string m'], .int .i64 k] w fun e w' => e = .returned (.int .i64 r) ∧ Below w.heap.size w w' := by
  obtain rfl := Option.some.inj h
  exact cn_any a b c a' b' c' k s m s' m' w
end Go.Proofs.YtlooelfkkbgmhaaDoor
