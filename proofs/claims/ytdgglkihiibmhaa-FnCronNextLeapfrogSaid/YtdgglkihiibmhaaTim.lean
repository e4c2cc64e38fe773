/-
  The specification's time of day: what it finds is in the fields.
-/
import Derived.Test.YtdgglkihiibmhaaFit
import Derived.Deep.LoopGhost
set_option linter.unusedVariables false
set_option linter.unusedSimpArgs false
namespace Go.Proofs.Ytdgglkihiibmhaa
open Go Go.RowKit Cal Go.Proofs.YtdgglkihiibmhaaW.PrintLast

/-- what is found: nothing, or a second of the day that is in the fields -/
def TimeOk (A : Nat → Bool) (fr s : Int) : Prop := s = -1 ∨ (fr ≤ s ∧ s < 86400 ∧ A (129 + (s / 3600).toNat) = true ∧ A (65 + (s % 3600 / 60).toNat) = true ∧ A (1 + (s % 60).toNat) = true)
set_option maxHeartbeats 4000000 in
theorem time_any (A : Nat → Bool) (fr : Int) (w : World) (r0 : 0 ≤ fr) (r1 : fr < 86400) : Calls Try.prog 65 #[.agg (bs 384 A), .int .i64 fr] w fun e w' => (∃ s, e = .returned (.int .i64 s) ∧ TimeOk A fr s) ∧ Below w.heap.size w w' := by
  have HG := Lib.hid (heap_new0 w _ (.cells (bs 384 A) 46) rfl)
  go_enter Try.func65, Try.ntmps65
  go_upto_region 1 with fail
  generalize hW : w.alloc (.cells (bs 384 A) 46) = W at *
  have HB : Hid (Below w.heap.size w W) := Lib.hid (by rw [← hW]; exact bl_alloc (Below.refl _ _) _)
  clear hW
  have HFR := Lib.hid (And.intro r0 r1)
  go_wp2_with fail
  go_loopg [5] 25 (fun g v5 w' => ∃ hh : Int, v5 = .int .i64 hh ∧ Hid (fr / 3600 ≤ hh ∧ hh ≤ 24 ∧ (g : Int) ≥ 24 - hh) ∧ w' = W)
  case atStart => exact ⟨_, rfl, Lib.hid ⟨Int.le_refl _, by have := HFR.out; omega, by have := HFR.out; omega⟩, rfl⟩
  case round =>
    obtain ⟨hh, rfl, HX, rfl⟩ := hrel
    have h0 : 0 ≤ hh := by have := HX.out; have := HFR.out; omega
    have hw1 : wrap64 (hh + 1) = hh + 1 := by have := HX.out; exact wi (by omega) (by omega)
    by_cases hc : hh < 24
    · have HC := Lib.hid hc
      have hd := decide_eq_true hc
      have hlt : hh < 63 := by omega
      have k0 : wr.cell? ⟨w.heap.size, 129 + hh.toNat, none⟩ = some (.bool (A (129 + hh.toNat))) := by rw [blk_cell HG.out, bs_get _ _ _ (by omega)]
      clear hc
      generalize hA : A (129 + hh.toNat) = a at *
      have HA := Lib.hid hA
      clear hA
      cases a
      · go_wp2_with fail
        go_roundg (24 - (hh + 1)).toNat
        case measure => have := HX.out; have := HC.out; omega
        case rel => exact ⟨hh + 1, by first | rfl | rw [wi (x := hh + 1) (by have := HX.out; omega) (by have := HX.out; omega)], Lib.hid ⟨by have := HX.out; omega, by have := HC.out; omega, by have := HC.out; omega⟩, rfl⟩
      · go_wp2_with fail
        have HGO := Lib.hid (show (24 - (hh + 1)).toNat < gk from by have := HX.out; have := HC.out; omega)
        go_loopg [21] 61 (fun g v21 w' => ∃ m : Int, v21 = .int .i64 m ∧ Hid (0 ≤ m ∧ m ≤ 60 ∧ (g : Int) ≥ 60 - m) ∧ w' = wr)
        case atStart => exact ⟨0, rfl, Lib.hid ⟨by decide, by decide, by decide⟩, rfl⟩
        case round =>
          obtain ⟨m, rfl, HY, rfl⟩ := hrel
          have m0 : 0 ≤ m := HY.out.1
          have hw2 : wrap64 (m + 1) = m + 1 := by have := HY.out; exact wi (by omega) (by omega)
          have hw3 : wrap64 (3600 * hh) = 3600 * hh := by have := HC.out; exact wi (by omega) (by omega)
          have hw4 : wrap64 (60 * m) = 60 * m := by have := HY.out; exact wi (by omega) (by omega)
          have hw5 : wrap64 (3600 * hh + 60 * m) = 3600 * hh + 60 * m := by have := HY.out; have := HC.out; exact wi (by omega) (by omega)
          have hw6 : wrap64 (3600 * hh + 60 * m + 59) = 3600 * hh + 60 * m + 59 := by have := HY.out; have := HC.out; exact wi (by omega) (by omega)
          have hw7 : wrap64 (fr - (3600 * hh + 60 * m)) = fr - (3600 * hh + 60 * m) := by have := HY.out; have := HC.out; have := HFR.out; exact wi (by omega) (by omega)
          by_cases hm : m < 60
          · have HM := Lib.hid hm
            have hd2 := decide_eq_true hm
            have hlm : m < 63 := by omega
            have k1 : wr.cell? ⟨w.heap.size, 65 + m.toNat, none⟩ = some (.bool (A (65 + m.toNat))) := by rw [blk_cell HG.out, bs_get _ _ _ (by omega)]
            clear hm
            generalize hB : A (65 + m.toNat) = b at *
            have HBB := Lib.hid hB
            clear hB
            cases b
            · go_wp2_with fail
              go_roundg (60 - (m + 1)).toNat
              case measure => have := HY.out; have := HM.out; omega
              case rel => exact ⟨m + 1, by first | rfl | rw [wi (x := m + 1) (by have := HY.out; omega) (by have := HY.out; omega)], Lib.hid ⟨by have := HY.out; omega, by have := HM.out; omega, by have := HM.out; omega⟩, rfl⟩
            · by_cases hl : 3600 * hh + 60 * m + 59 < fr
              · have hd3 := decide_eq_true hl
                clear hl
                go_wp2_with fail
                go_roundg (60 - (m + 1)).toNat
                case measure => have := HY.out; have := HM.out; omega
                case rel => exact ⟨m + 1, by first | rfl | rw [wi (x := m + 1) (by have := HY.out; omega) (by have := HY.out; omega)], Lib.hid ⟨by have := HY.out; omega, by have := HM.out; omega, by have := HM.out; omega⟩, rfl⟩
              · have hd3 := decide_eq_false hl
                have HL := Lib.hid hl
                clear hl
                go_wp2_with fail
                all_goals
                  have HGM := Lib.hid (show (60 - (m + 1)).toNat < gk from by have := HY.out; have := HM.out; omega)
                  go_loopg [8] 61 (fun g v8 w' => ∃ c : Int, v8 = .int .i64 c ∧ Hid (0 ≤ c ∧ c ≤ 60 ∧ fr ≤ 3600 * hh + 60 * m + c ∧ (g : Int) ≥ 60 - c) ∧ w' = wr)
                  case atStart => exact ⟨_, rfl, Lib.hid ⟨by omega, by have := HL.out; omega, by omega, by omega⟩, rfl⟩
                  case round =>
                    obtain ⟨c, rfl, HZ, rfl⟩ := hrel
                    have c0 : 0 ≤ c := HZ.out.1
                    have hw8 : wrap64 (c + 1) = c + 1 := by have := HZ.out; exact wi (by omega) (by omega)
                    have hw9 : wrap64 (3600 * hh + 60 * m + c) = 3600 * hh + 60 * m + c := by have := HY.out; have := HC.out; have := HZ.out; exact wi (by omega) (by omega)
                    by_cases hcc : c < 60
                    · have HCC := Lib.hid hcc
                      have hd4 := decide_eq_true hcc
                      have hlc : c < 63 := by omega
                      have k2 : wr.cell? ⟨w.heap.size, 1 + c.toNat, none⟩ = some (.bool (A (1 + c.toNat))) := by rw [blk_cell HG.out, bs_get _ _ _ (by omega)]
                      clear hcc
                      generalize hE : A (1 + c.toNat) = e at *
                      have HE := Lib.hid hE
                      clear hE
                      cases e
                      · go_wp2_with fail
                        go_roundg (60 - (c + 1)).toNat
                        case measure => have := HZ.out; have := HCC.out; omega
                        case rel => exact ⟨c + 1, by first | rfl | rw [wi (x := c + 1) (by have := HZ.out; omega) (by have := HZ.out; omega)], Lib.hid ⟨by have := HZ.out; omega, by have := HCC.out; omega, by have := HZ.out; omega, by have := HCC.out; omega⟩, rfl⟩
                      · go_wp2_with fail
                        go_ret
                        have q1 := HZ.out
                        have q2 := HCC.out
                        have q3 := HM.out
                        have q4 := HC.out
                        refine ⟨⟨3600 * hh + 60 * m + c, rfl, .inr ⟨q1.2.2.1, by omega, ?_, ?_, ?_⟩⟩, HB.out⟩
                        · rw [show (3600 * hh + 60 * m + c) / 3600 = hh by omega]
                          exact HA.out
                        · rw [show (3600 * hh + 60 * m + c) % 3600 / 60 = m by omega]
                          exact HBB.out
                        · rw [show (3600 * hh + 60 * m + c) % 60 = c by omega]
                          exact HE.out
                    · have hd4 := decide_eq_false hcc
                      clear hcc
                      go_wp2_with fail
                      go_roundg (60 - (m + 1)).toNat
                      case measure => exact HGM.out
                      case rel => exact ⟨m + 1, by first | rfl | rw [wi (x := m + 1) (by have := HY.out; omega) (by have := HY.out; omega)], Lib.hid ⟨by have := HY.out; omega, by have := HM.out; omega, by have := HM.out; omega⟩, rfl⟩
          · have HM := Lib.hid hm
            have hd2 := decide_eq_false hm
            clear hm
            go_wp2_with fail
            go_roundg (24 - (hh + 1)).toNat
            case measure => exact HGO.out
            case rel => exact ⟨hh + 1, by first | rfl | rw [wi (x := hh + 1) (by have := HX.out; omega) (by have := HX.out; omega)], Lib.hid ⟨by have := HX.out; omega, by have := HC.out; omega, by have := HC.out; omega⟩, rfl⟩
    · have HC := Lib.hid hc
      have hd := decide_eq_false hc
      clear hc
      go_wp2_with fail
      go_ret
      exact ⟨⟨-1, rfl, .inl rfl⟩, HB.out⟩
end Go.Proofs.Ytdgglkihiibmhaa
