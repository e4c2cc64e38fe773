/-
  The specification's kind, walked: the tails and the numbers.
-/
import Derived.Test.YtmbdpkaplnjopaaDoorSpk
set_option linter.unusedVariables false
set_option linter.unusedSimpArgs false
namespace Go.Proofs.YtmbdpkaplnjopaaDoor
open Go Go.RowKit Go.Proofs.YtmbdpkaplnjopaaDoorW.PrintWords Go.Proofs.YtmbdpkaplnjopaaDoorW.PrintLast Go.Proofs.YtmbdpkaplnjopaaDoor.Gram Go.Proofs.YtmbdpkaplnjopaaDoor.QG
theorem sK_a {a b n : ByteArray} (h : nkV a ≠ 0) : sK a b n = nkV a := by unfold sK; rw [if_pos h]
theorem sK_b {a b n : ByteArray} (ha : nkV a = 0) (h : nkV b ≠ 0) : sK a b n = nkV b := by unfold sK; rw [if_neg (fun x => x ha), if_pos h]
theorem sK_n {a b n : ByteArray} (ha : nkV a = 0) (hb : nkV b = 0) (h : nkV n ≠ 0) : sK a b n = nkV n := by unfold sK; rw [if_neg (fun x => x ha), if_neg (fun x => x hb), if_pos h]
theorem sK_no {a b n : ByteArray} (ha : nkV a = 0) (hb : nkV b = 0) (hn : nkV n = 0) (h : (okN a && (okN b && okN n)) = false) : sK a b n = 10 := by unfold sK; rw [if_neg (fun x => x ha), if_neg (fun x => x hb), if_neg (fun x => x hn), h]; rfl
theorem sK_ok {a b n : ByteArray} (ha : nkV a = 0) (hb : nkV b = 0) (hn : nkV n = 0) (h : (okN a && (okN b && okN n)) = true) : sK a b n = 0 := by unfold sK; rw [if_neg (fun x => x ha), if_neg (fun x => x hb), if_neg (fun x => x hn), h]; rfl
theorem val_no {p v h : Bool} {pk X : Int} (h1 : (p && !v) = false) (h2 : (h && (pk != 0)) = false) : (if (p && !v) = true then (6 : Int) else if (h && (pk != 0)) = true then pk else X) = X := by rw [h1, h2]; rfl
theorem val_pk {p v h : Bool} {pk X : Int} (h1 : (p && !v) = false) (h2 : (h && (pk != 0)) = true) : (if (p && !v) = true then (6 : Int) else if (h && (pk != 0)) = true then pk else X) = pk := by rw [h1, h2]; rfl
theorem val_six {p v h : Bool} {pk X : Int} (h1 : (p && !v) = true) : (if (p && !v) = true then (6 : Int) else if (h && (pk != 0)) = true then pk else X) = 6 := by rw [h1]; rfl
/-- the room of the three texts -/
abbrev R3 (w : World) (B : Nat) (a b n : ByteArray) (W : World) : Prop := W.heap[B]? = some (.cells #[.string a, .string b, .string n] 32 (0, 0)) ∧ Below w.heap.size w W
theorem r3_on {w : World} {B : Nat} {a b n : ByteArray} {W W' : World} (h : R3 w B a b n W) (hb : Below W.heap.size W W') : R3 w B a b n W' := ⟨heap_on hb h.1, bl_on h.2 hb⟩
set_option maxHeartbeats 32000000 in
set_option maxRecDepth 100000 in
theorem kind6_tail (s a b c rest mt n pre : ByteArray) (plus hyph vm : Bool) (pk : Int) (h1 : (s.toList == []) = false) (h1' : s.toList.isEmpty = false) (h2 : decide (256 < (s.size : Int)) = false) (hD : ∀ w, Calls Tryd.prog 9 #[.string s] w fun e w' => e = .returned (.tuple #[.agg #[.string a, .string b, .string c], .bool true]) ∧ Below w.heap.size w w')
    (hC1 : ∀ w, Calls Tryd.prog 10 #[.string c, .int .u8 43] w fun e w' => e = .returned (.tuple #[.string rest, .string mt, .bool plus]) ∧ Drawn0 w w') (hC2 : ∀ w, Calls Tryd.prog 10 #[.string rest, .int .u8 45] w fun e w' => e = .returned (.tuple #[.string n, .string pre, .bool hyph]) ∧ Drawn0 w w')
    (hM : ∀ w, Calls Tryd.prog 11 #[.string mt] w fun e w' => e = .returned (.bool vm) ∧ Below w.heap.size w w') (hP : ∀ w, Calls Tryd.prog 12 #[.string pre] w fun e w' => e = .returned (.int .i64 pk) ∧ Below w.heap.size w w')
    (hsa : a.size ≤ 65536) (hsb : b.size ≤ 65536) (hsn : n.size ≤ 65536) (w : World) :
    Calls Tryd.prog 6 #[.string s] w fun e w' => e = .returned (.int .i64 (if (plus && !vm) = true then 6 else if (hyph && (pk != 0)) = true then pk else sK a b n)) ∧ Below w.heap.size w w' := by
  obtain ⟨V, HV⟩ : ∃ V : Int, Aside0 (V = (if (plus && !vm) = true then 6 else if (hyph && (pk != 0)) = true then pk else sK a b n)) := ⟨_, ⟨rfl⟩⟩
  rw [← HV.out]
  have HD := Aside0.mk hD
  have HC1 := Aside0.mk hC1
  have HC2 := Aside0.mk hC2
  have HM := Aside0.mk hM
  have HP := Aside0.mk hP
  have HNA := Aside0.mk (nk_calls a hsa)
  have HNB := Aside0.mk (nk_calls b hsb)
  have HNN := Aside0.mk (nk_calls n hsn)
  have HUA := Aside0.mk (num_calls a hsa)
  have HUB := Aside0.mk (num_calls b hsb)
  have HUN := Aside0.mk (num_calls n hsn)
  clear hD hC1 hC2 hM hP hsa hsb hsn
  go_enter Tryd.func6, Tryd.ntmps6
  go_upto_region 11 with (first
    | (go_at_call 9; (with_reducible refine (HD.out _).mono ?_); rintro e w2 ⟨rfl, hb⟩; have HB2 := Aside0.mk hb; clear hb)
    | (go_at_call 10; (with_reducible refine (HC1.out _).mono ?_); rintro e w3 ⟨rfl, hd⟩; have HA3 := Aside0.mk (heap_on hd.below (heap_new0 w2 w2.heap.size (.cells #[.string a, .string b, .string c] 32) rfl)); have HB3 := Aside0.mk (bl_on (bl_alloc HB2.out _) hd.below); clear hd)
    | (go_at_call 10; (with_reducible refine (HC2.out _).mono ?_); rintro e w4 ⟨rfl, hd⟩; have HA4 := Aside0.mk (heap_on hd.below HA3.out); have HB4 := Aside0.mk (bl_on HB3.out hd.below); have y2 : w4.cell? ⟨w2.heap.size, 2, none⟩ = some (.string c) := cellsOf HA4.out 2; have f2 := frozenOf HA4.out 2; clear hd))
  have HF : Aside0 (R3 w w2.heap.size a b n (w4.setCell ⟨w2.heap.size, 2, none⟩ (.string n))) := ⟨⟨blk_set HA4.out 2 _, bl_set HB4.out HB2.out.size _⟩⟩
  have HQ : Aside0 (w.heap.size ≤ w2.heap.size) := ⟨HB2.out.size⟩
  clear y2 f2 HA4 HB4 HA3 HB3 HB2
  generalize w4.setCell ⟨w2.heap.size, 2, none⟩ (.string n) = W1 at HF ⊢
  generalize w2.heap.size = B at HF HQ ⊢
  cases plus
  · skip
    go_upto_region 14 with (go_at_call 12; (with_reducible refine (HP.out _).mono ?_); rintro e w6 ⟨rfl, hb⟩; have HF6 := Aside0.mk (r3_on HF.out hb); clear hb)
    clear HF
    have HF := HF6
    clear HF6
    cases hyph
    · skip
      have z0 : w6.cell? ⟨B, 0, none⟩ = some (.string a) := cellsOf HF.out.1 0
      have z1 : w6.cell? ⟨B, 1, none⟩ = some (.string b) := cellsOf HF.out.1 1
      have z2 : w6.cell? ⟨B, 2, none⟩ = some (.string n) := cellsOf HF.out.1 2
      go_wp2
      clear z0 z1 z2
      go_loopg [64] 4 (fun g v64 w' => ∃ x : Int, v64 = .int .i64 x ∧ Aside0 (0 ≤ x ∧ x ≤ 3 ∧ g + x.toNat = 4) ∧ Aside0 ((0 < x → nkV a = 0) ∧ (1 < x → nkV b = 0) ∧ (2 < x → nkV n = 0)) ∧ Aside0 (R3 w B a b n w'))
      case atStart => exact ⟨0, rfl, ⟨by omega, by omega, by omega⟩, ⟨⟨fun h => absurd h (by decide), fun h => absurd h (by decide), fun h => absurd h (by decide)⟩⟩, HF⟩
      case round =>
        clear HF
        obtain ⟨x, rfl, HI, HD1, HF⟩ := hrel
        have hx : x = 0 ∨ x = 1 ∨ x = 2 ∨ x = 3 := by have h := HI.out; omega
        rcases hx with rfl | rfl | rfl | rfl
        · have hf : ∀ w : World, (Instr.index 32 (.agg #[.string a, .string b, .string n]) (.int .i64 0)).run Tryd.prog w = .ok (.string a) w := fun _ => by kernel_rfl
          cases hk : (nkV a != 0)
          · have HK1 : Aside0 (nkV a = 0) := ⟨by simpa using hk⟩
            go_wp2_with (go_at_call 13; (with_reducible refine (HNA.out _).mono ?_); rintro e w5 ⟨rfl, hd⟩; have HF5 := Aside0.mk (r3_on HF.out hd.below); clear hd)
            go_roundg (gk - 1)
            case measure => have h := HI.out; omega
            case rel => have hk' := HK1.out; exact ⟨1, by first | rfl | simp [wrap64], ⟨by have h := HI.out; omega⟩, ⟨⟨fun _ => hk', fun h => absurd h (by decide), fun h => absurd h (by decide)⟩⟩, HF5⟩
          · have HK1 : Aside0 (nkV a ≠ 0) := ⟨by simpa using hk⟩
            go_wp2_with (go_at_call 13; (with_reducible refine (HNA.out _).mono ?_); rintro e w5 ⟨rfl, hd⟩; have HF5 := Aside0.mk (r3_on HF.out hd.below); clear hd)
            go_ret
            exact ⟨by have hk' := HK1.out; rw [HV.out, val_no rfl rfl]; rw [sK_a hk']; rfl, HF5.out.2⟩
        · have hf : ∀ w : World, (Instr.index 32 (.agg #[.string a, .string b, .string n]) (.int .i64 1)).run Tryd.prog w = .ok (.string b) w := fun _ => by kernel_rfl
          cases hk : (nkV b != 0)
          · have HK1 : Aside0 (nkV b = 0) := ⟨by simpa using hk⟩
            go_wp2_with (go_at_call 13; (with_reducible refine (HNB.out _).mono ?_); rintro e w5 ⟨rfl, hd⟩; have HF5 := Aside0.mk (r3_on HF.out hd.below); clear hd)
            go_roundg (gk - 1)
            case measure => have h := HI.out; omega
            case rel => have hk' := HK1.out; exact ⟨2, by first | rfl | simp [wrap64], ⟨by have h := HI.out; omega⟩, ⟨⟨fun _ => HD1.out.1 (by decide), fun _ => hk', fun h => absurd h (by decide)⟩⟩, HF5⟩
          · have HK1 : Aside0 (nkV b ≠ 0) := ⟨by simpa using hk⟩
            go_wp2_with (go_at_call 13; (with_reducible refine (HNB.out _).mono ?_); rintro e w5 ⟨rfl, hd⟩; have HF5 := Aside0.mk (r3_on HF.out hd.below); clear hd)
            go_ret
            exact ⟨by have hk' := HK1.out; rw [HV.out, val_no rfl rfl]; rw [sK_b (HD1.out.1 (by decide)) hk']; rfl, HF5.out.2⟩
        · have hf : ∀ w : World, (Instr.index 32 (.agg #[.string a, .string b, .string n]) (.int .i64 2)).run Tryd.prog w = .ok (.string n) w := fun _ => by kernel_rfl
          cases hk : (nkV n != 0)
          · have HK1 : Aside0 (nkV n = 0) := ⟨by simpa using hk⟩
            go_wp2_with (go_at_call 13; (with_reducible refine (HNN.out _).mono ?_); rintro e w5 ⟨rfl, hd⟩; have HF5 := Aside0.mk (r3_on HF.out hd.below); clear hd)
            go_roundg (gk - 1)
            case measure => have h := HI.out; omega
            case rel => have hk' := HK1.out; exact ⟨3, by first | rfl | simp [wrap64], ⟨by have h := HI.out; omega⟩, ⟨⟨fun _ => HD1.out.1 (by decide), fun _ => HD1.out.2.1 (by decide), fun _ => hk'⟩⟩, HF5⟩
          · have HK1 : Aside0 (nkV n ≠ 0) := ⟨by simpa using hk⟩
            go_wp2_with (go_at_call 13; (with_reducible refine (HNN.out _).mono ?_); rintro e w5 ⟨rfl, hd⟩; have HF5 := Aside0.mk (r3_on HF.out hd.below); clear hd)
            go_ret
            exact ⟨by have hk' := HK1.out; rw [HV.out, val_no rfl rfl]; rw [sK_n (HD1.out.1 (by decide)) (HD1.out.2.1 (by decide)) hk']; rfl, HF5.out.2⟩
        · skip
          have z0 : wr.cell? ⟨B, 0, none⟩ = some (.string a) := cellsOf HF.out.1 0
          have z1 : wr.cell? ⟨B, 1, none⟩ = some (.string b) := cellsOf HF.out.1 1
          have z2 : wr.cell? ⟨B, 2, none⟩ = some (.string n) := cellsOf HF.out.1 2
          go_wp2
          clear z0 z1 z2
          have HZA := Aside0.mk (HD1.out.1 (by decide))
          have HZB := Aside0.mk (HD1.out.2.1 (by decide))
          have HZN := Aside0.mk (HD1.out.2.2 (by decide))
          clear HD1 HI
          go_loopg [74] 4 (fun g v74 w' => ∃ x : Int, v74 = .int .i64 x ∧ Aside0 (0 ≤ x ∧ x ≤ 3 ∧ g + x.toNat = 4) ∧ Aside0 ((0 < x → okN a = true) ∧ (1 < x → okN b = true) ∧ (2 < x → okN n = true)) ∧ Aside0 (R3 w B a b n w'))
          case atStart => exact ⟨0, rfl, ⟨by omega, by omega, by omega⟩, ⟨⟨fun h => absurd h (by decide), fun h => absurd h (by decide), fun h => absurd h (by decide)⟩⟩, HF⟩
          case round =>
            clear HF
            obtain ⟨x, rfl, HI, HD1, HF⟩ := hrel
            have hx : x = 0 ∨ x = 1 ∨ x = 2 ∨ x = 3 := by have h := HI.out; omega
            rcases hx with rfl | rfl | rfl | rfl
            · have hf : ∀ w : World, (Instr.index 32 (.agg #[.string a, .string b, .string n]) (.int .i64 0)).run Tryd.prog w = .ok (.string a) w := fun _ => by kernel_rfl
              cases hk : okN a
              · have HK1 := Aside0.mk hk
                go_wp2_with (go_at_call 14; (with_reducible refine (HUA.out _).mono ?_); rintro e w5 ⟨rfl, hd⟩; rw [HK1.out]; have HF5 := Aside0.mk (r3_on HF.out hd.below); clear hd)
                go_ret
                exact ⟨by have hk' := HK1.out; rw [HV.out, val_no rfl rfl]; rw [sK_no HZA.out HZB.out HZN.out (by rw [hk']; rfl)]; rfl, HF5.out.2⟩
              · have HK1 := Aside0.mk hk
                go_wp2_with (go_at_call 14; (with_reducible refine (HUA.out _).mono ?_); rintro e w5 ⟨rfl, hd⟩; rw [HK1.out]; have HF5 := Aside0.mk (r3_on HF.out hd.below); clear hd)
                go_roundg (gk - 1)
                case measure => have h := HI.out; omega
                case rel => have hk' := HK1.out; exact ⟨1, by first | rfl | simp [wrap64], ⟨by have h := HI.out; omega⟩, ⟨⟨fun _ => hk', fun h => absurd h (by decide), fun h => absurd h (by decide)⟩⟩, HF5⟩
            · have hf : ∀ w : World, (Instr.index 32 (.agg #[.string a, .string b, .string n]) (.int .i64 1)).run Tryd.prog w = .ok (.string b) w := fun _ => by kernel_rfl
              cases hk : okN b
              · have HK1 := Aside0.mk hk
                go_wp2_with (go_at_call 14; (with_reducible refine (HUB.out _).mono ?_); rintro e w5 ⟨rfl, hd⟩; rw [HK1.out]; have HF5 := Aside0.mk (r3_on HF.out hd.below); clear hd)
                go_ret
                exact ⟨by have hk' := HK1.out; rw [HV.out, val_no rfl rfl]; rw [sK_no HZA.out HZB.out HZN.out (by rw [HD1.out.1 (by decide), hk']; rfl)]; rfl, HF5.out.2⟩
              · have HK1 := Aside0.mk hk
                go_wp2_with (go_at_call 14; (with_reducible refine (HUB.out _).mono ?_); rintro e w5 ⟨rfl, hd⟩; rw [HK1.out]; have HF5 := Aside0.mk (r3_on HF.out hd.below); clear hd)
                go_roundg (gk - 1)
                case measure => have h := HI.out; omega
                case rel => have hk' := HK1.out; exact ⟨2, by first | rfl | simp [wrap64], ⟨by have h := HI.out; omega⟩, ⟨⟨fun _ => HD1.out.1 (by decide), fun _ => hk', fun h => absurd h (by decide)⟩⟩, HF5⟩
            · have hf : ∀ w : World, (Instr.index 32 (.agg #[.string a, .string b, .string n]) (.int .i64 2)).run Tryd.prog w = .ok (.string n) w := fun _ => by kernel_rfl
              cases hk : okN n
              · have HK1 := Aside0.mk hk
                go_wp2_with (go_at_call 14; (with_reducible refine (HUN.out _).mono ?_); rintro e w5 ⟨rfl, hd⟩; rw [HK1.out]; have HF5 := Aside0.mk (r3_on HF.out hd.below); clear hd)
                go_ret
                exact ⟨by have hk' := HK1.out; rw [HV.out, val_no rfl rfl]; rw [sK_no HZA.out HZB.out HZN.out (by rw [HD1.out.1 (by decide), HD1.out.2.1 (by decide), hk']; rfl)]; rfl, HF5.out.2⟩
              · have HK1 := Aside0.mk hk
                go_wp2_with (go_at_call 14; (with_reducible refine (HUN.out _).mono ?_); rintro e w5 ⟨rfl, hd⟩; rw [HK1.out]; have HF5 := Aside0.mk (r3_on HF.out hd.below); clear hd)
                go_roundg (gk - 1)
                case measure => have h := HI.out; omega
                case rel => have hk' := HK1.out; exact ⟨3, by first | rfl | simp [wrap64], ⟨by have h := HI.out; omega⟩, ⟨⟨fun _ => HD1.out.1 (by decide), fun _ => HD1.out.2.1 (by decide), fun _ => hk'⟩⟩, HF5⟩
            · go_wp2
              go_ret
              exact ⟨by rw [HV.out, val_no rfl rfl]; rw [sK_ok HZA.out HZB.out HZN.out (by rw [HD1.out.1 (by decide), HD1.out.2.1 (by decide), HD1.out.2.2 (by decide)]; rfl)]; rfl, HF.out.2⟩
    · cases hpk : (pk != 0)
      · have HPK := Aside0.mk hpk
        have z0 : w6.cell? ⟨B, 0, none⟩ = some (.string a) := cellsOf HF.out.1 0
        have z1 : w6.cell? ⟨B, 1, none⟩ = some (.string b) := cellsOf HF.out.1 1
        have z2 : w6.cell? ⟨B, 2, none⟩ = some (.string n) := cellsOf HF.out.1 2
        go_wp2
        clear z0 z1 z2
        go_loopg [64] 4 (fun g v64 w' => ∃ x : Int, v64 = .int .i64 x ∧ Aside0 (0 ≤ x ∧ x ≤ 3 ∧ g + x.toNat = 4) ∧ Aside0 ((0 < x → nkV a = 0) ∧ (1 < x → nkV b = 0) ∧ (2 < x → nkV n = 0)) ∧ Aside0 (R3 w B a b n w'))
        case atStart => exact ⟨0, rfl, ⟨by omega, by omega, by omega⟩, ⟨⟨fun h => absurd h (by decide), fun h => absurd h (by decide), fun h => absurd h (by decide)⟩⟩, HF⟩
        case round =>
          clear HF
          obtain ⟨x, rfl, HI, HD1, HF⟩ := hrel
          have hx : x = 0 ∨ x = 1 ∨ x = 2 ∨ x = 3 := by have h := HI.out; omega
          rcases hx with rfl | rfl | rfl | rfl
          · have hf : ∀ w : World, (Instr.index 32 (.agg #[.string a, .string b, .string n]) (.int .i64 0)).run Tryd.prog w = .ok (.string a) w := fun _ => by kernel_rfl
            cases hk : (nkV a != 0)
            · have HK1 : Aside0 (nkV a = 0) := ⟨by simpa using hk⟩
              go_wp2_with (go_at_call 13; (with_reducible refine (HNA.out _).mono ?_); rintro e w5 ⟨rfl, hd⟩; have HF5 := Aside0.mk (r3_on HF.out hd.below); clear hd)
              go_roundg (gk - 1)
              case measure => have h := HI.out; omega
              case rel => have hk' := HK1.out; exact ⟨1, by first | rfl | simp [wrap64], ⟨by have h := HI.out; omega⟩, ⟨⟨fun _ => hk', fun h => absurd h (by decide), fun h => absurd h (by decide)⟩⟩, HF5⟩
            · have HK1 : Aside0 (nkV a ≠ 0) := ⟨by simpa using hk⟩
              go_wp2_with (go_at_call 13; (with_reducible refine (HNA.out _).mono ?_); rintro e w5 ⟨rfl, hd⟩; have HF5 := Aside0.mk (r3_on HF.out hd.below); clear hd)
              go_ret
              exact ⟨by have hk' := HK1.out; rw [HV.out, val_no rfl (by rw [HPK.out]; rfl)]; rw [sK_a hk']; rfl, HF5.out.2⟩
          · have hf : ∀ w : World, (Instr.index 32 (.agg #[.string a, .string b, .string n]) (.int .i64 1)).run Tryd.prog w = .ok (.string b) w := fun _ => by kernel_rfl
            cases hk : (nkV b != 0)
            · have HK1 : Aside0 (nkV b = 0) := ⟨by simpa using hk⟩
              go_wp2_with (go_at_call 13; (with_reducible refine (HNB.out _).mono ?_); rintro e w5 ⟨rfl, hd⟩; have HF5 := Aside0.mk (r3_on HF.out hd.below); clear hd)
              go_roundg (gk - 1)
              case measure => have h := HI.out; omega
              case rel => have hk' := HK1.out; exact ⟨2, by first | rfl | simp [wrap64], ⟨by have h := HI.out; omega⟩, ⟨⟨fun _ => HD1.out.1 (by decide), fun _ => hk', fun h => absurd h (by decide)⟩⟩, HF5⟩
            · have HK1 : Aside0 (nkV b ≠ 0) := ⟨by simpa using hk⟩
              go_wp2_with (go_at_call 13; (with_reducible refine (HNB.out _).mono ?_); rintro e w5 ⟨rfl, hd⟩; have HF5 := Aside0.mk (r3_on HF.out hd.below); clear hd)
              go_ret
              exact ⟨by have hk' := HK1.out; rw [HV.out, val_no rfl (by rw [HPK.out]; rfl)]; rw [sK_b (HD1.out.1 (by decide)) hk']; rfl, HF5.out.2⟩
          · have hf : ∀ w : World, (Instr.index 32 (.agg #[.string a, .string b, .string n]) (.int .i64 2)).run Tryd.prog w = .ok (.string n) w := fun _ => by kernel_rfl
            cases hk : (nkV n != 0)
            · have HK1 : Aside0 (nkV n = 0) := ⟨by simpa using hk⟩
              go_wp2_with (go_at_call 13; (with_reducible refine (HNN.out _).mono ?_); rintro e w5 ⟨rfl, hd⟩; have HF5 := Aside0.mk (r3_on HF.out hd.below); clear hd)
              go_roundg (gk - 1)
              case measure => have h := HI.out; omega
              case rel => have hk' := HK1.out; exact ⟨3, by first | rfl | simp [wrap64], ⟨by have h := HI.out; omega⟩, ⟨⟨fun _ => HD1.out.1 (by decide), fun _ => HD1.out.2.1 (by decide), fun _ => hk'⟩⟩, HF5⟩
            · have HK1 : Aside0 (nkV n ≠ 0) := ⟨by simpa using hk⟩
              go_wp2_with (go_at_call 13; (with_reducible refine (HNN.out _).mono ?_); rintro e w5 ⟨rfl, hd⟩; have HF5 := Aside0.mk (r3_on HF.out hd.below); clear hd)
              go_ret
              exact ⟨by have hk' := HK1.out; rw [HV.out, val_no rfl (by rw [HPK.out]; rfl)]; rw [sK_n (HD1.out.1 (by decide)) (HD1.out.2.1 (by decide)) hk']; rfl, HF5.out.2⟩
          · skip
            have z0 : wr.cell? ⟨B, 0, none⟩ = some (.string a) := cellsOf HF.out.1 0
            have z1 : wr.cell? ⟨B, 1, none⟩ = some (.string b) := cellsOf HF.out.1 1
            have z2 : wr.cell? ⟨B, 2, none⟩ = some (.string n) := cellsOf HF.out.1 2
            go_wp2
            clear z0 z1 z2
            have HZA := Aside0.mk (HD1.out.1 (by decide))
            have HZB := Aside0.mk (HD1.out.2.1 (by decide))
            have HZN := Aside0.mk (HD1.out.2.2 (by decide))
            clear HD1 HI
            go_loopg [74] 4 (fun g v74 w' => ∃ x : Int, v74 = .int .i64 x ∧ Aside0 (0 ≤ x ∧ x ≤ 3 ∧ g + x.toNat = 4) ∧ Aside0 ((0 < x → okN a = true) ∧ (1 < x → okN b = true) ∧ (2 < x → okN n = true)) ∧ Aside0 (R3 w B a b n w'))
            case atStart => exact ⟨0, rfl, ⟨by omega, by omega, by omega⟩, ⟨⟨fun h => absurd h (by decide), fun h => absurd h (by decide), fun h => absurd h (by decide)⟩⟩, HF⟩
            case round =>
              clear HF
              obtain ⟨x, rfl, HI, HD1, HF⟩ := hrel
              have hx : x = 0 ∨ x = 1 ∨ x = 2 ∨ x = 3 := by have h := HI.out; omega
              rcases hx with rfl | rfl | rfl | rfl
              · have hf : ∀ w : World, (Instr.index 32 (.agg #[.string a, .string b, .string n]) (.int .i64 0)).run Tryd.prog w = .ok (.string a) w := fun _ => by kernel_rfl
                cases hk : okN a
                · have HK1 := Aside0.mk hk
                  go_wp2_with (go_at_call 14; (with_reducible refine (HUA.out _).mono ?_); rintro e w5 ⟨rfl, hd⟩; rw [HK1.out]; have HF5 := Aside0.mk (r3_on HF.out hd.below); clear hd)
                  go_ret
                  exact ⟨by have hk' := HK1.out; rw [HV.out, val_no rfl (by rw [HPK.out]; rfl)]; rw [sK_no HZA.out HZB.out HZN.out (by rw [hk']; rfl)]; rfl, HF5.out.2⟩
                · have HK1 := Aside0.mk hk
                  go_wp2_with (go_at_call 14; (with_reducible refine (HUA.out _).mono ?_); rintro e w5 ⟨rfl, hd⟩; rw [HK1.out]; have HF5 := Aside0.mk (r3_on HF.out hd.below); clear hd)
                  go_roundg (gk - 1)
                  case measure => have h := HI.out; omega
                  case rel => have hk' := HK1.out; exact ⟨1, by first | rfl | simp [wrap64], ⟨by have h := HI.out; omega⟩, ⟨⟨fun _ => hk', fun h => absurd h (by decide), fun h => absurd h (by decide)⟩⟩, HF5⟩
              · have hf : ∀ w : World, (Instr.index 32 (.agg #[.string a, .string b, .string n]) (.int .i64 1)).run Tryd.prog w = .ok (.string b) w := fun _ => by kernel_rfl
                cases hk : okN b
                · have HK1 := Aside0.mk hk
                  go_wp2_with (go_at_call 14; (with_reducible refine (HUB.out _).mono ?_); rintro e w5 ⟨rfl, hd⟩; rw [HK1.out]; have HF5 := Aside0.mk (r3_on HF.out hd.below); clear hd)
                  go_ret
                  exact ⟨by have hk' := HK1.out; rw [HV.out, val_no rfl (by rw [HPK.out]; rfl)]; rw [sK_no HZA.out HZB.out HZN.out (by rw [HD1.out.1 (by decide), hk']; rfl)]; rfl, HF5.out.2⟩
                · have HK1 := Aside0.mk hk
                  go_wp2_with (go_at_call 14; (with_reducible refine (HUB.out _).mono ?_); rintro e w5 ⟨rfl, hd⟩; rw [HK1.out]; have HF5 := Aside0.mk (r3_on HF.out hd.below); clear hd)
                  go_roundg (gk - 1)
                  case measure => have h := HI.out; omega
                  case rel => have hk' := HK1.out; exact ⟨2, by first | rfl | simp [wrap64], ⟨by have h := HI.out; omega⟩, ⟨⟨fun _ => HD1.out.1 (by decide), fun _ => hk', fun h => absurd h (by decide)⟩⟩, HF5⟩
              · have hf : ∀ w : World, (Instr.index 32 (.agg #[.string a, .string b, .string n]) (.int .i64 2)).run Tryd.prog w = .ok (.string n) w := fun _ => by kernel_rfl
                cases hk : okN n
                · have HK1 := Aside0.mk hk
                  go_wp2_with (go_at_call 14; (with_reducible refine (HUN.out _).mono ?_); rintro e w5 ⟨rfl, hd⟩; rw [HK1.out]; have HF5 := Aside0.mk (r3_on HF.out hd.below); clear hd)
                  go_ret
                  exact ⟨by have hk' := HK1.out; rw [HV.out, val_no rfl (by rw [HPK.out]; rfl)]; rw [sK_no HZA.out HZB.out HZN.out (by rw [HD1.out.1 (by decide), HD1.out.2.1 (by decide), hk']; rfl)]; rfl, HF5.out.2⟩
                · have HK1 := Aside0.mk hk
                  go_wp2_with (go_at_call 14; (with_reducible refine (HUN.out _).mono ?_); rintro e w5 ⟨rfl, hd⟩; rw [HK1.out]; have HF5 := Aside0.mk (r3_on HF.out hd.below); clear hd)
                  go_roundg (gk - 1)
                  case measure => have h := HI.out; omega
                  case rel => have hk' := HK1.out; exact ⟨3, by first | rfl | simp [wrap64], ⟨by have h := HI.out; omega⟩, ⟨⟨fun _ => HD1.out.1 (by decide), fun _ => HD1.out.2.1 (by decide), fun _ => hk'⟩⟩, HF5⟩
              · go_wp2
                go_ret
                exact ⟨by rw [HV.out, val_no rfl (by rw [HPK.out]; rfl)]; rw [sK_ok HZA.out HZB.out HZN.out (by rw [HD1.out.1 (by decide), HD1.out.2.1 (by decide), HD1.out.2.2 (by decide)]; rfl)]; rfl, HF.out.2⟩
      · have HPK := Aside0.mk hpk
        go_wp2
        go_ret
        exact ⟨by rw [HV.out, val_pk rfl (by rw [HPK.out]; rfl)]; rfl, HF.out.2⟩
  · cases vm
    · go_wp2_with (go_at_call 11; (with_reducible refine (HM.out _).mono ?_); rintro e w5 ⟨rfl, hb⟩; have HF5 := Aside0.mk (r3_on HF.out hb); clear hb)
      go_ret
      exact ⟨by rw [HV.out, val_six rfl]; rfl, HF5.out.2⟩
    · go_upto_region 13 with (go_at_call 11; (with_reducible refine (HM.out _).mono ?_); rintro e w5 ⟨rfl, hb⟩; have HF5 := Aside0.mk (r3_on HF.out hb); clear hb)
      clear HF
      have HF := HF5
      clear HF5
      go_upto_region 14 with (go_at_call 12; (with_reducible refine (HP.out _).mono ?_); rintro e w6 ⟨rfl, hb⟩; have HF6 := Aside0.mk (r3_on HF.out hb); clear hb)
      clear HF
      have HF := HF6
      clear HF6
      cases hyph
      · skip
        have z0 : w6.cell? ⟨B, 0, none⟩ = some (.string a) := cellsOf HF.out.1 0
        have z1 : w6.cell? ⟨B, 1, none⟩ = some (.string b) := cellsOf HF.out.1 1
        have z2 : w6.cell? ⟨B, 2, none⟩ = some (.string n) := cellsOf HF.out.1 2
        go_wp2
        clear z0 z1 z2
        go_loopg [64] 4 (fun g v64 w' => ∃ x : Int, v64 = .int .i64 x ∧ Aside0 (0 ≤ x ∧ x ≤ 3 ∧ g + x.toNat = 4) ∧ Aside0 ((0 < x → nkV a = 0) ∧ (1 < x → nkV b = 0) ∧ (2 < x → nkV n = 0)) ∧ Aside0 (R3 w B a b n w'))
        case atStart => exact ⟨0, rfl, ⟨by omega, by omega, by omega⟩, ⟨⟨fun h => absurd h (by decide), fun h => absurd h (by decide), fun h => absurd h (by decide)⟩⟩, HF⟩
        case round =>
          clear HF
          obtain ⟨x, rfl, HI, HD1, HF⟩ := hrel
          have hx : x = 0 ∨ x = 1 ∨ x = 2 ∨ x = 3 := by have h := HI.out; omega
          rcases hx with rfl | rfl | rfl | rfl
          · have hf : ∀ w : World, (Instr.index 32 (.agg #[.string a, .string b, .string n]) (.int .i64 0)).run Tryd.prog w = .ok (.string a) w := fun _ => by kernel_rfl
            cases hk : (nkV a != 0)
            · have HK1 : Aside0 (nkV a = 0) := ⟨by simpa using hk⟩
              go_wp2_with (go_at_call 13; (with_reducible refine (HNA.out _).mono ?_); rintro e w5 ⟨rfl, hd⟩; have HF5 := Aside0.mk (r3_on HF.out hd.below); clear hd)
              go_roundg (gk - 1)
              case measure => have h := HI.out; omega
              case rel => have hk' := HK1.out; exact ⟨1, by first | rfl | simp [wrap64], ⟨by have h := HI.out; omega⟩, ⟨⟨fun _ => hk', fun h => absurd h (by decide), fun h => absurd h (by decide)⟩⟩, HF5⟩
            · have HK1 : Aside0 (nkV a ≠ 0) := ⟨by simpa using hk⟩
              go_wp2_with (go_at_call 13; (with_reducible refine (HNA.out _).mono ?_); rintro e w5 ⟨rfl, hd⟩; have HF5 := Aside0.mk (r3_on HF.out hd.below); clear hd)
              go_ret
              exact ⟨by have hk' := HK1.out; rw [HV.out, val_no rfl rfl]; rw [sK_a hk']; rfl, HF5.out.2⟩
          · have hf : ∀ w : World, (Instr.index 32 (.agg #[.string a, .string b, .string n]) (.int .i64 1)).run Tryd.prog w = .ok (.string b) w := fun _ => by kernel_rfl
            cases hk : (nkV b != 0)
            · have HK1 : Aside0 (nkV b = 0) := ⟨by simpa using hk⟩
              go_wp2_with (go_at_call 13; (with_reducible refine (HNB.out _).mono ?_); rintro e w5 ⟨rfl, hd⟩; have HF5 := Aside0.mk (r3_on HF.out hd.below); clear hd)
              go_roundg (gk - 1)
              case measure => have h := HI.out; omega
              case rel => have hk' := HK1.out; exact ⟨2, by first | rfl | simp [wrap64], ⟨by have h := HI.out; omega⟩, ⟨⟨fun _ => HD1.out.1 (by decide), fun _ => hk', fun h => absurd h (by decide)⟩⟩, HF5⟩
            · have HK1 : Aside0 (nkV b ≠ 0) := ⟨by simpa using hk⟩
              go_wp2_with (go_at_call 13; (with_reducible refine (HNB.out _).mono ?_); rintro e w5 ⟨rfl, hd⟩; have HF5 := Aside0.mk (r3_on HF.out hd.below); clear hd)
              go_ret
              exact ⟨by have hk' := HK1.out; rw [HV.out, val_no rfl rfl]; rw [sK_b (HD1.out.1 (by decide)) hk']; rfl, HF5.out.2⟩
          · have hf : ∀ w : World, (Instr.index 32 (.agg #[.string a, .string b, .string n]) (.int .i64 2)).run Tryd.prog w = .ok (.string n) w := fun _ => by kernel_rfl
            cases hk : (nkV n != 0)
            · have HK1 : Aside0 (nkV n = 0) := ⟨by simpa using hk⟩
              go_wp2_with (go_at_call 13; (with_reducible refine (HNN.out _).mono ?_); rintro e w5 ⟨rfl, hd⟩; have HF5 := Aside0.mk (r3_on HF.out hd.below); clear hd)
              go_roundg (gk - 1)
              case measure => have h := HI.out; omega
              case rel => have hk' := HK1.out; exact ⟨3, by first | rfl | simp [wrap64], ⟨by have h := HI.out; omega⟩, ⟨⟨fun _ => HD1.out.1 (by decide), fun _ => HD1.out.2.1 (by decide), fun _ => hk'⟩⟩, HF5⟩
            · have HK1 : Aside0 (nkV n ≠ 0) := ⟨by simpa using hk⟩
              go_wp2_with (go_at_call 13; (with_reducible refine (HNN.out _).mono ?_); rintro e w5 ⟨rfl, hd⟩; have HF5 := Aside0.mk (r3_on HF.out hd.below); clear hd)
              go_ret
              exact ⟨by have hk' := HK1.out; rw [HV.out, val_no rfl rfl]; rw [sK_n (HD1.out.1 (by decide)) (HD1.out.2.1 (by decide)) hk']; rfl, HF5.out.2⟩
          · skip
            have z0 : wr.cell? ⟨B, 0, none⟩ = some (.string a) := cellsOf HF.out.1 0
            have z1 : wr.cell? ⟨B, 1, none⟩ = some (.string b) := cellsOf HF.out.1 1
            have z2 : wr.cell? ⟨B, 2, none⟩ = some (.string n) := cellsOf HF.out.1 2
            go_wp2
            clear z0 z1 z2
            have HZA := Aside0.mk (HD1.out.1 (by decide))
            have HZB := Aside0.mk (HD1.out.2.1 (by decide))
            have HZN := Aside0.mk (HD1.out.2.2 (by decide))
            clear HD1 HI
            go_loopg [74] 4 (fun g v74 w' => ∃ x : Int, v74 = .int .i64 x ∧ Aside0 (0 ≤ x ∧ x ≤ 3 ∧ g + x.toNat = 4) ∧ Aside0 ((0 < x → okN a = true) ∧ (1 < x → okN b = true) ∧ (2 < x → okN n = true)) ∧ Aside0 (R3 w B a b n w'))
            case atStart => exact ⟨0, rfl, ⟨by omega, by omega, by omega⟩, ⟨⟨fun h => absurd h (by decide), fun h => absurd h (by decide), fun h => absurd h (by decide)⟩⟩, HF⟩
            case round =>
              clear HF
              obtain ⟨x, rfl, HI, HD1, HF⟩ := hrel
              have hx : x = 0 ∨ x = 1 ∨ x = 2 ∨ x = 3 := by have h := HI.out; omega
              rcases hx with rfl | rfl | rfl | rfl
              · have hf : ∀ w : World, (Instr.index 32 (.agg #[.string a, .string b, .string n]) (.int .i64 0)).run Tryd.prog w = .ok (.string a) w := fun _ => by kernel_rfl
                cases hk : okN a
                · have HK1 := Aside0.mk hk
                  go_wp2_with (go_at_call 14; (with_reducible refine (HUA.out _).mono ?_); rintro e w5 ⟨rfl, hd⟩; rw [HK1.out]; have HF5 := Aside0.mk (r3_on HF.out hd.below); clear hd)
                  go_ret
                  exact ⟨by have hk' := HK1.out; rw [HV.out, val_no rfl rfl]; rw [sK_no HZA.out HZB.out HZN.out (by rw [hk']; rfl)]; rfl, HF5.out.2⟩
                · have HK1 := Aside0.mk hk
                  go_wp2_with (go_at_call 14; (with_reducible refine (HUA.out _).mono ?_); rintro e w5 ⟨rfl, hd⟩; rw [HK1.out]; have HF5 := Aside0.mk (r3_on HF.out hd.below); clear hd)
                  go_roundg (gk - 1)
                  case measure => have h := HI.out; omega
                  case rel => have hk' := HK1.out; exact ⟨1, by first | rfl | simp [wrap64], ⟨by have h := HI.out; omega⟩, ⟨⟨fun _ => hk', fun h => absurd h (by decide), fun h => absurd h (by decide)⟩⟩, HF5⟩
              · have hf : ∀ w : World, (Instr.index 32 (.agg #[.string a, .string b, .string n]) (.int .i64 1)).run Tryd.prog w = .ok (.string b) w := fun _ => by kernel_rfl
                cases hk : okN b
                · have HK1 := Aside0.mk hk
                  go_wp2_with (go_at_call 14; (with_reducible refine (HUB.out _).mono ?_); rintro e w5 ⟨rfl, hd⟩; rw [HK1.out]; have HF5 := Aside0.mk (r3_on HF.out hd.below); clear hd)
                  go_ret
                  exact ⟨by have hk' := HK1.out; rw [HV.out, val_no rfl rfl]; rw [sK_no HZA.out HZB.out HZN.out (by rw [HD1.out.1 (by decide), hk']; rfl)]; rfl, HF5.out.2⟩
                · have HK1 := Aside0.mk hk
                  go_wp2_with (go_at_call 14; (with_reducible refine (HUB.out _).mono ?_); rintro e w5 ⟨rfl, hd⟩; rw [HK1.out]; have HF5 := Aside0.mk (r3_on HF.out hd.below); clear hd)
                  go_roundg (gk - 1)
                  case measure => have h := HI.out; omega
                  case rel => have hk' := HK1.out; exact ⟨2, by first | rfl | simp [wrap64], ⟨by have h := HI.out; omega⟩, ⟨⟨fun _ => HD1.out.1 (by decide), fun _ => hk', fun h => absurd h (by decide)⟩⟩, HF5⟩
              · have hf : ∀ w : World, (Instr.index 32 (.agg #[.string a, .string b, .string n]) (.int .i64 2)).run Tryd.prog w = .ok (.string n) w := fun _ => by kernel_rfl
                cases hk : okN n
                · have HK1 := Aside0.mk hk
                  go_wp2_with (go_at_call 14; (with_reducible refine (HUN.out _).mono ?_); rintro e w5 ⟨rfl, hd⟩; rw [HK1.out]; have HF5 := Aside0.mk (r3_on HF.out hd.below); clear hd)
                  go_ret
                  exact ⟨by have hk' := HK1.out; rw [HV.out, val_no rfl rfl]; rw [sK_no HZA.out HZB.out HZN.out (by rw [HD1.out.1 (by decide), HD1.out.2.1 (by decide), hk']; rfl)]; rfl, HF5.out.2⟩
                · have HK1 := Aside0.mk hk
                  go_wp2_with (go_at_call 14; (with_reducible refine (HUN.out _).mono ?_); rintro e w5 ⟨rfl, hd⟩; rw [HK1.out]; have HF5 := Aside0.mk (r3_on HF.out hd.below); clear hd)
                  go_roundg (gk - 1)
                  case measure => have h := HI.out; omega
                  case rel => have hk' := HK1.out; exact ⟨3, by first | rfl | simp [wrap64], ⟨by have h := HI.out; omega⟩, ⟨⟨fun _ => HD1.out.1 (by decide), fun _ => HD1.out.2.1 (by decide), fun _ => hk'⟩⟩, HF5⟩
              · go_wp2
                go_ret
                exact ⟨by rw [HV.out, val_no rfl rfl]; rw [sK_ok HZA.out HZB.out HZN.out (by rw [HD1.out.1 (by decide), HD1.out.2.1 (by decide), HD1.out.2.2 (by decide)]; rfl)]; rfl, HF.out.2⟩
      · cases hpk : (pk != 0)
        · have HPK := Aside0.mk hpk
          have z0 : w6.cell? ⟨B, 0, none⟩ = some (.string a) := cellsOf HF.out.1 0
          have z1 : w6.cell? ⟨B, 1, none⟩ = some (.string b) := cellsOf HF.out.1 1
          have z2 : w6.cell? ⟨B, 2, none⟩ = some (.string n) := cellsOf HF.out.1 2
          go_wp2
          clear z0 z1 z2
          go_loopg [64] 4 (fun g v64 w' => ∃ x : Int, v64 = .int .i64 x ∧ Aside0 (0 ≤ x ∧ x ≤ 3 ∧ g + x.toNat = 4) ∧ Aside0 ((0 < x → nkV a = 0) ∧ (1 < x → nkV b = 0) ∧ (2 < x → nkV n = 0)) ∧ Aside0 (R3 w B a b n w'))
          case atStart => exact ⟨0, rfl, ⟨by omega, by omega, by omega⟩, ⟨⟨fun h => absurd h (by decide), fun h => absurd h (by decide), fun h => absurd h (by decide)⟩⟩, HF⟩
          case round =>
            clear HF
            obtain ⟨x, rfl, HI, HD1, HF⟩ := hrel
            have hx : x = 0 ∨ x = 1 ∨ x = 2 ∨ x = 3 := by have h := HI.out; omega
            rcases hx with rfl | rfl | rfl | rfl
            · have hf : ∀ w : World, (Instr.index 32 (.agg #[.string a, .string b, .string n]) (.int .i64 0)).run Tryd.prog w = .ok (.string a) w := fun _ => by kernel_rfl
              cases hk : (nkV a != 0)
              · have HK1 : Aside0 (nkV a = 0) := ⟨by simpa using hk⟩
                go_wp2_with (go_at_call 13; (with_reducible refine (HNA.out _).mono ?_); rintro e w5 ⟨rfl, hd⟩; have HF5 := Aside0.mk (r3_on HF.out hd.below); clear hd)
                go_roundg (gk - 1)
                case measure => have h := HI.out; omega
                case rel => have hk' := HK1.out; exact ⟨1, by first | rfl | simp [wrap64], ⟨by have h := HI.out; omega⟩, ⟨⟨fun _ => hk', fun h => absurd h (by decide), fun h => absurd h (by decide)⟩⟩, HF5⟩
              · have HK1 : Aside0 (nkV a ≠ 0) := ⟨by simpa using hk⟩
                go_wp2_with (go_at_call 13; (with_reducible refine (HNA.out _).mono ?_); rintro e w5 ⟨rfl, hd⟩; have HF5 := Aside0.mk (r3_on HF.out hd.below); clear hd)
                go_ret
                exact ⟨by have hk' := HK1.out; rw [HV.out, val_no rfl (by rw [HPK.out]; rfl)]; rw [sK_a hk']; rfl, HF5.out.2⟩
            · have hf : ∀ w : World, (Instr.index 32 (.agg #[.string a, .string b, .string n]) (.int .i64 1)).run Tryd.prog w = .ok (.string b) w := fun _ => by kernel_rfl
              cases hk : (nkV b != 0)
              · have HK1 : Aside0 (nkV b = 0) := ⟨by simpa using hk⟩
                go_wp2_with (go_at_call 13; (with_reducible refine (HNB.out _).mono ?_); rintro e w5 ⟨rfl, hd⟩; have HF5 := Aside0.mk (r3_on HF.out hd.below); clear hd)
                go_roundg (gk - 1)
                case measure => have h := HI.out; omega
                case rel => have hk' := HK1.out; exact ⟨2, by first | rfl | simp [wrap64], ⟨by have h := HI.out; omega⟩, ⟨⟨fun _ => HD1.out.1 (by decide), fun _ => hk', fun h => absurd h (by decide)⟩⟩, HF5⟩
              · have HK1 : Aside0 (nkV b ≠ 0) := ⟨by simpa using hk⟩
                go_wp2_with (go_at_call 13; (with_reducible refine (HNB.out _).mono ?_); rintro e w5 ⟨rfl, hd⟩; have HF5 := Aside0.mk (r3_on HF.out hd.below); clear hd)
                go_ret
                exact ⟨by have hk' := HK1.out; rw [HV.out, val_no rfl (by rw [HPK.out]; rfl)]; rw [sK_b (HD1.out.1 (by decide)) hk']; rfl, HF5.out.2⟩
            · have hf : ∀ w : World, (Instr.index 32 (.agg #[.string a, .string b, .string n]) (.int .i64 2)).run Tryd.prog w = .ok (.string n) w := fun _ => by kernel_rfl
              cases hk : (nkV n != 0)
              · have HK1 : Aside0 (nkV n = 0) := ⟨by simpa using hk⟩
                go_wp2_with (go_at_call 13; (with_reducible refine (HNN.out _).mono ?_); rintro e w5 ⟨rfl, hd⟩; have HF5 := Aside0.mk (r3_on HF.out hd.below); clear hd)
                go_roundg (gk - 1)
                case measure => have h := HI.out; omega
                case rel => have hk' := HK1.out; exact ⟨3, by first | rfl | simp [wrap64], ⟨by have h := HI.out; omega⟩, ⟨⟨fun _ => HD1.out.1 (by decide), fun _ => HD1.out.2.1 (by decide), fun _ => hk'⟩⟩, HF5⟩
              · have HK1 : Aside0 (nkV n ≠ 0) := ⟨by simpa using hk⟩
                go_wp2_with (go_at_call 13; (with_reducible refine (HNN.out _).mono ?_); rintro e w5 ⟨rfl, hd⟩; have HF5 := Aside0.mk (r3_on HF.out hd.below); clear hd)
                go_ret
                exact ⟨by have hk' := HK1.out; rw [HV.out, val_no rfl (by rw [HPK.out]; rfl)]; rw [sK_n (HD1.out.1 (by decide)) (HD1.out.2.1 (by decide)) hk']; rfl, HF5.out.2⟩
            · skip
              have z0 : wr.cell? ⟨B, 0, none⟩ = some (.string a) := cellsOf HF.out.1 0
              have z1 : wr.cell? ⟨B, 1, none⟩ = some (.string b) := cellsOf HF.out.1 1
              have z2 : wr.cell? ⟨B, 2, none⟩ = some (.string n) := cellsOf HF.out.1 2
              go_wp2
              clear z0 z1 z2
              have HZA := Aside0.mk (HD1.out.1 (by decide))
              have HZB := Aside0.mk (HD1.out.2.1 (by decide))
              have HZN := Aside0.mk (HD1.out.2.2 (by decide))
              clear HD1 HI
              go_loopg [74] 4 (fun g v74 w' => ∃ x : Int, v74 = .int .i64 x ∧ Aside0 (0 ≤ x ∧ x ≤ 3 ∧ g + x.toNat = 4) ∧ Aside0 ((0 < x → okN a = true) ∧ (1 < x → okN b = true) ∧ (2 < x → okN n = true)) ∧ Aside0 (R3 w B a b n w'))
              case atStart => exact ⟨0, rfl, ⟨by omega, by omega, by omega⟩, ⟨⟨fun h => absurd h (by decide), fun h => absurd h (by decide), fun h => absurd h (by decide)⟩⟩, HF⟩
              case round =>
                clear HF
                obtain ⟨x, rfl, HI, HD1, HF⟩ := hrel
                have hx : x = 0 ∨ x = 1 ∨ x = 2 ∨ x = 3 := by have h := HI.out; omega
                rcases hx with rfl | rfl | rfl | rfl
                · have hf : ∀ w : World, (Instr.index 32 (.agg #[.string a, .string b, .string n]) (.int .i64 0)).run Tryd.prog w = .ok (.string a) w := fun _ => by kernel_rfl
                  cases hk : okN a
                  · have HK1 := Aside0.mk hk
                    go_wp2_with (go_at_call 14; (with_reducible refine (HUA.out _).mono ?_); rintro e w5 ⟨rfl, hd⟩; rw [HK1.out]; have HF5 := Aside0.mk (r3_on HF.out hd.below); clear hd)
                    go_ret
                    exact ⟨by have hk' := HK1.out; rw [HV.out, val_no rfl (by rw [HPK.out]; rfl)]; rw [sK_no HZA.out HZB.out HZN.out (by rw [hk']; rfl)]; rfl, HF5.out.2⟩
                  · have HK1 := Aside0.mk hk
                    go_wp2_with (go_at_call 14; (with_reducible refine (HUA.out _).mono ?_); rintro e w5 ⟨rfl, hd⟩; rw [HK1.out]; have HF5 := Aside0.mk (r3_on HF.out hd.below); clear hd)
                    go_roundg (gk - 1)
                    case measure => have h := HI.out; omega
                    case rel => have hk' := HK1.out; exact ⟨1, by first | rfl | simp [wrap64], ⟨by have h := HI.out; omega⟩, ⟨⟨fun _ => hk', fun h => absurd h (by decide), fun h => absurd h (by decide)⟩⟩, HF5⟩
                · have hf : ∀ w : World, (Instr.index 32 (.agg #[.string a, .string b, .string n]) (.int .i64 1)).run Tryd.prog w = .ok (.string b) w := fun _ => by kernel_rfl
                  cases hk : okN b
                  · have HK1 := Aside0.mk hk
                    go_wp2_with (go_at_call 14; (with_reducible refine (HUB.out _).mono ?_); rintro e w5 ⟨rfl, hd⟩; rw [HK1.out]; have HF5 := Aside0.mk (r3_on HF.out hd.below); clear hd)
                    go_ret
                    exact ⟨by have hk' := HK1.out; rw [HV.out, val_no rfl (by rw [HPK.out]; rfl)]; rw [sK_no HZA.out HZB.out HZN.out (by rw [HD1.out.1 (by decide), hk']; rfl)]; rfl, HF5.out.2⟩
                  · have HK1 := Aside0.mk hk
                    go_wp2_with (go_at_call 14; (with_reducible refine (HUB.out _).mono ?_); rintro e w5 ⟨rfl, hd⟩; rw [HK1.out]; have HF5 := Aside0.mk (r3_on HF.out hd.below); clear hd)
                    go_roundg (gk - 1)
                    case measure => have h := HI.out; omega
                    case rel => have hk' := HK1.out; exact ⟨2, by first | rfl | simp [wrap64], ⟨by have h := HI.out; omega⟩, ⟨⟨fun _ => HD1.out.1 (by decide), fun _ => hk', fun h => absurd h (by decide)⟩⟩, HF5⟩
                · have hf : ∀ w : World, (Instr.index 32 (.agg #[.string a, .string b, .string n]) (.int .i64 2)).run Tryd.prog w = .ok (.string n) w := fun _ => by kernel_rfl
                  cases hk : okN n
                  · have HK1 := Aside0.mk hk
                    go_wp2_with (go_at_call 14; (with_reducible refine (HUN.out _).mono ?_); rintro e w5 ⟨rfl, hd⟩; rw [HK1.out]; have HF5 := Aside0.mk (r3_on HF.out hd.below); clear hd)
                    go_ret
                    exact ⟨by have hk' := HK1.out; rw [HV.out, val_no rfl (by rw [HPK.out]; rfl)]; rw [sK_no HZA.out HZB.out HZN.out (by rw [HD1.out.1 (by decide), HD1.out.2.1 (by decide), hk']; rfl)]; rfl, HF5.out.2⟩
                  · have HK1 := Aside0.mk hk
                    go_wp2_with (go_at_call 14; (with_reducible refine (HUN.out _).mono ?_); rintro e w5 ⟨rfl, hd⟩; rw [HK1.out]; have HF5 := Aside0.mk (r3_on HF.out hd.below); clear hd)
                    go_roundg (gk - 1)
                    case measure => have h := HI.out; omega
                    case rel => have hk' := HK1.out; exact ⟨3, by first | rfl | simp [wrap64], ⟨by have h := HI.out; omega⟩, ⟨⟨fun _ => HD1.out.1 (by decide), fun _ => HD1.out.2.1 (by decide), fun _ => hk'⟩⟩, HF5⟩
                · go_wp2
                  go_ret
                  exact ⟨by rw [HV.out, val_no rfl (by rw [HPK.out]; rfl)]; rw [sK_ok HZA.out HZB.out HZN.out (by rw [HD1.out.1 (by decide), HD1.out.2.1 (by decide), HD1.out.2.2 (by decide)]; rfl)]; rfl, HF.out.2⟩
        · have HPK := Aside0.mk hpk
          go_wp2
          go_ret
          exact ⟨by rw [HV.out, val_pk rfl (by rw [HPK.out]; rfl)]; rfl, HF.out.2⟩
end Go.Proofs.YtmbdpkaplnjopaaDoor
