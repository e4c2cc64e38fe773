/-
  laws.FnCronNextLeapfrog: it returns true.
-/
import Derived.Test.YtdgglkihiibmhaaLew
import Derived.Deep.CutRange
set_option linter.unusedVariables false
set_option linter.unusedSimpArgs false
namespace Go.Proofs.Ytdgglkihiibmhaa
open Go Go.RowKit Cal Go.Proofs.YtdgglkihiibmhaaW.PrintLast

set_option maxRecDepth 100000 in
set_option maxHeartbeats 16000000 in
theorem leap_go (f fM fA fB : Six) (d kd o1 o2 X s n : Int) (w : World)
    (hC : ∀ w, Calls Try.prog 15 #[schV false f d, inV s n] w fun e w' => e = .returned (.bool true) ∧ Below w.heap.size w w')
    (hK : ∀ w, Calls Try.prog 19 #[.int .i64 kd] w fun e w' => e = .returned (.bool true) ∧ w' = w)
    (h1 : bits .and .u64 o1 9223372036854775808 = X) (h2 : bits .and .u64 o2 9223372036854775808 = X)
    (hWM : ∀ w, Calls Try.prog 20 #[schV false f d, .int .i64 kd, .int .u64 (bits .and .u64 o1 o2)] w fun e w' => e = .returned (schV false fM d) ∧ Below w.heap.size w w')
    (hWA : ∀ w, Calls Try.prog 20 #[schV false f d, .int .i64 kd, .int .u64 o1] w fun e w' => e = .returned (schV false fA d) ∧ Below w.heap.size w w')
    (hWB : ∀ w, Calls Try.prog 20 #[schV false f d, .int .i64 kd, .int .u64 o2] w fun e w' => e = .returned (schV false fB d) ∧ Below w.heap.size w w')
    (hboth : ∀ x, fits fM x = (fits fA x && fits fB x)) (hg : -62135596800 ≤ s ∧ s ≤ 253402300799 ∧ 0 ≤ n ∧ n < 1000000000) : Calls Try.prog 5 #[schV false f d, .int .i64 kd, .int .u64 o1, .int .u64 o2, inV s n] w fun e w' => e = .returned (.bool true) ∧ Below w.heap.size w w' := by
  have HS := Lib.hid (lf_start w false f d s n)
  have HC := Lib.hid hC
  have HKD := Lib.hid hK
  have HWM := Lib.hid hWM
  have HWA := Lib.hid hWA
  have HWB := Lib.hid hWB
  have HBO := Lib.hid hboth
  have HGO := Lib.hid hg
  clear hC hK hWM hWA hWB hboth hg
  have HNM := Lib.hid (fun w => implNext_any fM d s n w HGO.out.2.2.1 HGO.out.2.2.2 HGO.out.1 HGO.out.2.1)
  go_enter Try.func5, Try.ntmps5
  go_upto_region 1 with fail
  generalize (w.alloc (schO false f d)).alloc (io s n) = W0 at *
  obtain ⟨z0, z1, z2, z3, z4, z5, z6, z7, z8, z9, -⟩ := HS.out
  go_upto_region 3 with (first
    | (go_at_call 15; with_reducible refine (HC.out _).mono ?_; rintro e w1 ⟨rfl, hb⟩; have HS1 := Lib.hid (lf_on hb HS.out); clear hb HS z0 z1 z2 z3 z4 z5 z6 z7 z8 z9)
    | (go_at_call 19; with_reducible refine (HKD.out _).mono ?_; rintro e w2 ⟨rfl, rfl⟩))
  go_cut [11, 12] from 18 (fun v11 v12 wc => ∃ (qm : Nat) (r : Int), v11 = .pointer (some ⟨qm, 0, none⟩) ∧ v12 = .bool (asB r) ∧ Hid (Nx1 fM s r) ∧ Hid (w.heap.size + 1 < qm) ∧ Hid (Lg w false f d s n qm (asI r) wc))
  case first =>
    as_aux_lemma =>
      have hH0 : Lf w false f d s n w2.drew := lf_on (bl_drew (Below.refl _ _)) HS1.out
      have HLT := Lib.hid (lf_lt HS1.out)
      go_region_held3 (fun W => Lf w false f d s n W) (first | assumption | exact hH0 | exact lf_on hb1 (by assumption) | exact lf_on hb2 (by assumption) | exact lf_on hb3 (by assumption) | exact lf_on (bl_alloc (Below.refl _ _) _) (by assumption) | exact lf_on (bl_alloc (Below.refl _ _) _) (lf_on hb3 (lf_on hb2 (lf_on hb1 hH0))) | exact lf_set (r := w2.heap.size) (by have h8 := HLT.out; omega) (by have h8 := HLT.out; omega) (by have h8 := HLT.out; omega) (by assumption) | exact lf_set (r := x1.heap.size) (by have h8 := HLT.out; have h21 := hb1.size; (try simp at h21); omega) (by have h8 := HLT.out; have h21 := hb1.size; (try simp at h21); omega) (by have h8 := HLT.out; have h21 := hb1.size; (try simp at h21); omega) (by assumption) | exact lf_set (r := x2.heap.size) (by have h8 := HLT.out; have h21 := hb1.size; (try simp at h21); have h22 := hb2.size; (try simp at h22); omega) (by have h8 := HLT.out; have h21 := hb1.size; (try simp at h21); have h22 := hb2.size; (try simp at h22); omega) (by have h8 := HLT.out; have h21 := hb1.size; (try simp at h21); have h22 := hb2.size; (try simp at h22); omega) (by assumption) | exact lf_set (r := x3.heap.size) (by have h8 := HLT.out; have h21 := hb1.size; (try simp at h21); have h22 := hb2.size; (try simp at h22); have h23 := hb3.size; (try simp at h23); omega) (by have h8 := HLT.out; have h21 := hb1.size; (try simp at h21); have h22 := hb2.size; (try simp at h22); have h23 := hb3.size; (try simp at h23); omega) (by have h8 := HLT.out; have h21 := hb1.size; (try simp at h21); have h22 := hb2.size; (try simp at h22); have h23 := hb3.size; (try simp at h23); omega) (by assumption) | fail) (first
        | (go_at_call 20; with_reducible refine (HWM.out _).mono ?_; rintro e x1 ⟨rfl, hb1⟩; first | (have HK0 := blk_on hb1 HK; clear HK r0 r1 f0 f1; have HK := HK0; clear HK0; obtain ⟨r0, r1, f0, f1⟩ := res2 HK) | (have HK := blk_on hb1 (heap_new0 _ w2.heap.size (.cells #[.int .i64 0, .int .i64 0] 23) (by first | rfl | simp)); obtain ⟨r0, r1, f0, f1⟩ := res2 HK) | skip)
        | (go_at_call 11; with_reducible refine (cronUTC_any _).mono ?_; rintro e x2 ⟨rfl, hb2⟩; first | (have HK0 := blk_on hb2 HK; clear HK r0 r1 f0 f1; have HK := HK0; clear HK0; obtain ⟨r0, r1, f0, f1⟩ := res2 HK) | (have HK := blk_on hb2 (heap_new0 _ x1.heap.size (.cells #[.int .i64 0, .int .i64 0] 23) (by first | rfl | simp)); obtain ⟨r0, r1, f0, f1⟩ := res2 HK) | skip)
        | (go_at_call 10; with_reducible refine (HNM.out _).mono ?_; rintro e x3 ⟨⟨r, rfl, hr⟩, hb3⟩; have HR := Lib.hid hr; clear hr; first | (have HK0 := blk_on hb3 HK; clear HK r0 r1 f0 f1; have HK := HK0; clear HK0; obtain ⟨r0, r1, f0, f1⟩ := res2 HK) | (have HK := blk_on hb3 (heap_new0 _ x2.heap.size (.cells #[.int .i64 0, .int .i64 0] 23) (by first | rfl | simp)); obtain ⟨r0, r1, f0, f1⟩ := res2 HK) | skip))
      all_goals
        rename_i hH
        go_wp2_with fail
        go_meet
        case rel =>
          first
            | exact ⟨_, _, rfl, rfl, HR, Lib.hid (by first | (have h8 := HLT.out; omega) | (have h8 := HLT.out; have h21 := hb1.size; (try simp at h21); omega) | (have h8 := HLT.out; have h21 := hb1.size; have h22 := hb2.size; (try simp at h21); (try simp at h22); omega) | (have h8 := HLT.out; have h21 := hb1.size; have h22 := hb2.size; have h23 := hb3.size; (try simp at h21); (try simp at h22); (try simp at h23); omega)), Lib.hid (lg_mk hH (put2_blk HK))⟩
            | exact ⟨_, _, rfl, rfl, HR, Lib.hid (by first | (have h8 := HLT.out; omega) | (have h8 := HLT.out; have h21 := hb1.size; (try simp at h21); omega) | (have h8 := HLT.out; have h21 := hb1.size; have h22 := hb2.size; (try simp at h21); (try simp at h22); omega) | (have h8 := HLT.out; have h21 := hb1.size; have h22 := hb2.size; have h23 := hb3.size; (try simp at h21); (try simp at h22); (try simp at h23); omega)), Lib.hid (lg_mk hH (heap_new0 _ _ (.cells #[.int .i64 _, .int .i64 0] 23) rfl))⟩
  case rest =>
    obtain ⟨qm, rm, rfl, rfl, HRM, HQM, HSG⟩ := hcut
    clear HS1 HC HKD h1 h2 HNM
    have HQ2 := Lib.hid (lg_lt HSG.out)
    obtain ⟨z0, z1, z2, z3, z4, z5, z6, z7, z8, z9, z10, z11, -⟩ := HSG.out
    go_wp2_with fail
    have HSH : Hid (Lh w false f d s n qm (asI rm) wc.heap.size s n (wc.alloc (.cells #[.int .i64 s, .int .i64 n] 23))) := Lib.hid (lh_mk (lg_on (bl_alloc (Below.refl _ _) _) HSG.out) (heap_new0 _ _ (.cells #[.int .i64 s, .int .i64 n] 23) rfl))
    have HQU : Hid (qm < wc.heap.size) := Lib.hid HQ2.out.2.2.2
    clear HSG HQ2 z0 z1 z2 z3 z4 z5 z6 z7 z8 z9 z10 z11
    generalize wc.alloc (.cells #[.int .i64 s, .int .i64 n] 23) = W1 at HSH ⊢
    generalize wc.heap.size = qu at HSH HQU ⊢
    obtain ⟨mv, em⟩ : ∃ mv, mv = asI rm := ⟨_, rfl⟩
    rw [← em] at HSH
    have HEM := Lib.hid em
    clear em
    generalize hmb : asB rm = mb
    have HMB := Lib.hid hmb
    clear hmb
    go_loopg [47] 61 (fun g v47 w' => ∃ (i us un : Int), v47 = .int .i64 i ∧ Hid (0 ≤ i ∧ i ≤ 60 ∧ g = (61 - i).toNat ∧ s ≤ us ∧ us ≤ 253402300799 + i * 190000000 ∧ 0 ≤ un ∧ un < 1000000000) ∧ Hid (∀ z, s + 62135596800 + 1 ≤ z → z < us + 62135596800 + 1 → fits fM z = false) ∧ Hid (Lh w false f d s n qm mv qu us un w'))
    case atStart =>
      have h := HGO.out
      exact ⟨0, s, n, rfl, Lib.hid ⟨by omega, by omega, rfl, by omega, by omega, by omega, by omega⟩, Lib.hid (fun z z0 z1 => by omega), HSH⟩
    case round =>
      clear HSH
      obtain ⟨i, us, un, rfl, HI, HNF, HSU⟩ := hrel
      have i0 : 0 ≤ i := HI.out.1
      have i1 : i ≤ 60 := HI.out.2.1
      have HUL : Hid (us ≤ 320000000000 ∧ -62135596800 ≤ us) := Lib.hid (by have h := HI.out; have h2 := HGO.out; omega)
      have HNA := Lib.hid (fun w => implNextW_any fA d us un w HI.out.2.2.2.2.2.1 HI.out.2.2.2.2.2.2 HUL.out.2 HUL.out.1)
      have HNB := Lib.hid (fun w => implNextW_any fB d us un w HI.out.2.2.2.2.2.1 HI.out.2.2.2.2.2.2 HUL.out.2 HUL.out.1)
      by_cases hlt : i < 60
      · have hd0 := decide_eq_true hlt
        go_upto_region 7 with fail
        go_cut [14, 15] from 48 to 130 (fun v14 v15 wc => ∃ (qa : Nat) (r : Int), v14 = .pointer (some ⟨qa, 0, none⟩) ∧ v15 = .bool (asB r) ∧ Hid (Nx1 fA us r) ∧ Hid (qu < qa) ∧ Hid (Li w false f d s n qm mv qu us un qa (asI r) wc))
        case first =>
          as_aux_lemma =>
            have hH0 : Lh w false f d s n qm mv qu us un wr.drew := lh_on (bl_drew (Below.refl _ _)) HSU.out
            have HLT := Lib.hid (lh_lt HSU.out)
            go_region_held3 (fun W => Lh w false f d s n qm mv qu us un W) (first | assumption | exact hH0 | exact lh_on hb1 (by assumption) | exact lh_on hb2 (by assumption) | exact lh_on hb3 (by assumption) | exact lh_on (bl_alloc (Below.refl _ _) _) (by assumption) | exact lh_on (bl_alloc (Below.refl _ _) _) (lh_on hb3 (lh_on hb2 (lh_on hb1 hH0))) | exact lh_set (r := wr.heap.size) (by have h8 := HLT.out; omega) (by have h8 := HLT.out; omega) (by have h8 := HLT.out; omega) (by have h8 := HLT.out; omega) (by have h8 := HLT.out; omega) (by assumption) | exact lh_set (r := x1.heap.size) (by have h8 := HLT.out; have h21 := hb1.size; (try simp at h21); omega) (by have h8 := HLT.out; have h21 := hb1.size; (try simp at h21); omega) (by have h8 := HLT.out; have h21 := hb1.size; (try simp at h21); omega) (by have h8 := HLT.out; have h21 := hb1.size; (try simp at h21); omega) (by have h8 := HLT.out; have h21 := hb1.size; (try simp at h21); omega) (by assumption) | exact lh_set (r := x2.heap.size) (by have h8 := HLT.out; have h21 := hb1.size; (try simp at h21); have h22 := hb2.size; (try simp at h22); omega) (by have h8 := HLT.out; have h21 := hb1.size; (try simp at h21); have h22 := hb2.size; (try simp at h22); omega) (by have h8 := HLT.out; have h21 := hb1.size; (try simp at h21); have h22 := hb2.size; (try simp at h22); omega) (by have h8 := HLT.out; have h21 := hb1.size; (try simp at h21); have h22 := hb2.size; (try simp at h22); omega) (by have h8 := HLT.out; have h21 := hb1.size; (try simp at h21); have h22 := hb2.size; (try simp at h22); omega) (by assumption) | exact lh_set (r := x3.heap.size) (by have h8 := HLT.out; have h21 := hb1.size; (try simp at h21); have h22 := hb2.size; (try simp at h22); have h23 := hb3.size; (try simp at h23); omega) (by have h8 := HLT.out; have h21 := hb1.size; (try simp at h21); have h22 := hb2.size; (try simp at h22); have h23 := hb3.size; (try simp at h23); omega) (by have h8 := HLT.out; have h21 := hb1.size; (try simp at h21); have h22 := hb2.size; (try simp at h22); have h23 := hb3.size; (try simp at h23); omega) (by have h8 := HLT.out; have h21 := hb1.size; (try simp at h21); have h22 := hb2.size; (try simp at h22); have h23 := hb3.size; (try simp at h23); omega) (by have h8 := HLT.out; have h21 := hb1.size; (try simp at h21); have h22 := hb2.size; (try simp at h22); have h23 := hb3.size; (try simp at h23); omega) (by assumption) | fail) (first
              | (go_at_call 20; with_reducible refine (HWA.out _).mono ?_; rintro e x1 ⟨rfl, hb1⟩; first | (have HK0 := blk_on hb1 HK; clear HK r0 r1 f0 f1; have HK := HK0; clear HK0; obtain ⟨r0, r1, f0, f1⟩ := res2 HK) | (have HK := blk_on hb1 (heap_new0 _ wr.heap.size (.cells #[.int .i64 0, .int .i64 0] 23) (by first | rfl | simp)); obtain ⟨r0, r1, f0, f1⟩ := res2 HK) | skip)
              | (go_at_call 11; with_reducible refine (cronUTC_any _).mono ?_; rintro e x2 ⟨rfl, hb2⟩; first | (have HK0 := blk_on hb2 HK; clear HK r0 r1 f0 f1; have HK := HK0; clear HK0; obtain ⟨r0, r1, f0, f1⟩ := res2 HK) | (have HK := blk_on hb2 (heap_new0 _ x1.heap.size (.cells #[.int .i64 0, .int .i64 0] 23) (by first | rfl | simp)); obtain ⟨r0, r1, f0, f1⟩ := res2 HK) | skip)
              | (go_at_call 10; with_reducible refine (HNA.out _).mono ?_; rintro e x3 ⟨⟨r, rfl, hr⟩, hb3⟩; have HR := Lib.hid hr; clear hr; first | (have HK0 := blk_on hb3 HK; clear HK r0 r1 f0 f1; have HK := HK0; clear HK0; obtain ⟨r0, r1, f0, f1⟩ := res2 HK) | (have HK := blk_on hb3 (heap_new0 _ x2.heap.size (.cells #[.int .i64 0, .int .i64 0] 23) (by first | rfl | simp)); obtain ⟨r0, r1, f0, f1⟩ := res2 HK) | skip))
            all_goals
              rename_i hH
              go_wp2_with fail
              go_meet
              case rel =>
                first
                  | exact ⟨_, _, rfl, rfl, HR, Lib.hid (by first | (have h8 := HLT.out; omega) | (have h8 := HLT.out; have h21 := hb1.size; (try simp at h21); omega) | (have h8 := HLT.out; have h21 := hb1.size; have h22 := hb2.size; (try simp at h21); (try simp at h22); omega) | (have h8 := HLT.out; have h21 := hb1.size; have h22 := hb2.size; have h23 := hb3.size; (try simp at h21); (try simp at h22); (try simp at h23); omega)), Lib.hid (li_mk hH (put2_blk HK))⟩
                  | exact ⟨_, _, rfl, rfl, HR, Lib.hid (by first | (have h8 := HLT.out; omega) | (have h8 := HLT.out; have h21 := hb1.size; (try simp at h21); omega) | (have h8 := HLT.out; have h21 := hb1.size; have h22 := hb2.size; (try simp at h21); (try simp at h22); omega) | (have h8 := HLT.out; have h21 := hb1.size; have h22 := hb2.size; have h23 := hb3.size; (try simp at h21); (try simp at h22); (try simp at h23); omega)), Lib.hid (li_mk hH (heap_new0 _ _ (.cells #[.int .i64 _, .int .i64 0] 23) rfl))⟩
        case rest =>
          obtain ⟨qa, ra, rfl, rfl, HRA, HQA, HSI⟩ := hcut
          clear HSU
          go_upto_region 8 with fail
          go_cut [16, 17] from 48 to 130 (fun v16 v17 wc => ∃ (qb : Nat) (r : Int), v16 = .pointer (some ⟨qb, 0, none⟩) ∧ v17 = .bool (asB r) ∧ Hid (Nx1 fB us r) ∧ Hid (qa < qb) ∧ Hid (Lj w false f d s n qm mv qu us un qa (asI ra) qb (asI r) wc))
          case first =>
            as_aux_lemma =>
              have hH0 : Li w false f d s n qm mv qu us un qa (asI ra) wc.drew := li_on (bl_drew (Below.refl _ _)) HSI.out
              have HLT := Lib.hid (li_lt HSI.out)
              go_region_held3 (fun W => Li w false f d s n qm mv qu us un qa (asI ra) W) (first | assumption | exact hH0 | exact li_on hb1 (by assumption) | exact li_on hb2 (by assumption) | exact li_on hb3 (by assumption) | exact li_on (bl_alloc (Below.refl _ _) _) (by assumption) | exact li_on (bl_alloc (Below.refl _ _) _) (li_on hb3 (li_on hb2 (li_on hb1 hH0))) | exact li_set (r := wc.heap.size) (by have h8 := HLT.out; omega) (by have h8 := HLT.out; omega) (by have h8 := HLT.out; omega) (by have h8 := HLT.out; omega) (by have h8 := HLT.out; omega) (by have h8 := HLT.out; omega) (by assumption) | exact li_set (r := x1.heap.size) (by have h8 := HLT.out; have h21 := hb1.size; (try simp at h21); omega) (by have h8 := HLT.out; have h21 := hb1.size; (try simp at h21); omega) (by have h8 := HLT.out; have h21 := hb1.size; (try simp at h21); omega) (by have h8 := HLT.out; have h21 := hb1.size; (try simp at h21); omega) (by have h8 := HLT.out; have h21 := hb1.size; (try simp at h21); omega) (by have h8 := HLT.out; have h21 := hb1.size; (try simp at h21); omega) (by assumption) | exact li_set (r := x2.heap.size) (by have h8 := HLT.out; have h21 := hb1.size; (try simp at h21); have h22 := hb2.size; (try simp at h22); omega) (by have h8 := HLT.out; have h21 := hb1.size; (try simp at h21); have h22 := hb2.size; (try simp at h22); omega) (by have h8 := HLT.out; have h21 := hb1.size; (try simp at h21); have h22 := hb2.size; (try simp at h22); omega) (by have h8 := HLT.out; have h21 := hb1.size; (try simp at h21); have h22 := hb2.size; (try simp at h22); omega) (by have h8 := HLT.out; have h21 := hb1.size; (try simp at h21); have h22 := hb2.size; (try simp at h22); omega) (by have h8 := HLT.out; have h21 := hb1.size; (try simp at h21); have h22 := hb2.size; (try simp at h22); omega) (by assumption) | exact li_set (r := x3.heap.size) (by have h8 := HLT.out; have h21 := hb1.size; (try simp at h21); have h22 := hb2.size; (try simp at h22); have h23 := hb3.size; (try simp at h23); omega) (by have h8 := HLT.out; have h21 := hb1.size; (try simp at h21); have h22 := hb2.size; (try simp at h22); have h23 := hb3.size; (try simp at h23); omega) (by have h8 := HLT.out; have h21 := hb1.size; (try simp at h21); have h22 := hb2.size; (try simp at h22); have h23 := hb3.size; (try simp at h23); omega) (by have h8 := HLT.out; have h21 := hb1.size; (try simp at h21); have h22 := hb2.size; (try simp at h22); have h23 := hb3.size; (try simp at h23); omega) (by have h8 := HLT.out; have h21 := hb1.size; (try simp at h21); have h22 := hb2.size; (try simp at h22); have h23 := hb3.size; (try simp at h23); omega) (by have h8 := HLT.out; have h21 := hb1.size; (try simp at h21); have h22 := hb2.size; (try simp at h22); have h23 := hb3.size; (try simp at h23); omega) (by assumption) | fail) (first
                | (go_at_call 20; with_reducible refine (HWB.out _).mono ?_; rintro e x1 ⟨rfl, hb1⟩; first | (have HK0 := blk_on hb1 HK; clear HK r0 r1 f0 f1; have HK := HK0; clear HK0; obtain ⟨r0, r1, f0, f1⟩ := res2 HK) | (have HK := blk_on hb1 (heap_new0 _ wc.heap.size (.cells #[.int .i64 0, .int .i64 0] 23) (by first | rfl | simp)); obtain ⟨r0, r1, f0, f1⟩ := res2 HK) | skip)
                | (go_at_call 11; with_reducible refine (cronUTC_any _).mono ?_; rintro e x2 ⟨rfl, hb2⟩; first | (have HK0 := blk_on hb2 HK; clear HK r0 r1 f0 f1; have HK := HK0; clear HK0; obtain ⟨r0, r1, f0, f1⟩ := res2 HK) | (have HK := blk_on hb2 (heap_new0 _ x1.heap.size (.cells #[.int .i64 0, .int .i64 0] 23) (by first | rfl | simp)); obtain ⟨r0, r1, f0, f1⟩ := res2 HK) | skip)
                | (go_at_call 10; with_reducible refine (HNB.out _).mono ?_; rintro e x3 ⟨⟨r, rfl, hr⟩, hb3⟩; have HR := Lib.hid hr; clear hr; first | (have HK0 := blk_on hb3 HK; clear HK r0 r1 f0 f1; have HK := HK0; clear HK0; obtain ⟨r0, r1, f0, f1⟩ := res2 HK) | (have HK := blk_on hb3 (heap_new0 _ x2.heap.size (.cells #[.int .i64 0, .int .i64 0] 23) (by first | rfl | simp)); obtain ⟨r0, r1, f0, f1⟩ := res2 HK) | skip))
              all_goals
                rename_i hH
                go_wp2_with fail
                go_meet
                case rel =>
                  first
                    | exact ⟨_, _, rfl, rfl, HR, Lib.hid (by first | (have h8 := HLT.out; omega) | (have h8 := HLT.out; have h21 := hb1.size; (try simp at h21); omega) | (have h8 := HLT.out; have h21 := hb1.size; have h22 := hb2.size; (try simp at h21); (try simp at h22); omega) | (have h8 := HLT.out; have h21 := hb1.size; have h22 := hb2.size; have h23 := hb3.size; (try simp at h21); (try simp at h22); (try simp at h23); omega)), Lib.hid (lj_mk hH (put2_blk HK))⟩
                    | exact ⟨_, _, rfl, rfl, HR, Lib.hid (by first | (have h8 := HLT.out; omega) | (have h8 := HLT.out; have h21 := hb1.size; (try simp at h21); omega) | (have h8 := HLT.out; have h21 := hb1.size; have h22 := hb2.size; (try simp at h21); (try simp at h22); omega) | (have h8 := HLT.out; have h21 := hb1.size; have h22 := hb2.size; have h23 := hb3.size; (try simp at h21); (try simp at h22); (try simp at h23); omega)), Lib.hid (lj_mk hH (heap_new0 _ _ (.cells #[.int .i64 _, .int .i64 0] 23) rfl))⟩
          case rest =>
            obtain ⟨qb, rb, rfl, rfl, HRB, HQB, HSJ⟩ := hcut
            clear HSI HNA HNB HWA HWB
            obtain ⟨av, ea⟩ : ∃ av, av = asI ra := ⟨_, rfl⟩
            obtain ⟨bv, eb⟩ : ∃ bv, bv = asI rb := ⟨_, rfl⟩
            rw [← ea, ← eb] at HSJ
            have HEA := Lib.hid ea
            have HEB := Lib.hid eb
            clear ea eb
            have HLE : Hid (Leap fM fA fB s us rm ra rb) := Lib.hid ⟨HBO.out, HGO.out.1, HI.out.2.2.2.1, HRM.out, HRA.out, HRB.out, HNF.out⟩
            have HJ := HSJ
            clear HSJ
            cases hra : asB ra
            · have hm : asB rm = false := HLE.out.none (by first | exact Or.inl hra | exact Or.inr hrb)
              have HN0 := Lib.hid (nx_none HRM.out HGO.out.1 hm)
              have HNO := Lib.hid (fun w => none_any fM d s (s + 62135596800 + 1) n w rfl (by have := HGO.out; omega) (by have := HGO.out; omega) HN0.out)
              have hmb : mb = false := HMB.out.symm.trans hm
              subst hmb
              go_upto_region 10 with fail
              have HT := HJ
              refine start_ (n := 14) (S := fun w' => Lj w false f d s n qm mv qu us un qa av qb bv w') (ds := []) #[false, false, false, false, false, false, false, false, false, false, false, false, false, false] (by kernel_rfl) rfl rfl (lj_on (bl_drew (Below.refl _ _)) HJ.out) (fun hHeld => ?_)
              refine pure_ (i := 0) (N := some 75) (v := ?_) (a' := ?_) #[true, false, false, false, false, false, false, false, false, false, false, false, false, false] rfl rfl (by kernel_rfl) (fun _ _ _ h => h) (Or.inl ⟨by rfl, ?_⟩) ?_ ?_
              rotate_left
              · intro w'
                go_simp
                with_reducible rfl
              rotate_left
              · simp only [Act.put, List.setIfInBounds_toArray, List.set_cons_zero, List.set_cons_succ, i64_w, i32_w]
                rfl
              refine pure_ (i := 1) (N := some 76) (v := ?_) (a' := ?_) #[true, true, false, false, false, false, false, false, false, false, false, false, false, false] rfl rfl (by kernel_rfl) (fun _ _ _ h => h) (Or.inl ⟨by rfl, ?_⟩) ?_ ?_
              rotate_left
              · intro w'
                go_simp
                with_reducible rfl
              rotate_left
              · simp only [Act.put, List.setIfInBounds_toArray, List.set_cons_zero, List.set_cons_succ, i64_w, i32_w]
                rfl
              refine pure_ (i := 2) (N := some 77) (v := ?_) (a' := ?_) #[true, true, true, false, false, false, false, false, false, false, false, false, false, false] rfl rfl (by kernel_rfl) (fun _ _ _ h => h) (Or.inl ⟨by rfl, ?_⟩) ?_ ?_
              rotate_left
              · intro w'
                go_simp
                with_reducible rfl
              rotate_left
              · simp only [Act.put, List.setIfInBounds_toArray, List.set_cons_zero, List.set_cons_succ, i64_w, i32_w]
                rfl
              refine pure_ (i := 4) (N := some 79) (v := ?_) (a' := ?_) #[true, true, true, false, true, false, false, false, false, false, false, false, false, false] rfl rfl (by kernel_rfl) (fun _ _ _ h => h) (Or.inl ⟨by rfl, ?_⟩) ?_ ?_
              rotate_left
              · intro w'
                go_simp
                with_reducible rfl
              rotate_left
              · simp only [Act.put, List.setIfInBounds_toArray, List.set_cons_zero, List.set_cons_succ, i64_w, i32_w]
                rfl
              refine pure_ (i := 5) (N := some 80) (v := ?_) (a' := ?_) #[true, true, true, false, true, true, false, false, false, false, false, false, false, false] rfl rfl (by kernel_rfl) (fun _ _ _ h => h) (Or.inl ⟨by rfl, ?_⟩) ?_ ?_
              rotate_left
              · intro w'
                go_simp
                with_reducible rfl
              rotate_left
              · simp only [Act.put, List.setIfInBounds_toArray, List.set_cons_zero, List.set_cons_succ, i64_w, i32_w]
                rfl
              refine pure_ (i := 6) (N := some 81) (v := ?_) (a' := ?_) #[true, true, true, false, true, true, true, false, false, false, false, false, false, false] rfl rfl (by kernel_rfl) (fun _ _ _ h => h) (Or.inl ⟨by rfl, ?_⟩) ?_ ?_
              rotate_left
              · intro w'
                go_simp
                with_reducible rfl
              rotate_left
              · simp only [Act.put, List.setIfInBounds_toArray, List.set_cons_zero, List.set_cons_succ, i64_w, i32_w]
                rfl
              refine pure_ (i := 7) (N := some 82) (v := ?_) (a' := ?_) #[true, true, true, false, true, true, true, true, false, false, false, false, false, false] rfl rfl (by kernel_rfl) (fun _ _ _ h => h) (Or.inl ⟨by rfl, ?_⟩) ?_ ?_
              rotate_left
              · intro w'
                go_simp
                with_reducible rfl
              rotate_left
              · simp only [Act.put, List.setIfInBounds_toArray, List.set_cons_zero, List.set_cons_succ, i64_w, i32_w]
                rfl
              refine take_ (i := 3) (N := some 78) (v := ?_) (a' := ?_) #[true, true, true, true, true, true, true, true, false, false, false, false, false, false] rfl rfl (by kernel_rfl) (fun _ _ _ h => h) (Or.inl ⟨by rfl, ?_⟩) hHeld ?_ ?_
              rotate_left
              · rintro w' ⟨s0, s1, s2, s3, s4, s5, s6, s7, s8, s9, s10, s11, s12, s13, s14, s15, s16, s17, s18⟩
                go_simp
                with_reducible rfl
              rotate_left
              · simp only [Act.put, List.setIfInBounds_toArray, List.set_cons_zero, List.set_cons_succ, i64_w, i32_w]
                rfl
              refine take_ (i := 9) (N := some 84) (v := ?_) (a' := ?_) #[true, true, true, true, true, true, true, true, false, true, false, false, false, false] rfl rfl (by kernel_rfl) (fun _ _ _ h => h) (Or.inl ⟨by rfl, ?_⟩) hHeld ?_ ?_
              rotate_left
              · rintro w' ⟨s0, s1, s2, s3, s4, s5, s6, s7, s8, s9, s10, s11, s12, s13, s14, s15, s16, s17, s18⟩
                go_simp
                with_reducible rfl
              rotate_left
              · simp only [Act.put, List.setIfInBounds_toArray, List.set_cons_zero, List.set_cons_succ, i64_w, i32_w]
                rfl
              refine one_ (i := 8) (N := some 83) #[true, true, true, true, true, true, true, true, true, true, false, false, false, false] rfl rfl (by kernel_rfl) (by decide) (fun K hK => ?_)
              refine goes_ Try.func20 (by kernel_rfl) rfl #[schV false f d, .int .i64 kd, .int .u64 (bits .and .u64 o1 o2)] (by rfl) rfl rfl (by simp only [List.map_toArray, List.map_cons, List.map_nil]; rfl) ?_
              with_reducible refine (HWM.out _).mono ?_
              rintro e w4 ⟨rfl, hb⟩
              refine ⟨_, rfl, ?_⟩
              refine hK.out _ _ (lj_on hb hHeld) (fun hHeld => ?_)
              clear hK K
              refine norm_ (a' := ?_) ?_ ?_
              rotate_left
              · show Act.put _ (some 83) _ = _
                simp only [Act.put, List.setIfInBounds_toArray, List.set_cons_zero, List.set_cons_succ, i64_w, i32_w]
                rfl
              refine one_ (i := 10) (N := some 85) #[true, true, true, true, true, true, true, true, true, true, true, false, false, false] rfl rfl (by kernel_rfl) (by decide) (fun K hK => ?_)
              refine goes_ Try.func11 (by kernel_rfl) rfl #[] (by rfl) rfl rfl (by simp only [List.map_toArray, List.map_nil]) ?_
              with_reducible refine (cronUTC_any _).mono ?_
              rintro e w4 ⟨rfl, hb⟩
              refine ⟨_, rfl, ?_⟩
              refine hK.out _ _ (lj_on hb hHeld) (fun hHeld => ?_)
              clear hK K
              refine norm_ (a' := ?_) ?_ ?_
              rotate_left
              · show Act.put _ (some 85) _ = _
                simp only [Act.put, List.setIfInBounds_toArray, List.set_cons_zero, List.set_cons_succ, i64_w, i32_w]
                rfl
              refine one_ (i := 11) (N := some 86) #[true, true, true, true, true, true, true, true, true, true, true, true, false, false] rfl rfl (by kernel_rfl) (by decide) (fun K hK => ?_)
              refine goes_ Try.func16 (by kernel_rfl) rfl #[schV false fM d, inV s n, znV] (by rfl) rfl rfl (by simp only [List.map_toArray, List.map_cons, List.map_nil]; rfl) ?_
              with_reducible refine (HNO.out _).mono ?_
              rintro e w4 ⟨rfl, hb⟩
              refine ⟨_, rfl, ?_⟩
              refine hK.out _ _ (lj_on hb hHeld) (fun hHeld => ?_)
              clear hK K
              refine norm_ (a' := ?_) ?_ ?_
              rotate_left
              · show Act.put _ (some 86) _ = _
                simp only [Act.put, List.setIfInBounds_toArray, List.set_cons_zero, List.set_cons_succ, i64_w, i32_w]
                rfl
              refine pure_ (i := 12) (N := some 87) (v := ?_) (a' := ?_) #[true, true, true, true, true, true, true, true, true, true, true, true, true, false] rfl rfl (by kernel_rfl) (fun _ _ _ h => h) (Or.inl ⟨by rfl, ?_⟩) ?_ ?_
              rotate_left
              · intro w'
                go_simp
                with_reducible rfl
              rotate_left
              · simp only [Act.put, List.setIfInBounds_toArray, List.set_cons_zero, List.set_cons_succ, i64_w, i32_w]
                rfl
              refine pure_ (i := 13) (N := some 10) (v := ?_) (a' := ?_) #[true, true, true, true, true, true, true, true, true, true, true, true, true, true] rfl rfl (by kernel_rfl) (fun _ _ _ h => h) (Or.inl ⟨by rfl, ?_⟩) ?_ ?_
              rotate_left
              · intro w'
                go_simp
                with_reducible rfl
              rotate_left
              · simp only [Act.put, List.setIfInBounds_toArray, List.set_cons_zero, List.set_cons_succ, i64_w, i32_w]
                rfl
              refine done_ (by kernel_rfl) ?_
              have HE := Lib.hid (lj_bel hHeld)
              clear hHeld
              go_wp2_with fail
              go_ret
              exact ⟨rfl, HE.out⟩


            · cases hrb : asB rb
              · have hm : asB rm = false := HLE.out.none (by first | exact Or.inl hra | exact Or.inr hrb)
                have HN0 := Lib.hid (nx_none HRM.out HGO.out.1 hm)
                have HNO := Lib.hid (fun w => none_any fM d s (s + 62135596800 + 1) n w rfl (by have := HGO.out; omega) (by have := HGO.out; omega) HN0.out)
                have hmb : mb = false := HMB.out.symm.trans hm
                subst hmb
                go_upto_region 10 with fail
                have HT := HJ
                refine start_ (n := 14) (S := fun w' => Lj w false f d s n qm mv qu us un qa av qb bv w') (ds := []) #[false, false, false, false, false, false, false, false, false, false, false, false, false, false] (by kernel_rfl) rfl rfl (lj_on (bl_drew (Below.refl _ _)) HJ.out) (fun hHeld => ?_)
                refine pure_ (i := 0) (N := some 75) (v := ?_) (a' := ?_) #[true, false, false, false, false, false, false, false, false, false, false, false, false, false] rfl rfl (by kernel_rfl) (fun _ _ _ h => h) (Or.inl ⟨by rfl, ?_⟩) ?_ ?_
                rotate_left
                · intro w'
                  go_simp
                  with_reducible rfl
                rotate_left
                · simp only [Act.put, List.setIfInBounds_toArray, List.set_cons_zero, List.set_cons_succ, i64_w, i32_w]
                  rfl
                refine pure_ (i := 1) (N := some 76) (v := ?_) (a' := ?_) #[true, true, false, false, false, false, false, false, false, false, false, false, false, false] rfl rfl (by kernel_rfl) (fun _ _ _ h => h) (Or.inl ⟨by rfl, ?_⟩) ?_ ?_
                rotate_left
                · intro w'
                  go_simp
                  with_reducible rfl
                rotate_left
                · simp only [Act.put, List.setIfInBounds_toArray, List.set_cons_zero, List.set_cons_succ, i64_w, i32_w]
                  rfl
                refine pure_ (i := 2) (N := some 77) (v := ?_) (a' := ?_) #[true, true, true, false, false, false, false, false, false, false, false, false, false, false] rfl rfl (by kernel_rfl) (fun _ _ _ h => h) (Or.inl ⟨by rfl, ?_⟩) ?_ ?_
                rotate_left
                · intro w'
                  go_simp
                  with_reducible rfl
                rotate_left
                · simp only [Act.put, List.setIfInBounds_toArray, List.set_cons_zero, List.set_cons_succ, i64_w, i32_w]
                  rfl
                refine pure_ (i := 4) (N := some 79) (v := ?_) (a' := ?_) #[true, true, true, false, true, false, false, false, false, false, false, false, false, false] rfl rfl (by kernel_rfl) (fun _ _ _ h => h) (Or.inl ⟨by rfl, ?_⟩) ?_ ?_
                rotate_left
                · intro w'
                  go_simp
                  with_reducible rfl
                rotate_left
                · simp only [Act.put, List.setIfInBounds_toArray, List.set_cons_zero, List.set_cons_succ, i64_w, i32_w]
                  rfl
                refine pure_ (i := 5) (N := some 80) (v := ?_) (a' := ?_) #[true, true, true, false, true, true, false, false, false, false, false, false, false, false] rfl rfl (by kernel_rfl) (fun _ _ _ h => h) (Or.inl ⟨by rfl, ?_⟩) ?_ ?_
                rotate_left
                · intro w'
                  go_simp
                  with_reducible rfl
                rotate_left
                · simp only [Act.put, List.setIfInBounds_toArray, List.set_cons_zero, List.set_cons_succ, i64_w, i32_w]
                  rfl
                refine pure_ (i := 6) (N := some 81) (v := ?_) (a' := ?_) #[true, true, true, false, true, true, true, false, false, false, false, false, false, false] rfl rfl (by kernel_rfl) (fun _ _ _ h => h) (Or.inl ⟨by rfl, ?_⟩) ?_ ?_
                rotate_left
                · intro w'
                  go_simp
                  with_reducible rfl
                rotate_left
                · simp only [Act.put, List.setIfInBounds_toArray, List.set_cons_zero, List.set_cons_succ, i64_w, i32_w]
                  rfl
                refine pure_ (i := 7) (N := some 82) (v := ?_) (a' := ?_) #[true, true, true, false, true, true, true, true, false, false, false, false, false, false] rfl rfl (by kernel_rfl) (fun _ _ _ h => h) (Or.inl ⟨by rfl, ?_⟩) ?_ ?_
                rotate_left
                · intro w'
                  go_simp
                  with_reducible rfl
                rotate_left
                · simp only [Act.put, List.setIfInBounds_toArray, List.set_cons_zero, List.set_cons_succ, i64_w, i32_w]
                  rfl
                refine take_ (i := 3) (N := some 78) (v := ?_) (a' := ?_) #[true, true, true, true, true, true, true, true, false, false, false, false, false, false] rfl rfl (by kernel_rfl) (fun _ _ _ h => h) (Or.inl ⟨by rfl, ?_⟩) hHeld ?_ ?_
                rotate_left
                · rintro w' ⟨s0, s1, s2, s3, s4, s5, s6, s7, s8, s9, s10, s11, s12, s13, s14, s15, s16, s17, s18⟩
                  go_simp
                  with_reducible rfl
                rotate_left
                · simp only [Act.put, List.setIfInBounds_toArray, List.set_cons_zero, List.set_cons_succ, i64_w, i32_w]
                  rfl
                refine take_ (i := 9) (N := some 84) (v := ?_) (a' := ?_) #[true, true, true, true, true, true, true, true, false, true, false, false, false, false] rfl rfl (by kernel_rfl) (fun _ _ _ h => h) (Or.inl ⟨by rfl, ?_⟩) hHeld ?_ ?_
                rotate_left
                · rintro w' ⟨s0, s1, s2, s3, s4, s5, s6, s7, s8, s9, s10, s11, s12, s13, s14, s15, s16, s17, s18⟩
                  go_simp
                  with_reducible rfl
                rotate_left
                · simp only [Act.put, List.setIfInBounds_toArray, List.set_cons_zero, List.set_cons_succ, i64_w, i32_w]
                  rfl
                refine one_ (i := 8) (N := some 83) #[true, true, true, true, true, true, true, true, true, true, false, false, false, false] rfl rfl (by kernel_rfl) (by decide) (fun K hK => ?_)
                refine goes_ Try.func20 (by kernel_rfl) rfl #[schV false f d, .int .i64 kd, .int .u64 (bits .and .u64 o1 o2)] (by rfl) rfl rfl (by simp only [List.map_toArray, List.map_cons, List.map_nil]; rfl) ?_
                with_reducible refine (HWM.out _).mono ?_
                rintro e w4 ⟨rfl, hb⟩
                refine ⟨_, rfl, ?_⟩
                refine hK.out _ _ (lj_on hb hHeld) (fun hHeld => ?_)
                clear hK K
                refine norm_ (a' := ?_) ?_ ?_
                rotate_left
                · show Act.put _ (some 83) _ = _
                  simp only [Act.put, List.setIfInBounds_toArray, List.set_cons_zero, List.set_cons_succ, i64_w, i32_w]
                  rfl
                refine one_ (i := 10) (N := some 85) #[true, true, true, true, true, true, true, true, true, true, true, false, false, false] rfl rfl (by kernel_rfl) (by decide) (fun K hK => ?_)
                refine goes_ Try.func11 (by kernel_rfl) rfl #[] (by rfl) rfl rfl (by simp only [List.map_toArray, List.map_nil]) ?_
                with_reducible refine (cronUTC_any _).mono ?_
                rintro e w4 ⟨rfl, hb⟩
                refine ⟨_, rfl, ?_⟩
                refine hK.out _ _ (lj_on hb hHeld) (fun hHeld => ?_)
                clear hK K
                refine norm_ (a' := ?_) ?_ ?_
                rotate_left
                · show Act.put _ (some 85) _ = _
                  simp only [Act.put, List.setIfInBounds_toArray, List.set_cons_zero, List.set_cons_succ, i64_w, i32_w]
                  rfl
                refine one_ (i := 11) (N := some 86) #[true, true, true, true, true, true, true, true, true, true, true, true, false, false] rfl rfl (by kernel_rfl) (by decide) (fun K hK => ?_)
                refine goes_ Try.func16 (by kernel_rfl) rfl #[schV false fM d, inV s n, znV] (by rfl) rfl rfl (by simp only [List.map_toArray, List.map_cons, List.map_nil]; rfl) ?_
                with_reducible refine (HNO.out _).mono ?_
                rintro e w4 ⟨rfl, hb⟩
                refine ⟨_, rfl, ?_⟩
                refine hK.out _ _ (lj_on hb hHeld) (fun hHeld => ?_)
                clear hK K
                refine norm_ (a' := ?_) ?_ ?_
                rotate_left
                · show Act.put _ (some 86) _ = _
                  simp only [Act.put, List.setIfInBounds_toArray, List.set_cons_zero, List.set_cons_succ, i64_w, i32_w]
                  rfl
                refine pure_ (i := 12) (N := some 87) (v := ?_) (a' := ?_) #[true, true, true, true, true, true, true, true, true, true, true, true, true, false] rfl rfl (by kernel_rfl) (fun _ _ _ h => h) (Or.inl ⟨by rfl, ?_⟩) ?_ ?_
                rotate_left
                · intro w'
                  go_simp
                  with_reducible rfl
                rotate_left
                · simp only [Act.put, List.setIfInBounds_toArray, List.set_cons_zero, List.set_cons_succ, i64_w, i32_w]
                  rfl
                refine pure_ (i := 13) (N := some 10) (v := ?_) (a' := ?_) #[true, true, true, true, true, true, true, true, true, true, true, true, true, true] rfl rfl (by kernel_rfl) (fun _ _ _ h => h) (Or.inl ⟨by rfl, ?_⟩) ?_ ?_
                rotate_left
                · intro w'
                  go_simp
                  with_reducible rfl
                rotate_left
                · simp only [Act.put, List.setIfInBounds_toArray, List.set_cons_zero, List.set_cons_succ, i64_w, i32_w]
                  rfl
                refine done_ (by kernel_rfl) ?_
                have HE := Lib.hid (lj_bel hHeld)
                clear hHeld
                go_wp2_with fail
                go_ret
                exact ⟨rfl, HE.out⟩


              · by_cases hab : av = bv
                · have hrr : ra = rb := by
                    have e1 := HEA.out
                    have e2 := HEB.out
                    rw [asI_of hra] at e1
                    rw [asI_of hrb] at e2
                    omega
                  have HLS : Leap fM fA fB s us rm ra ra := by
                    have h := HLE.out
                    rw [← hrr] at h
                    exact h
                  subst hab
                  cases mb
                  · have hm : asB rm = false := HMB.out
                    have hmv : mv = 0 := by
                      rw [HEM.out]
                      unfold asI
                      unfold asB at hm
                      by_cases h : rm = 0
                      · rw [if_pos h]
                      · rw [decide_eq_false h] at hm
                        exact absurd hm (by decide)
                    subst hmv
                    obtain ⟨b0, b1, b2, b3⟩ := lj_b HJ.out
                    obtain ⟨m0, m1, m2, m3⟩ := io_c b0
                    obtain ⟨u0, u1, u2, u3⟩ := io_c b1
                    obtain ⟨a0, a1, a2, a3⟩ := io_c b2
                    obtain ⟨c0, c1, c2, c3⟩ := io_c b3
                    clear b0 b1 b2 b3
                    have hz23 : ∀ w, (zeroValue 23).run Try.prog w = .ok (inV 0 0) w := fun _ => by kernel_rfl
                    have HN0 := Lib.hid (nx_none HRM.out HGO.out.1 hm)
                    have HNO := Lib.hid (fun w => none_any fM d s (s + 62135596800 + 1) n w rfl (by have := HGO.out; omega) (by have := HGO.out; omega) HN0.out)
                    go_upto_region 14 with fail
                    clear m0 m1 m2 m3 u0 u1 u2 u3 a0 a1 a2 a3 c0 c1 c2 c3
                    have HT := HJ
                    refine start_ (n := 15) (S := fun w' => Lj w false f d s n qm 0 qu us un qa av qb av w') (ds := []) #[false, false, false, false, false, false, false, false, false, false, false, false, false, false, false] (by kernel_rfl) rfl rfl (lj_on (bl_drew (Below.refl _ _)) HJ.out) (fun hHeld => ?_)
                    refine pure_ (i := 1) (N := some 96) (v := ?_) (a' := ?_) #[false, true, false, false, false, false, false, false, false, false, false, false, false, false, false] rfl rfl (by kernel_rfl) (fun _ _ _ h => h) (Or.inl ⟨by rfl, ?_⟩) ?_ ?_
                    rotate_left
                    · intro w'
                      go_simp
                      with_reducible rfl
                    rotate_left
                    · simp only [Act.put, List.setIfInBounds_toArray, List.set_cons_zero, List.set_cons_succ, i64_w, i32_w]
                      rfl
                    refine take_ (i := 0) (N := some 95) (v := ?_) (a' := ?_) #[true, true, false, false, false, false, false, false, false, false, false, false, false, false, false] rfl rfl (by kernel_rfl) (fun _ _ _ h => h) (Or.inl ⟨by rfl, ?_⟩) hHeld ?_ ?_
                    rotate_left
                    · rintro w' ⟨s0, s1, s2, s3, s4, s5, s6, s7, s8, s9, s10, s11, s12, s13, s14, s15, s16, s17, s18⟩
                      go_simp
                      with_reducible rfl
                    rotate_left
                    · simp only [Act.put, List.setIfInBounds_toArray, List.set_cons_zero, List.set_cons_succ, i64_w, i32_w]
                      rfl
                    refine pure_ (i := 2) (N := some 97) (v := ?_) (a' := ?_) #[true, true, true, false, false, false, false, false, false, false, false, false, false, false, false] rfl rfl (by kernel_rfl) (fun _ _ _ h => h) (Or.inl ⟨by rfl, ?_⟩) ?_ ?_
                    rotate_left
                    · intro w'
                      go_simp
                      with_reducible rfl
                    rotate_left
                    · simp only [Act.put, List.setIfInBounds_toArray, List.set_cons_zero, List.set_cons_succ, i64_w, i32_w]
                      rfl
                    refine pure_ (i := 3) (N := some 98) (v := ?_) (a' := ?_) #[true, true, true, true, false, false, false, false, false, false, false, false, false, false, false] rfl rfl (by kernel_rfl) (fun _ _ _ h => h) (Or.inl ⟨by rfl, ?_⟩) ?_ ?_
                    rotate_left
                    · intro w'
                      go_simp
                      with_reducible rfl
                    rotate_left
                    · simp only [Act.put, List.setIfInBounds_toArray, List.set_cons_zero, List.set_cons_succ, i64_w, i32_w]
                      rfl
                    refine pure_ (i := 5) (N := some 100) (v := ?_) (a' := ?_) #[true, true, true, true, false, true, false, false, false, false, false, false, false, false, false] rfl rfl (by kernel_rfl) (fun _ _ _ h => h) (Or.inl ⟨by rfl, ?_⟩) ?_ ?_
                    rotate_left
                    · intro w'
                      go_simp
                      with_reducible rfl
                    rotate_left
                    · simp only [Act.put, List.setIfInBounds_toArray, List.set_cons_zero, List.set_cons_succ, i64_w, i32_w]
                      rfl
                    refine pure_ (i := 6) (N := some 101) (v := ?_) (a' := ?_) #[true, true, true, true, false, true, true, false, false, false, false, false, false, false, false] rfl rfl (by kernel_rfl) (fun _ _ _ h => h) (Or.inl ⟨by rfl, ?_⟩) ?_ ?_
                    rotate_left
                    · intro w'
                      go_simp
                      with_reducible rfl
                    rotate_left
                    · simp only [Act.put, List.setIfInBounds_toArray, List.set_cons_zero, List.set_cons_succ, i64_w, i32_w]
                      rfl
                    refine pure_ (i := 7) (N := some 102) (v := ?_) (a' := ?_) #[true, true, true, true, false, true, true, true, false, false, false, false, false, false, false] rfl rfl (by kernel_rfl) (fun _ _ _ h => h) (Or.inl ⟨by rfl, ?_⟩) ?_ ?_
                    rotate_left
                    · intro w'
                      go_simp
                      with_reducible rfl
                    rotate_left
                    · simp only [Act.put, List.setIfInBounds_toArray, List.set_cons_zero, List.set_cons_succ, i64_w, i32_w]
                      rfl
                    refine pure_ (i := 8) (N := some 103) (v := ?_) (a' := ?_) #[true, true, true, true, false, true, true, true, true, false, false, false, false, false, false] rfl rfl (by kernel_rfl) (fun _ _ _ h => h) (Or.inl ⟨by rfl, ?_⟩) ?_ ?_
                    rotate_left
                    · intro w'
                      go_simp
                      with_reducible rfl
                    rotate_left
                    · simp only [Act.put, List.setIfInBounds_toArray, List.set_cons_zero, List.set_cons_succ, i64_w, i32_w]
                      rfl
                    refine take_ (i := 4) (N := some 99) (v := ?_) (a' := ?_) #[true, true, true, true, true, true, true, true, true, false, false, false, false, false, false] rfl rfl (by kernel_rfl) (fun _ _ _ h => h) (Or.inl ⟨by rfl, ?_⟩) hHeld ?_ ?_
                    rotate_left
                    · rintro w' ⟨s0, s1, s2, s3, s4, s5, s6, s7, s8, s9, s10, s11, s12, s13, s14, s15, s16, s17, s18⟩
                      go_simp
                      with_reducible rfl
                    rotate_left
                    · simp only [Act.put, List.setIfInBounds_toArray, List.set_cons_zero, List.set_cons_succ, i64_w, i32_w]
                      rfl
                    refine take_ (i := 10) (N := some 105) (v := ?_) (a' := ?_) #[true, true, true, true, true, true, true, true, true, false, true, false, false, false, false] rfl rfl (by kernel_rfl) (fun _ _ _ h => h) (Or.inl ⟨by rfl, ?_⟩) hHeld ?_ ?_
                    rotate_left
                    · rintro w' ⟨s0, s1, s2, s3, s4, s5, s6, s7, s8, s9, s10, s11, s12, s13, s14, s15, s16, s17, s18⟩
                      go_simp
                      with_reducible rfl
                    rotate_left
                    · simp only [Act.put, List.setIfInBounds_toArray, List.set_cons_zero, List.set_cons_succ, i64_w, i32_w]
                      rfl
                    refine one_ (i := 9) (N := some 104) #[true, true, true, true, true, true, true, true, true, true, true, false, false, false, false] rfl rfl (by kernel_rfl) (by decide) (fun K hK => ?_)
                    refine goes_ Try.func20 (by kernel_rfl) rfl #[schV false f d, .int .i64 kd, .int .u64 (bits .and .u64 o1 o2)] (by rfl) rfl rfl (by simp only [List.map_toArray, List.map_cons, List.map_nil]; rfl) ?_
                    with_reducible refine (HWM.out _).mono ?_
                    rintro e w4 ⟨rfl, hb⟩
                    refine ⟨_, rfl, ?_⟩
                    refine hK.out _ _ (lj_on hb hHeld) (fun hHeld => ?_)
                    clear hK K
                    refine norm_ (a' := ?_) ?_ ?_
                    rotate_left
                    · show Act.put _ (some 104) _ = _
                      simp only [Act.put, List.setIfInBounds_toArray, List.set_cons_zero, List.set_cons_succ, i64_w, i32_w]
                      rfl
                    refine one_ (i := 11) (N := some 106) #[true, true, true, true, true, true, true, true, true, true, true, true, false, false, false] rfl rfl (by kernel_rfl) (by decide) (fun K hK => ?_)
                    refine goes_ Try.func11 (by kernel_rfl) rfl #[] (by rfl) rfl rfl (by simp only [List.map_toArray, List.map_nil]) ?_
                    with_reducible refine (cronUTC_any _).mono ?_
                    rintro e w4 ⟨rfl, hb⟩
                    refine ⟨_, rfl, ?_⟩
                    refine hK.out _ _ (lj_on hb hHeld) (fun hHeld => ?_)
                    clear hK K
                    refine norm_ (a' := ?_) ?_ ?_
                    rotate_left
                    · show Act.put _ (some 106) _ = _
                      simp only [Act.put, List.setIfInBounds_toArray, List.set_cons_zero, List.set_cons_succ, i64_w, i32_w]
                      rfl
                    refine one_ (i := 12) (N := some 107) #[true, true, true, true, true, true, true, true, true, true, true, true, true, false, false] rfl rfl (by kernel_rfl) (by decide) (fun K hK => ?_)
                    refine goes_ Try.func16 (by kernel_rfl) rfl #[schV false fM d, inV s n, znV] (by rfl) rfl rfl (by simp only [List.map_toArray, List.map_cons, List.map_nil]; rfl) ?_
                    with_reducible refine (HNO.out _).mono ?_
                    rintro e w4 ⟨rfl, hb⟩
                    refine ⟨_, rfl, ?_⟩
                    refine hK.out _ _ (lj_on hb hHeld) (fun hHeld => ?_)
                    clear hK K
                    refine norm_ (a' := ?_) ?_ ?_
                    rotate_left
                    · show Act.put _ (some 107) _ = _
                      simp only [Act.put, List.setIfInBounds_toArray, List.set_cons_zero, List.set_cons_succ, i64_w, i32_w]
                      rfl
                    refine pure_ (i := 13) (N := some 108) (v := ?_) (a' := ?_) #[true, true, true, true, true, true, true, true, true, true, true, true, true, true, false] rfl rfl (by kernel_rfl) (fun _ _ _ h => h) (Or.inl ⟨by rfl, ?_⟩) ?_ ?_
                    rotate_left
                    · intro w'
                      go_simp
                      with_reducible rfl
                    rotate_left
                    · simp only [Act.put, List.setIfInBounds_toArray, List.set_cons_zero, List.set_cons_succ, i64_w, i32_w]
                      rfl
                    refine pure_ (i := 14) (N := some 10) (v := ?_) (a' := ?_) #[true, true, true, true, true, true, true, true, true, true, true, true, true, true, true] rfl rfl (by kernel_rfl) (fun _ _ _ h => h) (Or.inl ⟨by rfl, ?_⟩) ?_ ?_
                    rotate_left
                    · intro w'
                      go_simp
                      with_reducible rfl
                    rotate_left
                    · simp only [Act.put, List.setIfInBounds_toArray, List.set_cons_zero, List.set_cons_succ, i64_w, i32_w]
                      rfl
                    refine done_ (by kernel_rfl) ?_
                    have HE := Lib.hid (lj_bel hHeld)
                    clear hHeld
                    go_wp2_with fail
                    go_ret
                    exact ⟨rfl, HE.out⟩
                  · have hm : asB rm = true := HMB.out
                    have hmv : mv = av := by
                      rw [HEM.out, HLS.same hra hm]
                      exact HEA.out.symm
                    subst hmv
                    obtain ⟨b0, b1, b2, b3⟩ := lj_b HJ.out
                    obtain ⟨m0, m1, m2, m3⟩ := io_c b0
                    obtain ⟨u0, u1, u2, u3⟩ := io_c b1
                    obtain ⟨a0, a1, a2, a3⟩ := io_c b2
                    obtain ⟨c0, c1, c2, c3⟩ := io_c b3
                    clear b0 b1 b2 b3
                    have HE := Lib.hid (lj_bel HJ.out)
                    go_wp2_with fail
                    all_goals go_ret
                    all_goals exact ⟨rfl, HE.out⟩
                · have hd1 : decide (av = bv) = false := decide_eq_false hab
                  have hd2 : (av == bv) = false := hd1
                  obtain ⟨b0, b1, b2, b3⟩ := lj_b HJ.out
                  obtain ⟨m0, m1, m2, m3⟩ := io_c b0
                  obtain ⟨u0, u1, u2, u3⟩ := io_c b1
                  obtain ⟨a0, a1, a2, a3⟩ := io_c b2
                  obtain ⟨c0, c1, c2, c3⟩ := io_c b3
                  clear b0 b1 b2 b3
                  by_cases hl : av < bv
                  · have HBF : Hid (∀ w, Calls Try.prog 13 #[inV av 0, inV bv 0] w fun e w' => e = .returned (.bool true) ∧ Below w.heap.size w w') := Lib.hid (fun w => by
                      have h1 := before_any av 0 bv 0 w
                      rw [decide_eq_true hl] at h1
                      simpa using h1)
                    go_upto_region 17 with (go_at_call 13; with_reducible refine (HBF.out _).mono ?_; rintro e w5 ⟨rfl, hb⟩; have HJ0 := Lib.hid (lj_on hb HJ.out); clear hb HJ m0 m1 m2 m3 u0 u1 u2 u3 a0 a1 a2 a3 c0 c1 c2 c3; have HJ := HJ0; clear HJ0; obtain ⟨b0, b1, b2, b3⟩ := lj_b HJ.out; obtain ⟨m0, m1, m2, m3⟩ := io_c b0; obtain ⟨u0, u1, u2, u3⟩ := io_c b1; obtain ⟨a0, a1, a2, a3⟩ := io_c b2; obtain ⟨c0, c1, c2, c3⟩ := io_c b3; clear b0 b1 b2 b3)
                    have HJ2 := Lib.hid (lj_a (v := bv) HQM.out HQU.out HQA.out HQB.out HJ.out)
                    clear HJ m0 m1 m2 m3 u0 u1 u2 u3 a0 a1 a2 a3 c0 c1 c2 c3
                    generalize (w5.setCell ⟨qa, 0, none⟩ (.int .i64 bv)).setCell ⟨qa, 1, none⟩ (.int .i64 0) = W5 at HJ2 ⊢
                    have HJ := HJ2
                    clear HJ2
                    obtain ⟨b0, b1, b2, b3⟩ := lj_b HJ.out
                    obtain ⟨m0, m1, m2, m3⟩ := io_c b0
                    obtain ⟨u0, u1, u2, u3⟩ := io_c b1
                    obtain ⟨a0, a1, a2, a3⟩ := io_c b2
                    obtain ⟨c0, c1, c2, c3⟩ := io_c b3
                    clear b0 b1 b2 b3
                    have HMF : Hid (us < bv ∧ bv ≤ us + 1 + 190000000 ∧ (bv + 62135596800 ≤ ra ∨ bv + 62135596800 ≤ rb) ∧ (asB rm = true → bv ≤ mv)) := Lib.hid (by
                      have e1 := HEA.out
                      have e2 := HEB.out
                      have e3 := HEM.out
                      rw [asI_of hra] at e1
                      rw [asI_of hrb] at e2
                      obtain ⟨k1, k2, -, -⟩ := nx_some HRA.out hra
                      obtain ⟨l1, l2, -, -⟩ := nx_some HRB.out hrb
                      have s0 := HLE.out.s0
                      have s1 := HLE.out.le
                      have y1 := six_years2 (us + 62135596800 + 1) ra (by omega) k2
                      have y2 := six_years2 (us + 62135596800 + 1) rb (by omega) l2
                      refine ⟨by omega, by omega, by omega, fun hm => ?_⟩
                      rw [asI_of hm] at e3
                      have := HLE.out.max hra hrb hm
                      omega)
                    have hdM : decide (bv ≤ us) = false := decide_eq_false (by have := HMF.out; omega)
                    have hwM : wrap64 (bv - 1) = bv - 1 := wi (by have := HMF.out; have := HUL.out; omega) (by have := HMF.out; have := HUL.out; omega)
                    have hwI : wrap64 (i + 1) = i + 1 := wi (by omega) (by omega)
                    have HBM : Hid (asB rm = true → ∀ w, Calls Try.prog 13 #[inV mv 0, inV bv 0] w fun e w' => e = .returned (.bool false) ∧ Below w.heap.size w w') := Lib.hid (fun hm w => by
                      have h1 := before_any mv 0 bv 0 w
                      have h2 := HMF.out.2.2.2 hm
                      rw [decide_eq_false (show ¬ mv < bv by omega)] at h1
                      simpa using h1)
                    cases mb
                    all_goals
                      have hm := HMB.out
                      go_wp2_with (first
                        | (go_at_call 13; with_reducible refine (HBM.out hm _).mono ?_; rintro e w6 ⟨rfl, hb⟩; have HJ0 := Lib.hid (lj_on hb HJ.out); clear hb HJ m0 m1 m2 m3 u0 u1 u2 u3 a0 a1 a2 a3 c0 c1 c2 c3; have HJ := HJ0; clear HJ0; obtain ⟨b0, b1, b2, b3⟩ := lj_b HJ.out; obtain ⟨m0, m1, m2, m3⟩ := io_c b0; obtain ⟨u0, u1, u2, u3⟩ := io_c b1; obtain ⟨a0, a1, a2, a3⟩ := io_c b2; obtain ⟨c0, c1, c2, c3⟩ := io_c b3; clear b0 b1 b2 b3)
                        | (go_at_call 21; with_reducible refine (whole_any (bv - 1) _).mono ?_; rintro e w7 ⟨rfl, hb⟩; have HJ0 := Lib.hid (lj_on hb HJ.out); clear hb HJ m0 m1 m2 m3 u0 u1 u2 u3 a0 a1 a2 a3 c0 c1 c2 c3; have HJ := HJ0; clear HJ0; obtain ⟨b0, b1, b2, b3⟩ := lj_b HJ.out; obtain ⟨m0, m1, m2, m3⟩ := io_c b0; obtain ⟨u0, u1, u2, u3⟩ := io_c b1; obtain ⟨a0, a1, a2, a3⟩ := io_c b2; obtain ⟨c0, c1, c2, c3⟩ := io_c b3; clear b0 b1 b2 b3))
                      all_goals
                        go_roundg (61 - (i + 1)).toNat
                        case measure => have h := HI.out; omega
                        case rel =>
                          have h := HI.out
                          have h2 := HMF.out
                          have h3 := HUL.out
                          exact ⟨i + 1, bv - 1, 0, by first | rfl | rw [hwI], Lib.hid ⟨by omega, by omega, rfl, by omega, by omega, by omega, by omega⟩, Lib.hid (fun z z0 z1 => HLE.out.step hra hrb (bv + 62135596800) (by omega) z z0 (by omega)), Lib.hid (lh_next HQM.out HQU.out HJ.out)⟩
                  · have HBF : Hid (∀ w, Calls Try.prog 13 #[inV av 0, inV bv 0] w fun e w' => e = .returned (.bool false) ∧ Below w.heap.size w w') := Lib.hid (fun w => by
                      have h1 := before_any av 0 bv 0 w
                      rw [decide_eq_false hl, decide_eq_false hab] at h1
                      simpa using h1)
                    go_upto_region 17 with (go_at_call 13; with_reducible refine (HBF.out _).mono ?_; rintro e w5 ⟨rfl, hb⟩; have HJ0 := Lib.hid (lj_on hb HJ.out); clear hb HJ m0 m1 m2 m3 u0 u1 u2 u3 a0 a1 a2 a3 c0 c1 c2 c3; have HJ := HJ0; clear HJ0; obtain ⟨b0, b1, b2, b3⟩ := lj_b HJ.out; obtain ⟨m0, m1, m2, m3⟩ := io_c b0; obtain ⟨u0, u1, u2, u3⟩ := io_c b1; obtain ⟨a0, a1, a2, a3⟩ := io_c b2; obtain ⟨c0, c1, c2, c3⟩ := io_c b3; clear b0 b1 b2 b3)
                    have HMF : Hid (us < av ∧ av ≤ us + 1 + 190000000 ∧ (av + 62135596800 ≤ ra ∨ av + 62135596800 ≤ rb) ∧ (asB rm = true → av ≤ mv)) := Lib.hid (by
                      have e1 := HEA.out
                      have e2 := HEB.out
                      have e3 := HEM.out
                      rw [asI_of hra] at e1
                      rw [asI_of hrb] at e2
                      obtain ⟨k1, k2, -, -⟩ := nx_some HRA.out hra
                      obtain ⟨l1, l2, -, -⟩ := nx_some HRB.out hrb
                      have s0 := HLE.out.s0
                      have s1 := HLE.out.le
                      have y1 := six_years2 (us + 62135596800 + 1) ra (by omega) k2
                      have y2 := six_years2 (us + 62135596800 + 1) rb (by omega) l2
                      refine ⟨by omega, by omega, by omega, fun hm => ?_⟩
                      rw [asI_of hm] at e3
                      have := HLE.out.max hra hrb hm
                      omega)
                    have hdM : decide (av ≤ us) = false := decide_eq_false (by have := HMF.out; omega)
                    have hwM : wrap64 (av - 1) = av - 1 := wi (by have := HMF.out; have := HUL.out; omega) (by have := HMF.out; have := HUL.out; omega)
                    have hwI : wrap64 (i + 1) = i + 1 := wi (by omega) (by omega)
                    have HBM : Hid (asB rm = true → ∀ w, Calls Try.prog 13 #[inV mv 0, inV av 0] w fun e w' => e = .returned (.bool false) ∧ Below w.heap.size w w') := Lib.hid (fun hm w => by
                      have h1 := before_any mv 0 av 0 w
                      have h2 := HMF.out.2.2.2 hm
                      rw [decide_eq_false (show ¬ mv < av by omega)] at h1
                      simpa using h1)
                    cases mb
                    all_goals
                      have hm := HMB.out
                      go_wp2_with (first
                        | (go_at_call 13; with_reducible refine (HBM.out hm _).mono ?_; rintro e w6 ⟨rfl, hb⟩; have HJ0 := Lib.hid (lj_on hb HJ.out); clear hb HJ m0 m1 m2 m3 u0 u1 u2 u3 a0 a1 a2 a3 c0 c1 c2 c3; have HJ := HJ0; clear HJ0; obtain ⟨b0, b1, b2, b3⟩ := lj_b HJ.out; obtain ⟨m0, m1, m2, m3⟩ := io_c b0; obtain ⟨u0, u1, u2, u3⟩ := io_c b1; obtain ⟨a0, a1, a2, a3⟩ := io_c b2; obtain ⟨c0, c1, c2, c3⟩ := io_c b3; clear b0 b1 b2 b3)
                        | (go_at_call 21; with_reducible refine (whole_any (av - 1) _).mono ?_; rintro e w7 ⟨rfl, hb⟩; have HJ0 := Lib.hid (lj_on hb HJ.out); clear hb HJ m0 m1 m2 m3 u0 u1 u2 u3 a0 a1 a2 a3 c0 c1 c2 c3; have HJ := HJ0; clear HJ0; obtain ⟨b0, b1, b2, b3⟩ := lj_b HJ.out; obtain ⟨m0, m1, m2, m3⟩ := io_c b0; obtain ⟨u0, u1, u2, u3⟩ := io_c b1; obtain ⟨a0, a1, a2, a3⟩ := io_c b2; obtain ⟨c0, c1, c2, c3⟩ := io_c b3; clear b0 b1 b2 b3))
                      all_goals
                        go_roundg (61 - (i + 1)).toNat
                        case measure => have h := HI.out; omega
                        case rel =>
                          have h := HI.out
                          have h2 := HMF.out
                          have h3 := HUL.out
                          exact ⟨i + 1, av - 1, 0, by first | rfl | rw [hwI], Lib.hid ⟨by omega, by omega, rfl, by omega, by omega, by omega, by omega⟩, Lib.hid (fun z z0 z1 => HLE.out.step hra hrb (av + 62135596800) (by omega) z z0 (by omega)), Lib.hid (lh_next HQM.out HQU.out HJ.out)⟩
      · have hd0 := decide_eq_false hlt
        have HE := Lib.hid (lh_bel HSU.out)
        clear hlt HSU
        go_wp2_with fail
        all_goals go_ret
        all_goals exact ⟨rfl, HE.out⟩
end Go.Proofs.Ytdgglkihiibmhaa
