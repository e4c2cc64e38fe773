/-
  laws.FnCronNextNarrower: it returns true.
-/
import Derived.Test.YtdgglkihiibmhaaNap
set_option linter.unusedVariables false
set_option linter.unusedSimpArgs false
namespace Go.Proofs.Ytdgglkihiibmhaa
open Go Go.RowKit Cal Go.Proofs.YtdgglkihiibmhaaW.PrintLast

set_option maxRecDepth 100000 in
set_option maxHeartbeats 8000000 in
theorem narrower_any (ev ev2 : Bool) (f h : Six) (d d2 s n : Int) (w : World) : Calls Try.prog 6 #[schV ev f d, schV ev2 h d2, inV s n] w fun e w' => e = .returned (.bool true) ∧ Below w.heap.size w w' := by
  have HS := Lib.hid (nr_start w ev ev2 f (less f h) h d d2 s n)
  have HC := Lib.hid (fun w => case_any ev f d s n w)
  go_enter Try.func6, Try.ntmps6
  go_upto_region 2 with fail
  have q0 : bits .and .u64 (f.se : Int) (h.se : Int) = ((less f h).se : Int) := bits_and_nat _ _ f.h0 h.h0
  have q1 : bits .and .u64 (f.mi : Int) (h.mi : Int) = ((less f h).mi : Int) := bits_and_nat _ _ f.h1 h.h1
  have q2 : bits .and .u64 (f.ho : Int) (h.ho : Int) = ((less f h).ho : Int) := bits_and_nat _ _ f.h2 h.h2
  have q3 : bits .and .u64 (f.dom : Int) (bits .or .u64 (h.dom : Int) 9223372036854775808) = ((less f h).dom : Int) := by
    rw [show (9223372036854775808 : Int) = ((2 ^ 63 : Nat) : Int) from rfl, bits_or64 _ _ h.h3 (by decide), bits_and_nat _ _ f.h3 (Nat.or_lt_two_pow h.h3 (by decide))]
    rfl
  have q4 : bits .and .u64 (f.mo : Int) (h.mo : Int) = ((less f h).mo : Int) := bits_and_nat _ _ f.h4 h.h4
  have q5 : bits .and .u64 (f.dow : Int) (bits .or .u64 (h.dow : Int) 9223372036854775808) = ((less f h).dow : Int) := by
    rw [show (9223372036854775808 : Int) = ((2 ^ 63 : Nat) : Int) from rfl, bits_or64 _ _ h.h5 (by decide), bits_and_nat _ _ f.h5 (Nat.or_lt_two_pow h.h5 (by decide))]
    rfl
  rw [q0, q1, q2, q3, q4, q5]
  clear q0 q1 q2 q3 q4 q5
  generalize (((w.alloc (schO ev f d)).alloc (schO ev2 h d2)).alloc (io s n)).alloc (schO false (less f h) 0) = W0 at *
  generalize hc : (!ev && goodB s n) = c at HC
  have HCC := Lib.hid hc
  clear hc
  have HLT0 := Lib.hid (nr_lt HS.out)
  obtain ⟨z0, z1, z2, z3, z4, z5, z6, z7, z8, z9, z10, z11, z12, z13, z14, z15, z16, z17, -⟩ := HS.out
  cases c
  · go_wp2_with (go_at_call 15; with_reducible refine (HC.out _).mono ?_; rintro e w1 ⟨rfl, hb⟩; have HB := Lib.hid (bl_on (nr_bel HS.out) hb); clear hb)
    go_ret
    exact ⟨rfl, HB.out⟩
  · go_upto_region 4 with (go_at_call 15; with_reducible refine (HC.out _).mono ?_; rintro e w1 ⟨rfl, hb⟩; have HS1 := Lib.hid (nr_on hb HS.out); clear hb HS z0 z1 z2 z3 z4 z5 z6 z7 z8 z9 z10 z11 z12 z13 z14 z15 z16 z17)
    have HCO := HCC.out
    rw [Bool.and_eq_true] at HCO
    have hev : ev = false := by have h := HCO.1; revert h; cases ev <;> simp
    have HGO := Lib.hid (goodB_of HCO.2)
    clear HCO
    subst hev
    have HN := Lib.hid (fun w => implNext_any f d s n w HGO.out.2.2.1 HGO.out.2.2.2 HGO.out.1 HGO.out.2.1)
    have HM := Lib.hid (fun w => implNext_any (less f h) 0 s n w HGO.out.2.2.1 HGO.out.2.2.2 HGO.out.1 HGO.out.2.1)
    go_cut [8, 9] from 12 (fun v8 v9 wc => ∃ (q : Nat) (r : Int), v8 = .pointer (some ⟨q, 0, none⟩) ∧ v9 = .bool (asB r) ∧ Hid (Nx1 f s r) ∧ Hid (Ns w false f (less f h) d s n q (asI r) wc))
    case first =>
      have hH0 : Nr w false f (less f h) d s n w1.drew := nr_on (bl_drew (Below.refl _ _)) HS1.out
      have HLT := Lib.hid (nr_lt HS1.out)
      go_region_held3 (fun W => Nr w false f (less f h) d s n W) (first | assumption | exact hH0 | exact nr_on hb1 (by assumption) | exact nr_on hb2 (by assumption) | exact nr_on (bl_alloc (Below.refl _ _) _) (by assumption) | exact nr_on (bl_alloc (Below.refl _ _) _) (nr_on hb2 (nr_on hb1 hH0)) | exact nr_set (r := w1.heap.size) (by have h8 := HLT.out; omega) (by have h8 := HLT.out; omega) (by have h8 := HLT.out; omega) (by have h8 := HLT.out; omega) (by assumption) | exact nr_set (r := x1.heap.size) (by have h8 := HLT.out; have h21 := hb1.size; simp at h21; omega) (by have h8 := HLT.out; have h21 := hb1.size; simp at h21; omega) (by have h8 := HLT.out; have h21 := hb1.size; simp at h21; omega) (by have h8 := HLT.out; have h21 := hb1.size; simp at h21; omega) (by assumption) | exact nr_set (r := x2.heap.size) (by have h8 := HLT.out; have h21 := hb1.size; simp at h21; have h22 := hb2.size; simp at h22; omega) (by have h8 := HLT.out; have h21 := hb1.size; simp at h21; have h22 := hb2.size; simp at h22; omega) (by have h8 := HLT.out; have h21 := hb1.size; simp at h21; have h22 := hb2.size; simp at h22; omega) (by have h8 := HLT.out; have h21 := hb1.size; simp at h21; have h22 := hb2.size; simp at h22; omega) (by assumption) | fail) (first
        | (go_at_call 11; with_reducible refine (cronUTC_any _).mono ?_; rintro e x1 ⟨rfl, hb1⟩; first | (have HK0 := blk_on hb1 HK; clear HK r0 r1 f0 f1; have HK := HK0; clear HK0; obtain ⟨r0, r1, f0, f1⟩ := res2 HK) | (have HK := blk_on hb1 (heap_new0 _ w1.heap.size (.cells #[.int .i64 0, .int .i64 0] 23) (by first | rfl | simp)); obtain ⟨r0, r1, f0, f1⟩ := res2 HK) | skip)
        | (go_at_call 10; with_reducible refine (HN.out _).mono ?_; rintro e x2 ⟨⟨r, rfl, hr⟩, hb2⟩; have HR := Lib.hid hr; clear hr; first | (have HK0 := blk_on hb2 HK; clear HK r0 r1 f0 f1; have HK := HK0; clear HK0; obtain ⟨r0, r1, f0, f1⟩ := res2 HK) | (have HK := blk_on hb2 (heap_new0 _ x1.heap.size (.cells #[.int .i64 0, .int .i64 0] 23) (by first | rfl | simp)); obtain ⟨r0, r1, f0, f1⟩ := res2 HK) | skip))
      all_goals
        rename_i hH
        go_wp2_with fail
        go_meet
        case rel =>
          first
            | exact ⟨_, _, rfl, rfl, HR, Lib.hid (ns_mk hH (set2_get r0 r1).1 (set2_get r0 r1).2)⟩
            | exact ⟨_, _, rfl, rfl, HR, Lib.hid (ns_mk hH (res2 (heap_new0 _ _ (.cells #[.int .i64 _, .int .i64 0] 23) rfl)).1 (res2 (heap_new0 _ _ (.cells #[.int .i64 _, .int .i64 0] 23) rfl)).2.1)⟩
    case rest =>
      obtain ⟨q, ra, rfl, rfl, HA, HSN⟩ := hcut
      clear HS1
      go_upto_region 5 with fail
      go_cut [10, 11] from 12 (fun v10 v11 wc => ∃ (q2 : Nat) (r : Int), v10 = .pointer (some ⟨q2, 0, none⟩) ∧ v11 = .bool (asB r) ∧ Hid (Nx1 (less f h) s r) ∧ Hid (Nt w false f (less f h) d s n q (asI ra) q2 (asI r) wc))
      case first =>
        have hH0 : Ns w false f (less f h) d s n q (asI ra) wc.drew := ns_on (bl_drew (Below.refl _ _)) HSN.out
        have HLT := Lib.hid (ns_lt HSN.out)
        go_region_held3 (fun W => Ns w false f (less f h) d s n q (asI ra) W) (first | assumption | exact hH0 | exact ns_on hb1 (by assumption) | exact ns_on hb2 (by assumption) | exact ns_on (bl_alloc (Below.refl _ _) _) (by assumption) | exact ns_on (bl_alloc (Below.refl _ _) _) (ns_on hb2 (ns_on hb1 hH0)) | exact ns_set (r := wc.heap.size) (by have h8 := HLT.out; omega) (by have h8 := HLT.out; omega) (by have h8 := HLT.out; omega) (by have h8 := HLT.out; omega) (by have h8 := HLT.out; omega) (by assumption) | exact ns_set (r := x1.heap.size) (by have h8 := HLT.out; have h21 := hb1.size; simp at h21; omega) (by have h8 := HLT.out; have h21 := hb1.size; simp at h21; omega) (by have h8 := HLT.out; have h21 := hb1.size; simp at h21; omega) (by have h8 := HLT.out; have h21 := hb1.size; simp at h21; omega) (by have h8 := HLT.out; have h21 := hb1.size; simp at h21; omega) (by assumption) | exact ns_set (r := x2.heap.size) (by have h8 := HLT.out; have h21 := hb1.size; simp at h21; have h22 := hb2.size; simp at h22; omega) (by have h8 := HLT.out; have h21 := hb1.size; simp at h21; have h22 := hb2.size; simp at h22; omega) (by have h8 := HLT.out; have h21 := hb1.size; simp at h21; have h22 := hb2.size; simp at h22; omega) (by have h8 := HLT.out; have h21 := hb1.size; simp at h21; have h22 := hb2.size; simp at h22; omega) (by have h8 := HLT.out; have h21 := hb1.size; simp at h21; have h22 := hb2.size; simp at h22; omega) (by assumption) | fail) (first
          | (go_at_call 11; with_reducible refine (cronUTC_any _).mono ?_; rintro e x1 ⟨rfl, hb1⟩; first | (have HK0 := blk_on hb1 HK; clear HK r0 r1 f0 f1; have HK := HK0; clear HK0; obtain ⟨r0, r1, f0, f1⟩ := res2 HK) | (have HK := blk_on hb1 (heap_new0 _ wc.heap.size (.cells #[.int .i64 0, .int .i64 0] 23) (by first | rfl | simp)); obtain ⟨r0, r1, f0, f1⟩ := res2 HK) | skip)
          | (go_at_call 10; with_reducible refine (HM.out _).mono ?_; rintro e x2 ⟨⟨r, rfl, hr⟩, hb2⟩; have HR := Lib.hid hr; clear hr; first | (have HK0 := blk_on hb2 HK; clear HK r0 r1 f0 f1; have HK := HK0; clear HK0; obtain ⟨r0, r1, f0, f1⟩ := res2 HK) | (have HK := blk_on hb2 (heap_new0 _ x1.heap.size (.cells #[.int .i64 0, .int .i64 0] 23) (by first | rfl | simp)); obtain ⟨r0, r1, f0, f1⟩ := res2 HK) | skip))
        all_goals
          rename_i hH
          go_wp2_with fail
          go_meet
          case rel =>
            first
              | exact ⟨_, _, rfl, rfl, HR, Lib.hid (nt_mk hH (set2_get r0 r1).1 (set2_get r0 r1).2)⟩
              | exact ⟨_, _, rfl, rfl, HR, Lib.hid (nt_mk hH (res2 (heap_new0 _ _ (.cells #[.int .i64 _, .int .i64 0] 23) rfl)).1 (res2 (heap_new0 _ _ (.cells #[.int .i64 _, .int .i64 0] 23) rfl)).2.1)⟩
      case rest =>
        obtain ⟨q2, rb, rfl, rfl, HBB, HTN⟩ := hcut
        clear HSN
        cases hrb : asB rb
        · have HN0 := Lib.hid (nx_none HBB.out HGO.out.1 hrb)
          have HNO := Lib.hid (fun w => none_any (less f h) 0 s (s + 62135596800 + 1) n w rfl (by have := HGO.out; omega) (by have := HGO.out; omega) HN0.out)
          clear hrb HN HM
          go_upto_region 7 with fail
          have hT0 : Nt w false f (less f h) d s n q (asI ra) q2 (asI rb) wc.drew := nt_on (bl_drew (Below.refl _ _)) HTN.out
          go_region_held3 (fun W => Nt w false f (less f h) d s n q (asI ra) q2 (asI rb) W) (first | assumption | exact hT0 | exact nt_on hb1 (by assumption) | exact nt_on hb2 (by assumption) | fail) (first
            | (go_at_call 11; with_reducible refine (cronUTC_any _).mono ?_; rintro e x1 ⟨rfl, hb1⟩)
            | (go_at_call 16; with_reducible refine (HNO.out _).mono ?_; rintro e x2 ⟨rfl, hb2⟩))
          all_goals
            rename_i hH
            have HE := Lib.hid (nt_bel hH)
            clear hH
            go_wp2_with fail
            go_ret
            exact ⟨rfl, HE.out⟩
        · obtain ⟨m1, m2, m3, m4⟩ := nx_some HBB.out hrb
          have hra : asB ra = true := by
            cases hra : asB ra
            · have := fits_less m3
              rw [nx_none HA.out HGO.out.1 hra rb m1 m2] at this
              exact absurd this (by decide)
            · rfl
          obtain ⟨k1, k2, k3, k4⟩ := nx_some HA.out hra
          have hle : ra ≤ rb := by
            by_cases c : ra ≤ rb
            · exact c
            · have := fits_less m3
              rw [k4 rb m1 (by omega)] at this
              exact absurd this (by decide)
          have HBE : Hid (∀ w, Calls Try.prog 13 #[inV (asI rb) 0, inV (asI ra) 0] w fun e w' => e = .returned (.bool false) ∧ Below w.heap.size w w') := Lib.hid (fun w => by
            have h1 := before_any (asI rb) 0 (asI ra) 0 w
            rw [asI_of hra, asI_of hrb] at *
            rw [decide_eq_false (show ¬ rb - 62135596800 < ra - 62135596800 by omega)] at h1
            simpa using h1)
          clear m1 m2 m3 m4 k1 k2 k3 k4 hle HN HM
          have HTB := Lib.hid (nt_bel HTN.out)
          obtain ⟨z0, z1, z2, z3, z4, z5, z6, z7, z8, z9, z10, z11, z12, z13, z14, z15, z16, z17, z18, z19, z20, z21, -⟩ := HTN.out
          go_wp2_with (go_at_call 13; with_reducible refine (HBE.out _).mono ?_; rintro e x9 ⟨rfl, hb⟩; have HE := Lib.hid (bl_on HTB.out hb); clear hb)
          all_goals go_ret
          all_goals exact ⟨rfl, HE.out⟩
end Go.Proofs.Ytdgglkihiibmhaa
