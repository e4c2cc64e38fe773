/-
  "@every " and a duration, read by the standard parser: what ParseStandard gives.
-/
import Derived.Test.YtlbcgknjliihjaaDoorDes
set_option linter.unusedVariables false
set_option linter.unusedSimpArgs false
namespace Go.Proofs.YtlbcgknjliihjaaDoor
open Go Go.RowKit Go.Proofs.YtlbcgknjliihjaaDoorW.PrintWords Go.Proofs.YtlbcgknjliihjaaDoorW.PrintLast Go.Proofs.YtlbcgknjliihjaaDoor.QK
theorem sz_every (s s1 : ByteArray) (hL : L s = everyL ++ L s1) : s.size = 7 + s1.size := by
  have h := congrArg List.length hL
  rw [L_len, List.length_append, L_len] at h
  exact h
theorem pre_no (s s1 : ByteArray) (hL : L s = everyL ++ L s1) (l : List UInt8) (hl : l.headD 64 ≠ 64) : strings_HasPrefix.f s (mkB l) = some false := by
  have hz := sz_every s s1 hL
  unfold strings_HasPrefix.f stringslite_HasPrefix.f
  have hm : (mkB l).size = l.length := mk_size l
  by_cases hs : (s.size : Int) ≥ ((mkB l).size : Int)
  · rw [if_pos hs, if_pos (by omega), if_pos (by omega)]
    have : ((s.extract 0 (((mkB l).size : Int)).toNat).toList == (mkB l).toList) = false := by
      refine beq_eq_false_iff_ne.2 (fun h => hl ?_)
      rw [ext_mk, hL, toList_L, L_mk, toList_L, L_mk] at h
      match l, h, hm with
      | [], _, _ => rfl
      | x :: t, h, hm =>
        have hn : (((mkB (x :: t)).size : Int)).toNat = t.length + 1 := by rw [hm]; rfl
        rw [hn] at h
        injection h with h1 h2
        exact h1.symm
    simp only [Option.bind_some]
    rw [this]
  · rw [if_neg hs]
    rfl
theorem pre_at (s s1 : ByteArray) (hL : L s = everyL ++ L s1) : strings_HasPrefix.f s ⟨#[64]⟩ = some true := by
  have hz := sz_every s s1 hL
  unfold strings_HasPrefix.f stringslite_HasPrefix.f
  rw [show ((⟨#[64]⟩ : ByteArray).size : Int) = 1 from rfl, if_pos (by omega), if_pos (by omega), if_pos (by omega), show ((1 : Int)).toNat = 1 from rfl]
  rw [ext_mk, hL, toList_L, L_mk, toList_L]
  rfl
set_option maxHeartbeats 8000000 in
set_option maxRecDepth 100000 in
theorem newP30 (w : World) : Calls Tryd.prog 30 #[.int .i64 380] w fun e w' => e = .returned (.agg #[.int .i64 380]) ∧ Below w.heap.size w w' := by
  go_enter Tryd.func30, Tryd.ntmps30
  go_wp2
  refine bodyPost_ret (v := .agg #[.int .i64 380]) (by simp [results, Tryd.results30, go_sem]) rfl ⟨rfl, bl_alloc (Below.refl _ _) _⟩
set_option maxHeartbeats 8000000 in
set_option maxRecDepth 100000 in
theorem stdP16 (w : World) : Calls Tryd.prog 16 #[] w fun e w' => e = .returned (.agg #[.int .i64 380]) ∧ Below w.heap.size w w' := by
  go_enter Tryd.func16, Tryd.ntmps16
  go_wp2_with (go_at_call 30; (with_reducible refine (newP30 _).mono ?_); rintro e w2 ⟨rfl, hb⟩; have HR := Aside0.mk (heap_on hb (heap_new0 w w.heap.size (.cells #[.int .i64 0] 54) rfl)); have HB := Aside0.mk (bl_on (bl_alloc (Below.refl _ _) _) hb); have z0 := cellsOf HR.out 0; have f0 := frozenOf HR.out 0; clear hb)
  refine bodyPost_ret (v := .agg #[.int .i64 380]) (by simp [results, Tryd.results16, go_sem, z0, f0]) rfl ⟨rfl, bl_set HB.out (Nat.le_refl _) _⟩
set_option maxHeartbeats 8000000 in
set_option maxRecDepth 100000 in
theorem parse17 (s s1 : ByteArray) (D : Int) (hL : L s = everyL ++ L s1) (h0 : -9223372036854775808 ≤ D) (h1 : D ≤ 9223372036854775807) (hp : ∀ w, Calls Tryd.prog 27 #[.string s1] w fun e w' => e = .returned (.tuple #[.int .i64 D, .nilIface]) ∧ Below w.heap.size w w') (w : World) :
    Calls Tryd.prog 17 #[.agg #[.int .i64 380], .string s] w fun e w' => e = .returned (.tuple #[.iface 50 (.agg #[.int .i64 (delayV D)]), .nilIface]) ∧ Below w.heap.size w w' := by
  have HA := Aside0.mk (pre_no s s1 hL [84, 90, 61] (by decide))
  have HB := Aside0.mk (pre_no s s1 hL [67, 82, 79, 78, 95, 84, 90, 61] (by decide))
  have HC := Aside0.mk (pre_at s s1 hL)
  have hz := sz_every s s1 hL
  have e0 : ((s.size : Int) == 0) = false := by rw [beq_eq_false_iff_ne]; omega
  have HD := Aside0.mk (desc15 s s1 D hL h0 h1 hp)
  clear hL h0 h1 hp hz
  go_enter Tryd.func17, Tryd.ntmps17
  go_wp2_with (first
    | (go_at_call 26; (with_reducible refine (strings_HasPrefix.calls s _ false _ HA.out).mono ?_); rintro e wA ⟨rfl, hd⟩; have HWA := Aside0.mk hd.below; have HRA := Aside0.mk (heap_on hd.below (heap_new0 w w.heap.size (.cells #[.int .i64 380] 54) rfl)); clear hd)
    | (go_at_call 26; (with_reducible refine (strings_HasPrefix.calls s _ false _ HB.out).mono ?_); rintro e wB ⟨rfl, hd⟩; have HWB := Aside0.mk (bl_on (bl_on (bl_alloc (Below.refl _ _) _) HWA.out) hd.below); have HRB := Aside0.mk (heap_on hd.below HRA.out); clear hd)
    | (go_at_call 26; (with_reducible refine (strings_HasPrefix.calls s _ true _ HC.out).mono ?_); rintro e wC ⟨rfl, hd⟩; have HWC := Aside0.mk (bl_on HWB.out hd.below); have z0 := cellsOf (heap_on hd.below HRB.out) 0; clear hd)
    | (go_at_call 15; (with_reducible refine (HD.out _).mono ?_); rintro e wD ⟨rfl, hb⟩; have HWD := Aside0.mk (bl_on HWC.out hb); clear hb)
    | go_in)
  go_ret2
  exact ⟨rfl, HWD.out⟩
set_option maxHeartbeats 8000000 in
set_option maxRecDepth 100000 in
theorem std13 (s s1 : ByteArray) (D : Int) (hL : L s = everyL ++ L s1) (h0 : -9223372036854775808 ≤ D) (h1 : D ≤ 9223372036854775807) (hp : ∀ w, Calls Tryd.prog 27 #[.string s1] w fun e w' => e = .returned (.tuple #[.int .i64 D, .nilIface]) ∧ Below w.heap.size w w') (w : World) :
    Calls Tryd.prog 13 #[.string s] w fun e w' => e = .returned (.tuple #[.iface 50 (.agg #[.int .i64 (delayV D)]), .nilIface]) ∧ Below w.heap.size w w' := by
  have HD := Aside0.mk (parse17 s s1 D hL h0 h1 hp)
  clear hL h0 h1 hp
  go_enter Tryd.func13, Tryd.ntmps13
  go_wp2_with (first
    | (go_at_call 16; (with_reducible refine (stdP16 _).mono ?_); rintro e wA ⟨rfl, hb⟩; have HWA := Aside0.mk hb; clear hb)
    | (go_at_call 17; (with_reducible refine (HD.out _).mono ?_); rintro e wB ⟨rfl, hb⟩; have HWB := Aside0.mk (bl_on HWA.out hb); clear hb)
    | go_in)
  go_ret2
  exact ⟨rfl, HWB.out⟩
set_option maxHeartbeats 8000000 in
set_option maxRecDepth 100000 in
theorem std8 (s s1 : ByteArray) (D : Int) (hL : L s = everyL ++ L s1) (h0 : -9223372036854775808 ≤ D) (h1 : D ≤ 9223372036854775807) (hp : ∀ w, Calls Tryd.prog 27 #[.string s1] w fun e w' => e = .returned (.tuple #[.int .i64 D, .nilIface]) ∧ Below w.heap.size w w') (w : World) :
    Calls Tryd.prog 8 #[.string s] w fun e w' => e = .returned (.tuple #[.agg #[.bool true, .int .i64 (delayV D), .int .u64 0, .int .u64 0, .int .u64 0, .int .u64 0, .int .u64 0, .int .u64 0], .bool true]) ∧ Below w.heap.size w w' := by
  have HF := Aside0.mk (fz_start w)
  have H := Aside0.mk (std13 s s1 D hL h0 h1 hp)
  clear hL h0 h1 hp
  go_enter Tryd.func8, Tryd.ntmps8
  go_wp2_with (first
    | (go_at_call 13; (with_reducible refine (H.out _).mono ?_); rintro e w2 ⟨rfl, hb⟩; have HF2 := Aside0.mk (fz_on HF.out hb); clear hb)
    | (go_at_call 11; (with_reducible refine (plain11 (delayV D) _).mono ?_); rintro e w3 ⟨rfl, hb⟩; have HF3 := Aside0.mk (fz_on HF2.out hb); obtain ⟨z0, z1, z2, z3, z4, z5, z6, z7, f0, f1, f2, f3, f4, f5, f6, f7⟩ := fz_facts HF3.out; clear hb)
    | go_in)
  refine bodyPost_ret (v := .tuple #[.agg #[.bool true, .int .i64 (delayV D), .int .u64 0, .int .u64 0, .int .u64 0, .int .u64 0, .int .u64 0, .int .u64 0], .bool true]) (by simp [results, Tryd.results8, go_sem, z0, z1, z2, z3, z4, z5, z6, z7, f0, f1, f2, f3, f4, f5, f6, f7]) rfl ⟨rfl, fz_set HF3.out _ _ _ _ _ _ _ _⟩
set_option maxHeartbeats 8000000 in
set_option maxRecDepth 100000 in
theorem delay9 (D : Int) (h0 : -9223372036854775808 ≤ D) (h1 : D ≤ 9223372036854775807) (w : World) : Calls Tryd.prog 9 #[.int .i64 D] w fun e w' => e = .returned (.int .i64 (delayV D)) ∧ Below w.heap.size w w' := by
  go_enter Tryd.func9, Tryd.ntmps9
  cases c : decide (D < 1000000000)
  case' true =>
    have hD : delayV D = 1000000000 := by unfold delayV; rw [if_pos (of_decide_eq_true c)]
    rw [hD]
    clear hD
    go_wp2
    go_ret
    exact ⟨rfl, Below.refl _ _⟩
  have hD : delayV D = wrap64 (wrap64 (Int.tdiv D 1000000000) * 1000000000) := by
    have c1 := of_decide_eq_false c
    unfold delayV
    rw [if_neg c1]
    have h2 := Int.tmod_nonneg 1000000000 (show 0 ≤ D by omega)
    have h3 := Int.tmod_lt_of_pos D (show (0 : Int) < 1000000000 by omega)
    have h4 := Int.mul_tdiv_add_tmod D 1000000000
    simp only [wrap64]
    omega
  rw [hD]
  clear hD h0 h1
  go_wp2
  go_ret
  trace_state
  exact ⟨rfl, Below.refl _ _⟩
def durD (n0 n1 n2 n3 n4 n5 : Int) : Int := n0 * 3600000000000 + n1 * 60000000000 + n2 * 1000000000 + n3 * 1000000 + n4 * 1000 + n5
set_option maxHeartbeats 8000000 in
set_option maxRecDepth 100000 in
theorem durOf7 (n0 n1 n2 n3 n4 n5 : Int) (h0 : 0 ≤ n0 ∧ n0 ≤ 524288) (h1 : 0 ≤ n1 ∧ n1 ≤ 16777216) (h2 : 0 ≤ n2 ∧ n2 ≤ 1073741824) (h3 : 0 ≤ n3 ∧ n3 ≤ 1099511627776) (h4 : 0 ≤ n4 ∧ n4 ≤ 562949953421312) (h5 : 0 ≤ n5 ∧ n5 ≤ 562949953421312) (w : World) :
    Calls Tryd.prog 7 #[.agg #[.int .i64 n0, .int .i64 n1, .int .i64 n2, .int .i64 n3, .int .i64 n4, .int .i64 n5]] w fun e w' => e = .returned (.int .i64 (durD n0 n1 n2 n3 n4 n5)) ∧ Below w.heap.size w w' := by
  have hD : durD n0 n1 n2 n3 n4 n5 = wrap64 (wrap64 (wrap64 (wrap64 (wrap64 (wrap64 (n0 * 3600000000000) + wrap64 (n1 * 60000000000)) + wrap64 (n2 * 1000000000)) + wrap64 (n3 * 1000000)) + wrap64 (n4 * 1000)) + n5) := by
    unfold durD
    simp only [wrap64]
    omega
  rw [hD]
  clear hD h0 h1 h2 h3 h4 h5
  go_enter Tryd.func7, Tryd.ntmps7
  go_wp2
  go_ret
  trace_state
  exact ⟨rfl, bl_alloc (Below.refl _ _) _⟩
end Go.Proofs.YtlbcgknjliihjaaDoor
