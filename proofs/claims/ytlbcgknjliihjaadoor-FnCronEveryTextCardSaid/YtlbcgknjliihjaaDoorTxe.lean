/-
  EveryText: the law's own walk.
-/
import Derived.Test.YtlbcgknjliihjaaDoorEve
import Derived.Test.YtlbcgknjliihjaaDoorJoi
import Derived.Laws.StructEq
set_option linter.unusedVariables false
set_option linter.unusedSimpArgs false
namespace Go.Proofs.YtlbcgknjliihjaaDoor
open Go Go.RowKit Go.Proofs.YtlbcgknjliihjaaDoorW.PrintWords Go.Proofs.YtlbcgknjliihjaaDoorW.PrintLast
def condX (n0 n1 n2 n3 n4 n5 x : Int) : Prop := (1 ≤ x → 0 ≤ n0 ∧ n0 ≤ 524288) ∧ (2 ≤ x → 0 ≤ n1 ∧ n1 ≤ 16777216) ∧ (3 ≤ x → 0 ≤ n2 ∧ n2 ≤ 1073741824) ∧ (4 ≤ x → 0 ≤ n3 ∧ n3 ≤ 1099511627776) ∧ (5 ≤ x → 0 ≤ n4 ∧ n4 ≤ 562949953421312) ∧ (6 ≤ x → 0 ≤ n5 ∧ n5 ≤ 562949953421312)
theorem condS_0 {n0 n1 n2 n3 n4 n5 : Int} (h : condX n0 n1 n2 n3 n4 n5 0) (h0 : 0 ≤ n0) (h1 : n0 ≤ 524288) : condX n0 n1 n2 n3 n4 n5 1 := by
  unfold condX at h ⊢
  omega
theorem condS_1 {n0 n1 n2 n3 n4 n5 : Int} (h : condX n0 n1 n2 n3 n4 n5 1) (h0 : 0 ≤ n1) (h1 : n1 ≤ 16777216) : condX n0 n1 n2 n3 n4 n5 2 := by
  unfold condX at h ⊢
  omega
theorem condS_2 {n0 n1 n2 n3 n4 n5 : Int} (h : condX n0 n1 n2 n3 n4 n5 2) (h0 : 0 ≤ n2) (h1 : n2 ≤ 1073741824) : condX n0 n1 n2 n3 n4 n5 3 := by
  unfold condX at h ⊢
  omega
theorem condS_3 {n0 n1 n2 n3 n4 n5 : Int} (h : condX n0 n1 n2 n3 n4 n5 3) (h0 : 0 ≤ n3) (h1 : n3 ≤ 1099511627776) : condX n0 n1 n2 n3 n4 n5 4 := by
  unfold condX at h ⊢
  omega
theorem condS_4 {n0 n1 n2 n3 n4 n5 : Int} (h : condX n0 n1 n2 n3 n4 n5 4) (h0 : 0 ≤ n4) (h1 : n4 ≤ 562949953421312) : condX n0 n1 n2 n3 n4 n5 5 := by
  unfold condX at h ⊢
  omega
theorem condS_5 {n0 n1 n2 n3 n4 n5 : Int} (h : condX n0 n1 n2 n3 n4 n5 5) (h0 : 0 ≤ n5) (h1 : n5 ≤ 562949953421312) : condX n0 n1 n2 n3 n4 n5 6 := by
  unfold condX at h ⊢
  omega
/-- the numbers of one text -/
def nw (n0 n1 n2 n3 n4 n5 : Int) : Nat → Nat
  | 0 => n0.toNat | 1 => n1.toNat | 2 => n2.toNat | 3 => n3.toNat | 4 => n4.toNat | 5 => n5.toNat | _ => 0
theorem nw_le {n0 n1 n2 n3 n4 n5 : Int} (h : condX n0 n1 n2 n3 n4 n5 6) : ∀ i, nw n0 n1 n2 n3 n4 n5 i ≤ 1125899906842624 := fun i => by
  unfold condX at h
  match i with
  | 0 => show n0.toNat ≤ _; omega
  | 1 => show n1.toNat ≤ _; omega
  | 2 => show n2.toNat ≤ _; omega
  | 3 => show n3.toNat ≤ _; omega
  | 4 => show n4.toNat ≤ _; omega
  | 5 => show n5.toNat ≤ _; omega
  | _ + 6 => exact Nat.zero_le _
theorem text5w (n0 n1 n2 n3 n4 n5 : Int) (t : ByteArray) (ht : t = mkB (textL (items (nw n0 n1 n2 n3 n4 n5) 6))) (h : condX n0 n1 n2 n3 n4 n5 6) (w : World) (hG : GlobT w) :
    Calls Tryd.prog 5 #[.agg #[.int .i64 n0, .int .i64 n1, .int .i64 n2, .int .i64 n3, .int .i64 n4, .int .i64 n5]] w fun e w' => e = .returned (.string t) ∧ Below w.heap.size w w' := by
  have hn := nw_le h
  unfold condX at h
  have hc := text5 (nw n0 n1 n2 n3 n4 n5) (fun i => Nat.le_trans (hn i) (by decide)) w hG
  rw [show ((nw n0 n1 n2 n3 n4 n5 0 : Nat) : Int) = n0 from by show ((n0.toNat : Nat) : Int) = n0; omega, show ((nw n0 n1 n2 n3 n4 n5 1 : Nat) : Int) = n1 from by show ((n1.toNat : Nat) : Int) = n1; omega, show ((nw n0 n1 n2 n3 n4 n5 2 : Nat) : Int) = n2 from by show ((n2.toNat : Nat) : Int) = n2; omega, show ((nw n0 n1 n2 n3 n4 n5 3 : Nat) : Int) = n3 from by show ((n3.toNat : Nat) : Int) = n3; omega, show ((nw n0 n1 n2 n3 n4 n5 4 : Nat) : Int) = n4 from by show ((n4.toNat : Nat) : Int) = n4; omega, show ((nw n0 n1 n2 n3 n4 n5 5 : Nat) : Int) = n5 from by show ((n5.toNat : Nat) : Int) = n5; omega] at hc
  rw [ht]
  exact hc
theorem durOf7w (n0 n1 n2 n3 n4 n5 D : Int) (hD : D = durD n0 n1 n2 n3 n4 n5) (h : condX n0 n1 n2 n3 n4 n5 6) (w : World) :
    Calls Tryd.prog 7 #[.agg #[.int .i64 n0, .int .i64 n1, .int .i64 n2, .int .i64 n3, .int .i64 n4, .int .i64 n5]] w fun e w' => e = .returned (.int .i64 D) ∧ Below w.heap.size w w' := by
  unfold condX at h
  rw [hD]
  exact durOf7 n0 n1 n2 n3 n4 n5 (by omega) (by omega) (by omega) (by omega) (by omega) (by omega) w
theorem nw_dur {n0 n1 n2 n3 n4 n5 : Int} (h : condX n0 n1 n2 n3 n4 n5 6) : durN (items (nw n0 n1 n2 n3 n4 n5) 6) = durD n0 n1 n2 n3 n4 n5 := by
  unfold condX at h
  have h5 := items_durs (nw n0 n1 n2 n3 n4 n5) 5
  have h4 := items_durs (nw n0 n1 n2 n3 n4 n5) 4
  have h3 := items_durs (nw n0 n1 n2 n3 n4 n5) 3
  have h2 := items_durs (nw n0 n1 n2 n3 n4 n5) 2
  have h1 := items_durs (nw n0 n1 n2 n3 n4 n5) 1
  have h0 := items_durs (nw n0 n1 n2 n3 n4 n5) 0
  have e5 : ((nw n0 n1 n2 n3 n4 n5 5 : Nat) : Int) = n5 := by show ((n5.toNat : Nat) : Int) = n5; omega
  have e4 : ((nw n0 n1 n2 n3 n4 n5 4 : Nat) : Int) = n4 := by show ((n4.toNat : Nat) : Int) = n4; omega
  have e3 : ((nw n0 n1 n2 n3 n4 n5 3 : Nat) : Int) = n3 := by show ((n3.toNat : Nat) : Int) = n3; omega
  have e2 : ((nw n0 n1 n2 n3 n4 n5 2 : Nat) : Int) = n2 := by show ((n2.toNat : Nat) : Int) = n2; omega
  have e1 : ((nw n0 n1 n2 n3 n4 n5 1 : Nat) : Int) = n1 := by show ((n1.toNat : Nat) : Int) = n1; omega
  have e0 : ((nw n0 n1 n2 n3 n4 n5 0 : Nat) : Int) = n0 := by show ((n0.toNat : Nat) : Int) = n0; omega
  rw [e5] at h5; rw [e4] at h4; rw [e3] at h3; rw [e2] at h2; rw [e1] at h1; rw [e0] at h0
  have u5 : unitV 5 = 1 := rfl
  have u4 : unitV 4 = 1000 := rfl
  have u3 : unitV 3 = 1000000 := rfl
  have u2 : unitV 2 = 1000000000 := rfl
  have u1 : unitV 1 = 60000000000 := rfl
  have u0 : unitV 0 = 3600000000000 := rfl
  rw [u5] at h5; rw [u4] at h4; rw [u3] at h3; rw [u2] at h2; rw [u1] at h1; rw [u0] at h0
  have hz : durN (items (nw n0 n1 n2 n3 n4 n5) 0) = 0 := rfl
  rw [h5, h4, h3, h2, h1, h0, hz]
  unfold durD
  omega
/-- equality of schedules of a delay with themselves -/
theorem eq28 (d : Int) (w : World) : (Op.equalIn 10000 28 (.agg #[.bool true, .int .i64 d, .int .u64 0, .int .u64 0, .int .u64 0, .int .u64 0, .int .u64 0, .int .u64 0]) (.agg #[.bool true, .int .i64 d, .int .u64 0, .int .u64 0, .int .u64 0, .int .u64 0, .int .u64 0, .int .u64 0])).run Tryd.prog w = .ok true w := by
  rw [show (10000 : Nat) = 9999 + 1 from rfl]
  have hb : ((true == true) && ((d == d) && (((0 : Int) == 0) && (((0 : Int) == 0) && (((0 : Int) == 0) && (((0 : Int) == 0) && (((0 : Int) == 0) && ((0 : Int) == 0)))))))) = true := by simp
  have u (a b : Int) (w : World) : (Op.equalIn 9999 26 (.int .u64 a) (.int .u64 b)).run Tryd.prog w = .ok (a == b) w := by
    rw [show (9999 : Nat) = 9998 + 1 from rfl]
    exact run_equalIn_int w 9998 26 .u64 _ a b Tryd.underlying26
  have key : (Op.equalIn (9999 + 1) 28 (.agg #[.bool true, .int .i64 d, .int .u64 0, .int .u64 0, .int .u64 0, .int .u64 0, .int .u64 0, .int .u64 0]) (.agg #[.bool true, .int .i64 d, .int .u64 0, .int .u64 0, .int .u64 0, .int .u64 0, .int .u64 0, .int .u64 0])).run Tryd.prog w = .ok ((true == true) && ((d == d) && (((0 : Int) == 0) && (((0 : Int) == 0) && (((0 : Int) == 0) && (((0 : Int) == 0) && (((0 : Int) == 0) && ((0 : Int) == 0)))))))) w := by
    refine eqA_of Tryd.underlying28 (by kernel_rfl) ?_
    refine eqf_cons (by decide) (by kernel_rfl) (by kernel_rfl) (run_equalIn_bool' w 9998 4 true true Tryd.underlying4) ?_
    refine eqf_cons (by decide) (by kernel_rfl) (by kernel_rfl) (run_equalIn_int w 9998 2 .i64 _ d d Tryd.underlying2) ?_
    refine eqf_cons (by decide) (by kernel_rfl) (by kernel_rfl) (u 0 0 w) ?_
    refine eqf_cons (by decide) (by kernel_rfl) (by kernel_rfl) (u 0 0 w) ?_
    refine eqf_cons (by decide) (by kernel_rfl) (by kernel_rfl) (u 0 0 w) ?_
    refine eqf_cons (by decide) (by kernel_rfl) (by kernel_rfl) (u 0 0 w) ?_
    refine eqf_cons (by decide) (by kernel_rfl) (by kernel_rfl) (u 0 0 w) ?_
    exact eqf_last (by decide) (by kernel_rfl) (by kernel_rfl) (u 0 0 w)
  rw [key, hb]
theorem hp1x (f : Nat → Nat) (tX : ByteArray) (D : Int) (hl1 : L tX = textL (items f 6)) (hib : ∀ p ∈ items f 6, p.1 ≤ 1125899906842624) (hd1 : durN (items f 6) = D) (h9 : D ≤ 9000000000000000000) (hz : tX.size ≤ 138) : ∀ w, Calls Tryd.prog 27 #[.string tX] w fun e w' => e = .returned (.tuple #[.int .i64 D, .nilIface]) ∧ Below w.heap.size w w' := fun w => dur27_plain tX (items f 6) D hl1 (items_full _) hib hd1 h9 (by omega) w
theorem hp2x (f : Nat → Nat) (tX : ByteArray) (D : Int) (hl1 : L tX = 45 :: textL (items f 6)) (hib : ∀ p ∈ items f 6, p.1 ≤ 1125899906842624) (hd1 : durN (items f 6) = D) (h9 : D ≤ 9000000000000000000) (hz : tX.size ≤ 100000) : ∀ w, Calls Tryd.prog 27 #[.string tX] w fun e w' => e = .returned (.tuple #[.int .i64 (-D), .nilIface]) ∧ Below w.heap.size w w' := fun w => dur27_neg tX (items f 6) D hl1 (items_full _) hib hd1 h9 hz w
/-- what is read of the array -/
abbrev LW (w : World) (n0 n1 n2 n3 n4 n5 : Int) (W : World) : Prop := W.cell? ⟨w.heap.size, 0, none⟩ = some (.int .i64 n0) ∧ W.cell? ⟨w.heap.size, 1, none⟩ = some (.int .i64 n1) ∧ W.cell? ⟨w.heap.size, 2, none⟩ = some (.int .i64 n2) ∧ W.cell? ⟨w.heap.size, 3, none⟩ = some (.int .i64 n3) ∧ W.cell? ⟨w.heap.size, 4, none⟩ = some (.int .i64 n4) ∧ W.cell? ⟨w.heap.size, 5, none⟩ = some (.int .i64 n5) ∧ Hid (Below w.heap.size w W)
theorem lw_on {w : World} {n0 n1 n2 n3 n4 n5 : Int} {W W' : World} (hb : Below W.heap.size W W') (h : LW w n0 n1 n2 n3 n4 n5 W) : LW w n0 n1 n2 n3 n4 n5 W' :=
  ⟨cell_on hb h.1, cell_on hb h.2.1, cell_on hb h.2.2.1, cell_on hb h.2.2.2.1, cell_on hb h.2.2.2.2.1, cell_on hb h.2.2.2.2.2.1, Lib.hid (bl_on h.2.2.2.2.2.2.out hb)⟩
theorem lw_below {w : World} {n0 n1 n2 n3 n4 n5 : Int} {W : World} (h : LW w n0 n1 n2 n3 n4 n5 W) : Below w.heap.size w W := h.2.2.2.2.2.2.out
set_option maxHeartbeats 8000000 in
set_option maxRecDepth 100000 in
theorem text4 (n0 n1 n2 n3 n4 n5 : Int) (neg : Bool) (w : World) (hG : GlobT w) :
    Calls Tryd.prog 4 #[.agg #[.int .i64 n0, .int .i64 n1, .int .i64 n2, .int .i64 n3, .int .i64 n4, .int .i64 n5], .bool neg] w fun e w' => e = .returned (.bool true) ∧ Below w.heap.size w w' := by
  have HG := Aside0.mk hG
  clear hG
  go_enter Tryd.func4, Tryd.ntmps4
  go_wp2
  go_loopg [5, 6, 12] 6 (fun g v5 v6 v12 w' => ∃ (x : Int) (y5 y6 : Value), v5 = y5 ∧ v6 = y6 ∧ v12 = .int .i64 x ∧ Aside0 (0 ≤ x ∧ x ≤ 6 ∧ g + x = 6) ∧ Aside0 (condX n0 n1 n2 n3 n4 n5 x) ∧ Aside0 (w'.heap[w.heap.size]? = some (.cells #[.int .i64 n0, .int .i64 n1, .int .i64 n2, .int .i64 n3, .int .i64 n4, .int .i64 n5] 25 (0, 0))) ∧ Aside0 (Below w.heap.size w w'))
  case atStart => exact ⟨0, _, _, rfl, rfl, rfl, ⟨by omega, by omega, by omega⟩, ⟨by unfold condX; omega⟩, ⟨heap_new0 _ _ _ rfl⟩, ⟨bl_alloc (Below.refl _ _) _⟩⟩
  case round =>
    obtain ⟨x, y5, y6, rfl, rfl, rfl, HX, HC, HA, HW⟩ := hrel
    have hx2 : x = 0 ∨ x = 1 ∨ x = 2 ∨ x = 3 ∨ x = 4 ∨ x = 5 ∨ x = 6 := by have := HX.out; omega
    rcases hx2 with rfl | rfl | rfl | rfl | rfl | rfl | rfl
    · have hf : ∀ w : World, (Instr.index 25 (.agg #[.int .i64 524288, .int .i64 16777216, .int .i64 1073741824, .int .i64 1099511627776, .int .i64 562949953421312, .int .i64 562949953421312]) (.int .i64 0)).run Tryd.prog w = .ok (.int .i64 524288) w := fun _ => by kernel_rfl
      have z := cellsOf HA.out 0
      cases c0 : decide (n0 < 0)
      case' true =>
        go_wp2
        refine bodyPost_ret (v := .bool true) (by simp [results, Tryd.results4, go_sem]) rfl ⟨rfl, HW.out⟩
      cases c1 : decide (524288 < n0)
      case' true =>
        go_wp2
        refine bodyPost_ret (v := .bool true) (by simp [results, Tryd.results4, go_sem]) rfl ⟨rfl, HW.out⟩
      go_wp2
      go_roundg 5
      case measure => have h1 := HX.out; omega
      case rel =>
        refine ⟨1, _, _, rfl, rfl, rfl, ⟨by omega, by omega, by have h1 := HX.out; omega⟩, ⟨?_⟩, ⟨HA.out⟩, ⟨HW.out⟩⟩
        have h2 := HC.out
        have d0 := of_decide_eq_false c0
        have d1 := of_decide_eq_false c1
        exact condS_0 h2 (by omega) (by omega)
    · have hf : ∀ w : World, (Instr.index 25 (.agg #[.int .i64 524288, .int .i64 16777216, .int .i64 1073741824, .int .i64 1099511627776, .int .i64 562949953421312, .int .i64 562949953421312]) (.int .i64 1)).run Tryd.prog w = .ok (.int .i64 16777216) w := fun _ => by kernel_rfl
      have z := cellsOf HA.out 1
      cases c0 : decide (n1 < 0)
      case' true =>
        go_wp2
        refine bodyPost_ret (v := .bool true) (by simp [results, Tryd.results4, go_sem]) rfl ⟨rfl, HW.out⟩
      cases c1 : decide (16777216 < n1)
      case' true =>
        go_wp2
        refine bodyPost_ret (v := .bool true) (by simp [results, Tryd.results4, go_sem]) rfl ⟨rfl, HW.out⟩
      go_wp2
      go_roundg 4
      case measure => have h1 := HX.out; omega
      case rel =>
        refine ⟨2, _, _, rfl, rfl, rfl, ⟨by omega, by omega, by have h1 := HX.out; omega⟩, ⟨?_⟩, ⟨HA.out⟩, ⟨HW.out⟩⟩
        have h2 := HC.out
        have d0 := of_decide_eq_false c0
        have d1 := of_decide_eq_false c1
        exact condS_1 h2 (by omega) (by omega)
    · have hf : ∀ w : World, (Instr.index 25 (.agg #[.int .i64 524288, .int .i64 16777216, .int .i64 1073741824, .int .i64 1099511627776, .int .i64 562949953421312, .int .i64 562949953421312]) (.int .i64 2)).run Tryd.prog w = .ok (.int .i64 1073741824) w := fun _ => by kernel_rfl
      have z := cellsOf HA.out 2
      cases c0 : decide (n2 < 0)
      case' true =>
        go_wp2
        refine bodyPost_ret (v := .bool true) (by simp [results, Tryd.results4, go_sem]) rfl ⟨rfl, HW.out⟩
      cases c1 : decide (1073741824 < n2)
      case' true =>
        go_wp2
        refine bodyPost_ret (v := .bool true) (by simp [results, Tryd.results4, go_sem]) rfl ⟨rfl, HW.out⟩
      go_wp2
      go_roundg 3
      case measure => have h1 := HX.out; omega
      case rel =>
        refine ⟨3, _, _, rfl, rfl, rfl, ⟨by omega, by omega, by have h1 := HX.out; omega⟩, ⟨?_⟩, ⟨HA.out⟩, ⟨HW.out⟩⟩
        have h2 := HC.out
        have d0 := of_decide_eq_false c0
        have d1 := of_decide_eq_false c1
        exact condS_2 h2 (by omega) (by omega)
    · have hf : ∀ w : World, (Instr.index 25 (.agg #[.int .i64 524288, .int .i64 16777216, .int .i64 1073741824, .int .i64 1099511627776, .int .i64 562949953421312, .int .i64 562949953421312]) (.int .i64 3)).run Tryd.prog w = .ok (.int .i64 1099511627776) w := fun _ => by kernel_rfl
      have z := cellsOf HA.out 3
      cases c0 : decide (n3 < 0)
      case' true =>
        go_wp2
        refine bodyPost_ret (v := .bool true) (by simp [results, Tryd.results4, go_sem]) rfl ⟨rfl, HW.out⟩
      cases c1 : decide (1099511627776 < n3)
      case' true =>
        go_wp2
        refine bodyPost_ret (v := .bool true) (by simp [results, Tryd.results4, go_sem]) rfl ⟨rfl, HW.out⟩
      go_wp2
      go_roundg 2
      case measure => have h1 := HX.out; omega
      case rel =>
        refine ⟨4, _, _, rfl, rfl, rfl, ⟨by omega, by omega, by have h1 := HX.out; omega⟩, ⟨?_⟩, ⟨HA.out⟩, ⟨HW.out⟩⟩
        have h2 := HC.out
        have d0 := of_decide_eq_false c0
        have d1 := of_decide_eq_false c1
        exact condS_3 h2 (by omega) (by omega)
    · have hf : ∀ w : World, (Instr.index 25 (.agg #[.int .i64 524288, .int .i64 16777216, .int .i64 1073741824, .int .i64 1099511627776, .int .i64 562949953421312, .int .i64 562949953421312]) (.int .i64 4)).run Tryd.prog w = .ok (.int .i64 562949953421312) w := fun _ => by kernel_rfl
      have z := cellsOf HA.out 4
      cases c0 : decide (n4 < 0)
      case' true =>
        go_wp2
        refine bodyPost_ret (v := .bool true) (by simp [results, Tryd.results4, go_sem]) rfl ⟨rfl, HW.out⟩
      cases c1 : decide (562949953421312 < n4)
      case' true =>
        go_wp2
        refine bodyPost_ret (v := .bool true) (by simp [results, Tryd.results4, go_sem]) rfl ⟨rfl, HW.out⟩
      go_wp2
      go_roundg 1
      case measure => have h1 := HX.out; omega
      case rel =>
        refine ⟨5, _, _, rfl, rfl, rfl, ⟨by omega, by omega, by have h1 := HX.out; omega⟩, ⟨?_⟩, ⟨HA.out⟩, ⟨HW.out⟩⟩
        have h2 := HC.out
        have d0 := of_decide_eq_false c0
        have d1 := of_decide_eq_false c1
        exact condS_4 h2 (by omega) (by omega)
    · have hf : ∀ w : World, (Instr.index 25 (.agg #[.int .i64 524288, .int .i64 16777216, .int .i64 1073741824, .int .i64 1099511627776, .int .i64 562949953421312, .int .i64 562949953421312]) (.int .i64 5)).run Tryd.prog w = .ok (.int .i64 562949953421312) w := fun _ => by kernel_rfl
      have z := cellsOf HA.out 5
      cases c0 : decide (n5 < 0)
      case' true =>
        go_wp2
        refine bodyPost_ret (v := .bool true) (by simp [results, Tryd.results4, go_sem]) rfl ⟨rfl, HW.out⟩
      cases c1 : decide (562949953421312 < n5)
      case' true =>
        go_wp2
        refine bodyPost_ret (v := .bool true) (by simp [results, Tryd.results4, go_sem]) rfl ⟨rfl, HW.out⟩
      go_wp2
      go_roundg 0
      case measure => have h1 := HX.out; omega
      case rel =>
        refine ⟨6, _, _, rfl, rfl, rfl, ⟨by omega, by omega, by have h1 := HX.out; omega⟩, ⟨?_⟩, ⟨HA.out⟩, ⟨HW.out⟩⟩
        have h2 := HC.out
        have d0 := of_decide_eq_false c0
        have d1 := of_decide_eq_false c1
        exact condS_5 h2 (by omega) (by omega)
    · obtain ⟨D, HD⟩ : ∃ D, Aside0 (D = durD n0 n1 n2 n3 n4 n5) := ⟨_, ⟨rfl⟩⟩
      obtain ⟨tX, HT⟩ : ∃ t, Aside0 (t = mkB (textL (items (nw n0 n1 n2 n3 n4 n5) 6))) := ⟨_, ⟨rfl⟩⟩
      have HF : Aside0 (LW w n0 n1 n2 n3 n4 n5 wr) := ⟨cellsOf HA.out 0, cellsOf HA.out 1, cellsOf HA.out 2, cellsOf HA.out 3, cellsOf HA.out 4, cellsOf HA.out 5, Lib.hid HW.out⟩
      have hzx : tX.size ≤ 138 := by rw [HT.out, mk_size]; exact items_len _ (fun i => Nat.le_trans (nw_le HC.out i) (by decide)) 6
      have hdur := nw_dur HC.out
      have hD9 : 0 ≤ D ∧ D ≤ 9000000000000000000 := by
        have h := HC.out
        rw [HD.out]
        unfold condX at h
        unfold durD
        omega
      have hib := items_num _ _ (nw_le HC.out) 6
      have s1 : (9223372036854775807 < 1 + tX.size) = False := eq_false (by omega)
      have s2 : (9223372036854775807 < 7 + tX.size) = False := eq_false (by omega)
      have s3 : (9223372036854775807 < 7 + (1 + tX.size)) = False := eq_false (by omega)
      have s4 : (9223372036854775807 < 7 + (⟨#[45]⟩ ++ tX : ByteArray).size) = False := eq_false (by rw [ByteArray.size_append]; show ¬ _ < 7 + (1 + tX.size); omega)
      have hl1 : L tX = textL (items (nw n0 n1 n2 n3 n4 n5) 6) := by rw [HT.out, L_mk]
      have hl2 : L (⟨#[45]⟩ ++ tX) = 45 :: textL (items (nw n0 n1 n2 n3 n4 n5) 6) := by rw [L_app, hl1]; exact List.singleton_append
      have hl3 : L (⟨#[64, 101, 118, 101, 114, 121, 32]⟩ ++ tX) = everyL ++ L tX := L_app _ _
      have hl4 : L (⟨#[64, 101, 118, 101, 114, 121, 32]⟩ ++ (⟨#[45]⟩ ++ tX)) = everyL ++ L (⟨#[45]⟩ ++ tX) := L_app _ _
      have hd1 : durN (items (nw n0 n1 n2 n3 n4 n5) 6) = D := hdur.trans HD.out.symm
      have hz2 : (⟨#[45]⟩ ++ tX : ByteArray).size ≤ 100000 := by rw [ByteArray.size_append]; show 1 + tX.size ≤ _; omega
      have hp1 := hp1x _ tX D hl1 hib hd1 hD9.2 hzx
      have hp2 := hp2x _ _ D hl2 hib hd1 hD9.2 hz2
      have hwn : wrap64 (-D) = -D := by clear hl1 hl2 hl3 hl4; unfold wrap64; omega
      rw [← hwn] at hp2
      have b1 : -9223372036854775808 ≤ wrap64 (-D) := by rw [hwn]; omega
      have b2 : wrap64 (-D) ≤ 9223372036854775807 := by rw [hwn]; omega
      have b3 : -9223372036854775808 ≤ D := by omega
      have b4 : D ≤ 9223372036854775807 := by omega
      have HS1 := Aside0.mk (std8 (⟨#[64, 101, 118, 101, 114, 121, 32]⟩ ++ tX) tX D hl3 b3 b4 hp1)
      have HS2 := Aside0.mk (std8 (⟨#[64, 101, 118, 101, 114, 121, 32]⟩ ++ (⟨#[45]⟩ ++ tX)) (⟨#[45]⟩ ++ tX) (wrap64 (-D)) hl4 b1 b2 hp2)
      have hm : Tryd.prog.eqGuardType Tryd.prog.depth 28 = false := by kernel_rfl
      have HLO : Aside0 (-9223372036854775808 ≤ D) := ⟨b3⟩
      have HHI : Aside0 (D ≤ 9223372036854775807) := ⟨b4⟩
      have NLO : Aside0 (-9223372036854775808 ≤ wrap64 (-D)) := ⟨b1⟩
      have NHI : Aside0 (wrap64 (-D) ≤ 9223372036854775807) := ⟨b2⟩
      clear hzx hdur hD9 hib hwn hl1 hl2 hl3 hl4 hd1 hz2 hp1 hp2 b1 b2 b3 b4
      go_upto_region 7 with fail
      first | go_region_held3 (fun W => LW w n0 n1 n2 n3 n4 n5 W) (first | assumption | exact lw_on (bl_drew (Below.refl _ _)) HF.out | exact lw_on hb5 (by assumption) | fail) (first | (go_at_call 7; (with_reducible refine (durOf7w n0 n1 n2 n3 n4 n5 D HD.out HC.out _).mono ?_); rintro e w5 ⟨rfl, hb5⟩) | (go_at_call 5; (with_reducible refine (text5w n0 n1 n2 n3 n4 n5 tX HT.out HC.out _ (globT_below HG.out (lw_below (by assumption)))).mono ?_); rintro e w5 ⟨rfl, hb5⟩)) | fail
      rename_i hH
      have HL9 := Aside0.mk (lw_below hH)
      clear hH
      cases neg
      case' true =>
        have he := eq28 (delayV (wrap64 (-D)))
        go_upto_region 11 with (go_at_call 8; (with_reducible refine (HS2.out _).mono ?_); rintro e wR ⟨rfl, hb⟩; have HWR := Aside0.mk (bl_on HL9.out hb); clear hb)
        refine start_ (n := 9) (S := fun w' => w'.cell? ⟨wR.heap.size, 0, none⟩ = some (.bool true) ∧ w'.cell? ⟨wR.heap.size, 1, none⟩ = some (.int .i64 (delayV (wrap64 (-D)))) ∧ w'.cell? ⟨wR.heap.size, 2, none⟩ = some (.int .u64 0) ∧ w'.cell? ⟨wR.heap.size, 3, none⟩ = some (.int .u64 0) ∧ w'.cell? ⟨wR.heap.size, 4, none⟩ = some (.int .u64 0) ∧ w'.cell? ⟨wR.heap.size, 5, none⟩ = some (.int .u64 0) ∧ w'.cell? ⟨wR.heap.size, 6, none⟩ = some (.int .u64 0) ∧ w'.cell? ⟨wR.heap.size, 7, none⟩ = some (.int .u64 0) ∧ Hid (Below w.heap.size w w')) (ds := []) #[false, false, false, false, false, false, false, false, false] (by kernel_rfl) rfl rfl ⟨(cellsOf (heap_on (bl_drew (Below.refl _ _)) (heap_new0 wR wR.heap.size (.cells #[.bool true, .int .i64 (delayV (wrap64 (-D))), .int .u64 0, .int .u64 0, .int .u64 0, .int .u64 0, .int .u64 0, .int .u64 0] 28) rfl)) 0), (cellsOf (heap_on (bl_drew (Below.refl _ _)) (heap_new0 wR wR.heap.size (.cells #[.bool true, .int .i64 (delayV (wrap64 (-D))), .int .u64 0, .int .u64 0, .int .u64 0, .int .u64 0, .int .u64 0, .int .u64 0] 28) rfl)) 1), (cellsOf (heap_on (bl_drew (Below.refl _ _)) (heap_new0 wR wR.heap.size (.cells #[.bool true, .int .i64 (delayV (wrap64 (-D))), .int .u64 0, .int .u64 0, .int .u64 0, .int .u64 0, .int .u64 0, .int .u64 0] 28) rfl)) 2), (cellsOf (heap_on (bl_drew (Below.refl _ _)) (heap_new0 wR wR.heap.size (.cells #[.bool true, .int .i64 (delayV (wrap64 (-D))), .int .u64 0, .int .u64 0, .int .u64 0, .int .u64 0, .int .u64 0, .int .u64 0] 28) rfl)) 3), (cellsOf (heap_on (bl_drew (Below.refl _ _)) (heap_new0 wR wR.heap.size (.cells #[.bool true, .int .i64 (delayV (wrap64 (-D))), .int .u64 0, .int .u64 0, .int .u64 0, .int .u64 0, .int .u64 0, .int .u64 0] 28) rfl)) 4), (cellsOf (heap_on (bl_drew (Below.refl _ _)) (heap_new0 wR wR.heap.size (.cells #[.bool true, .int .i64 (delayV (wrap64 (-D))), .int .u64 0, .int .u64 0, .int .u64 0, .int .u64 0, .int .u64 0, .int .u64 0] 28) rfl)) 5), (cellsOf (heap_on (bl_drew (Below.refl _ _)) (heap_new0 wR wR.heap.size (.cells #[.bool true, .int .i64 (delayV (wrap64 (-D))), .int .u64 0, .int .u64 0, .int .u64 0, .int .u64 0, .int .u64 0, .int .u64 0] 28) rfl)) 6), (cellsOf (heap_on (bl_drew (Below.refl _ _)) (heap_new0 wR wR.heap.size (.cells #[.bool true, .int .i64 (delayV (wrap64 (-D))), .int .u64 0, .int .u64 0, .int .u64 0, .int .u64 0, .int .u64 0, .int .u64 0] 28) rfl)) 7), (Lib.hid (bl_drew (bl_alloc HWR.out _)))⟩ (fun hHeld => ?_)
        refine pure_ (i := 0) (N := some 43) (v := ?_) (a' := ?_) #[true, false, false, false, false, false, false, false, false] rfl rfl (by kernel_rfl) (fun _ _ _ h => h) (Or.inl ⟨by rfl, ?_⟩) ?_ ?_
        rotate_left
        · intro w'
          go_simp
          with_reducible rfl
        rotate_left
        · simp only [Act.put, List.setIfInBounds_toArray, List.set_cons_zero, List.set_cons_succ, i64_w, i32_w]
          rfl
        refine pure_ (i := 1) (N := some 44) (v := ?_) (a' := ?_) #[true, true, false, false, false, false, false, false, false] rfl rfl (by kernel_rfl) (fun _ _ _ h => h) (Or.inl ⟨by rfl, ?_⟩) ?_ ?_
        rotate_left
        · intro w'
          go_simp
          with_reducible rfl
        rotate_left
        · simp only [Act.put, List.setIfInBounds_toArray, List.set_cons_zero, List.set_cons_succ, i64_w, i32_w]
          rfl
        refine pure_ (i := 3) (N := some 46) (v := ?_) (a' := ?_) #[true, true, false, true, false, false, false, false, false] rfl rfl (by kernel_rfl) (fun _ _ _ h => h) (Or.inl ⟨by rfl, ?_⟩) ?_ ?_
        rotate_left
        · intro w'
          go_simp
          with_reducible rfl
        rotate_left
        · simp only [Act.put, List.setIfInBounds_toArray, List.set_cons_zero, List.set_cons_succ, i64_w, i32_w]
          rfl
        refine take_ (i := 2) (N := some 45) (v := ?_) (a' := ?_) #[true, true, true, true, false, false, false, false, false] rfl rfl (by kernel_rfl) (fun _ _ _ h => h) (Or.inl ⟨by rfl, ?_⟩) hHeld ?_ ?_
        rotate_left
        · rintro w' ⟨s0, s1, s2, s3, s4, s5, s6, s7, s8⟩
          go_simp
          with_reducible rfl
        rotate_left
        · simp only [Act.put, List.setIfInBounds_toArray, List.set_cons_zero, List.set_cons_succ, i64_w, i32_w]
          rfl
        refine one_ (i := 4) (N := some 47) #[true, true, true, true, true, false, false, false, false] rfl rfl (by kernel_rfl) (by decide) (fun K hK => ?_)
        refine goes_ Tryd.func9 (by kernel_rfl) rfl #[.int .i64 (wrap64 (-D))] (by rfl) rfl rfl (by simp only [List.map_toArray, List.map_cons, List.map_nil]; rfl) ?_
        with_reducible refine (delay9 (wrap64 (-D)) NLO.out NHI.out _).mono ?_
        rintro e w3 ⟨rfl, hb⟩
        refine ⟨_, rfl, ?_⟩
        refine hK.out _ _ ⟨(cell_on hb hHeld.1), (cell_on hb hHeld.2.1), (cell_on hb hHeld.2.2.1), (cell_on hb hHeld.2.2.2.1), (cell_on hb hHeld.2.2.2.2.1), (cell_on hb hHeld.2.2.2.2.2.1), (cell_on hb hHeld.2.2.2.2.2.2.1), (cell_on hb hHeld.2.2.2.2.2.2.2.1), (Lib.hid (bl_on hHeld.2.2.2.2.2.2.2.2.out hb))⟩ (fun hHeld => ?_)
        clear hK K
        refine norm_ (a' := ?_) ?_ ?_
        rotate_left
        · show Act.put _ (some 47) _ = _
          simp only [Act.put, List.setIfInBounds_toArray, List.set_cons_zero, List.set_cons_succ, i64_w, i32_w]
          rfl
        refine pure_ (i := 5) (N := some 48) (v := ?_) (a' := ?_) #[true, true, true, true, true, true, false, false, false] rfl rfl (by kernel_rfl) (fun _ _ _ h => h) (Or.inl ⟨by rfl, ?_⟩) ?_ ?_
        rotate_left
        · intro w'
          go_simp
          with_reducible rfl
        rotate_left
        · simp only [Act.put, List.setIfInBounds_toArray, List.set_cons_zero, List.set_cons_succ, i64_w, i32_w]
          rfl
        refine pure_ (i := 6) (N := some 49) (v := ?_) (a' := ?_) #[true, true, true, true, true, true, true, false, false] rfl rfl (by kernel_rfl) (fun _ _ _ h => h) (Or.inl ⟨by rfl, ?_⟩) ?_ ?_
        rotate_left
        · intro w'
          go_simp
          with_reducible rfl
        rotate_left
        · simp only [Act.put, List.setIfInBounds_toArray, List.set_cons_zero, List.set_cons_succ, i64_w, i32_w]
          rfl
        refine pure_ (i := 7) (N := some 50) (v := ?_) (a' := ?_) #[true, true, true, true, true, true, true, true, false] rfl rfl (by kernel_rfl) (fun _ _ _ h => h) (Or.inl ⟨by rfl, ?_⟩) ?_ ?_
        rotate_left
        · intro w'
          go_simp
          with_reducible rfl
        rotate_left
        · simp only [Act.put, List.setIfInBounds_toArray, List.set_cons_zero, List.set_cons_succ, i64_w, i32_w]
          rfl
        refine pure_ (i := 8) (N := some 4) (v := ?_) (a' := ?_) #[true, true, true, true, true, true, true, true, true] rfl rfl (by kernel_rfl) (fun _ _ _ h => h) (Or.inl ⟨by rfl, ?_⟩) ?_ ?_
        rotate_left
        · intro w'
          go_simp
          with_reducible rfl
        rotate_left
        · simp only [Act.put, List.setIfInBounds_toArray, List.set_cons_zero, List.set_cons_succ, i64_w, i32_w]
          rfl
        refine done_ (by kernel_rfl) ?_
        go_wp2
        go_ret
        exact ⟨rfl, hHeld.2.2.2.2.2.2.2.2.out⟩
      have he := eq28 (delayV D)
      go_upto_region 11 with (go_at_call 8; (with_reducible refine (HS1.out _).mono ?_); rintro e wR ⟨rfl, hb⟩; have HWR := Aside0.mk (bl_on HL9.out hb); clear hb)
      refine start_ (n := 9) (S := fun w' => w'.cell? ⟨wR.heap.size, 0, none⟩ = some (.bool true) ∧ w'.cell? ⟨wR.heap.size, 1, none⟩ = some (.int .i64 (delayV D)) ∧ w'.cell? ⟨wR.heap.size, 2, none⟩ = some (.int .u64 0) ∧ w'.cell? ⟨wR.heap.size, 3, none⟩ = some (.int .u64 0) ∧ w'.cell? ⟨wR.heap.size, 4, none⟩ = some (.int .u64 0) ∧ w'.cell? ⟨wR.heap.size, 5, none⟩ = some (.int .u64 0) ∧ w'.cell? ⟨wR.heap.size, 6, none⟩ = some (.int .u64 0) ∧ w'.cell? ⟨wR.heap.size, 7, none⟩ = some (.int .u64 0) ∧ Hid (Below w.heap.size w w')) (ds := []) #[false, false, false, false, false, false, false, false, false] (by kernel_rfl) rfl rfl ⟨(cellsOf (heap_on (bl_drew (Below.refl _ _)) (heap_new0 wR wR.heap.size (.cells #[.bool true, .int .i64 (delayV D), .int .u64 0, .int .u64 0, .int .u64 0, .int .u64 0, .int .u64 0, .int .u64 0] 28) rfl)) 0), (cellsOf (heap_on (bl_drew (Below.refl _ _)) (heap_new0 wR wR.heap.size (.cells #[.bool true, .int .i64 (delayV D), .int .u64 0, .int .u64 0, .int .u64 0, .int .u64 0, .int .u64 0, .int .u64 0] 28) rfl)) 1), (cellsOf (heap_on (bl_drew (Below.refl _ _)) (heap_new0 wR wR.heap.size (.cells #[.bool true, .int .i64 (delayV D), .int .u64 0, .int .u64 0, .int .u64 0, .int .u64 0, .int .u64 0, .int .u64 0] 28) rfl)) 2), (cellsOf (heap_on (bl_drew (Below.refl _ _)) (heap_new0 wR wR.heap.size (.cells #[.bool true, .int .i64 (delayV D), .int .u64 0, .int .u64 0, .int .u64 0, .int .u64 0, .int .u64 0, .int .u64 0] 28) rfl)) 3), (cellsOf (heap_on (bl_drew (Below.refl _ _)) (heap_new0 wR wR.heap.size (.cells #[.bool true, .int .i64 (delayV D), .int .u64 0, .int .u64 0, .int .u64 0, .int .u64 0, .int .u64 0, .int .u64 0] 28) rfl)) 4), (cellsOf (heap_on (bl_drew (Below.refl _ _)) (heap_new0 wR wR.heap.size (.cells #[.bool true, .int .i64 (delayV D), .int .u64 0, .int .u64 0, .int .u64 0, .int .u64 0, .int .u64 0, .int .u64 0] 28) rfl)) 5), (cellsOf (heap_on (bl_drew (Below.refl _ _)) (heap_new0 wR wR.heap.size (.cells #[.bool true, .int .i64 (delayV D), .int .u64 0, .int .u64 0, .int .u64 0, .int .u64 0, .int .u64 0, .int .u64 0] 28) rfl)) 6), (cellsOf (heap_on (bl_drew (Below.refl _ _)) (heap_new0 wR wR.heap.size (.cells #[.bool true, .int .i64 (delayV D), .int .u64 0, .int .u64 0, .int .u64 0, .int .u64 0, .int .u64 0, .int .u64 0] 28) rfl)) 7), (Lib.hid (bl_drew (bl_alloc HWR.out _)))⟩ (fun hHeld => ?_)
      refine pure_ (i := 0) (N := some 43) (v := ?_) (a' := ?_) #[true, false, false, false, false, false, false, false, false] rfl rfl (by kernel_rfl) (fun _ _ _ h => h) (Or.inl ⟨by rfl, ?_⟩) ?_ ?_
      rotate_left
      · intro w'
        go_simp
        with_reducible rfl
      rotate_left
      · simp only [Act.put, List.setIfInBounds_toArray, List.set_cons_zero, List.set_cons_succ, i64_w, i32_w]
        rfl
      refine pure_ (i := 1) (N := some 44) (v := ?_) (a' := ?_) #[true, true, false, false, false, false, false, false, false] rfl rfl (by kernel_rfl) (fun _ _ _ h => h) (Or.inl ⟨by rfl, ?_⟩) ?_ ?_
      rotate_left
      · intro w'
        go_simp
        with_reducible rfl
      rotate_left
      · simp only [Act.put, List.setIfInBounds_toArray, List.set_cons_zero, List.set_cons_succ, i64_w, i32_w]
        rfl
      refine pure_ (i := 3) (N := some 46) (v := ?_) (a' := ?_) #[true, true, false, true, false, false, false, false, false] rfl rfl (by kernel_rfl) (fun _ _ _ h => h) (Or.inl ⟨by rfl, ?_⟩) ?_ ?_
      rotate_left
      · intro w'
        go_simp
        with_reducible rfl
      rotate_left
      · simp only [Act.put, List.setIfInBounds_toArray, List.set_cons_zero, List.set_cons_succ, i64_w, i32_w]
        rfl
      refine take_ (i := 2) (N := some 45) (v := ?_) (a' := ?_) #[true, true, true, true, false, false, false, false, false] rfl rfl (by kernel_rfl) (fun _ _ _ h => h) (Or.inl ⟨by rfl, ?_⟩) hHeld ?_ ?_
      rotate_left
      · rintro w' ⟨s0, s1, s2, s3, s4, s5, s6, s7, s8⟩
        go_simp
        with_reducible rfl
      rotate_left
      · simp only [Act.put, List.setIfInBounds_toArray, List.set_cons_zero, List.set_cons_succ, i64_w, i32_w]
        rfl
      refine one_ (i := 4) (N := some 47) #[true, true, true, true, true, false, false, false, false] rfl rfl (by kernel_rfl) (by decide) (fun K hK => ?_)
      refine goes_ Tryd.func9 (by kernel_rfl) rfl #[.int .i64 D] (by rfl) rfl rfl (by simp only [List.map_toArray, List.map_cons, List.map_nil]; rfl) ?_
      with_reducible refine (delay9 D HLO.out HHI.out _).mono ?_
      rintro e w3 ⟨rfl, hb⟩
      refine ⟨_, rfl, ?_⟩
      refine hK.out _ _ ⟨(cell_on hb hHeld.1), (cell_on hb hHeld.2.1), (cell_on hb hHeld.2.2.1), (cell_on hb hHeld.2.2.2.1), (cell_on hb hHeld.2.2.2.2.1), (cell_on hb hHeld.2.2.2.2.2.1), (cell_on hb hHeld.2.2.2.2.2.2.1), (cell_on hb hHeld.2.2.2.2.2.2.2.1), (Lib.hid (bl_on hHeld.2.2.2.2.2.2.2.2.out hb))⟩ (fun hHeld => ?_)
      clear hK K
      refine norm_ (a' := ?_) ?_ ?_
      rotate_left
      · show Act.put _ (some 47) _ = _
        simp only [Act.put, List.setIfInBounds_toArray, List.set_cons_zero, List.set_cons_succ, i64_w, i32_w]
        rfl
      refine pure_ (i := 5) (N := some 48) (v := ?_) (a' := ?_) #[true, true, true, true, true, true, false, false, false] rfl rfl (by kernel_rfl) (fun _ _ _ h => h) (Or.inl ⟨by rfl, ?_⟩) ?_ ?_
      rotate_left
      · intro w'
        go_simp
        with_reducible rfl
      rotate_left
      · simp only [Act.put, List.setIfInBounds_toArray, List.set_cons_zero, List.set_cons_succ, i64_w, i32_w]
        rfl
      refine pure_ (i := 6) (N := some 49) (v := ?_) (a' := ?_) #[true, true, true, true, true, true, true, false, false] rfl rfl (by kernel_rfl) (fun _ _ _ h => h) (Or.inl ⟨by rfl, ?_⟩) ?_ ?_
      rotate_left
      · intro w'
        go_simp
        with_reducible rfl
      rotate_left
      · simp only [Act.put, List.setIfInBounds_toArray, List.set_cons_zero, List.set_cons_succ, i64_w, i32_w]
        rfl
      refine pure_ (i := 7) (N := some 50) (v := ?_) (a' := ?_) #[true, true, true, true, true, true, true, true, false] rfl rfl (by kernel_rfl) (fun _ _ _ h => h) (Or.inl ⟨by rfl, ?_⟩) ?_ ?_
      rotate_left
      · intro w'
        go_simp
        with_reducible rfl
      rotate_left
      · simp only [Act.put, List.setIfInBounds_toArray, List.set_cons_zero, List.set_cons_succ, i64_w, i32_w]
        rfl
      refine pure_ (i := 8) (N := some 4) (v := ?_) (a' := ?_) #[true, true, true, true, true, true, true, true, true] rfl rfl (by kernel_rfl) (fun _ _ _ h => h) (Or.inl ⟨by rfl, ?_⟩) ?_ ?_
      rotate_left
      · intro w'
        go_simp
        with_reducible rfl
      rotate_left
      · simp only [Act.put, List.setIfInBounds_toArray, List.set_cons_zero, List.set_cons_succ, i64_w, i32_w]
        rfl
      refine done_ (by kernel_rfl) ?_
      go_wp2
      go_ret
      exact ⟨rfl, hHeld.2.2.2.2.2.2.2.2.out⟩
end Go.Proofs.YtlbcgknjliihjaaDoor
