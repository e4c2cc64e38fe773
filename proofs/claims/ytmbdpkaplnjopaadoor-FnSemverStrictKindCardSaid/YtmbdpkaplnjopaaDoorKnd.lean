/-
  The kind of an error, walked; StrictKind; the law.
-/
import Derived.Test.YtmbdpkaplnjopaaDoorSpc
import Derived.Test.YtmbdpkaplnjopaaDoorIsx
set_option linter.unusedVariables false
set_option linter.unusedSimpArgs false
namespace Go.Proofs.YtmbdpkaplnjopaaDoor
open Go Go.RowKit Go.Proofs.YtmbdpkaplnjopaaDoorW.PrintWords Go.Proofs.YtmbdpkaplnjopaaDoorW.PrintLast Go.Proofs.YtmbdpkaplnjopaaDoor.Gram Go.Proofs.YtmbdpkaplnjopaaDoor.PFnSemverStrictKind
/-- the sentinels are different pointers, each to a row of cells -/
def Apart (E : Nat → Addr) (w : World) : Prop := (∀ g h, g < 11 → h < 11 → g ≠ h → E g ≠ E h) ∧ ∀ g, g < 11 → ∃ cs t, w.heap[(E g).block]? = some (.cells cs t (0, 0))
theorem apart_below {E : Nat → Addr} {w w' : World} (h : Apart E w) (hb : Below w.heap.size w w') : Apart E w' := ⟨h.1, fun g hg => by
  obtain ⟨cs, t, hc⟩ := h.2 g hg
  exact ⟨cs, t, heap_on hb hc⟩⟩
theorem is_no (E : Nat → Addr) (w : World) (h : Apart E w) (g j : Nat) (hg : g < 11) (hj : j < 11) (hne : g ≠ j) : Calls Tryd.prog 21 #[.iface 86 (.pointer (some (E g))), .iface 86 (.pointer (some (E j)))] w fun e w' => e = .returned (.bool false) ∧ w' = w := by
  obtain ⟨ca, ta, ha⟩ := h.2 g hg
  obtain ⟨cb, tb, hb⟩ := h.2 j hj
  exact is_other (E g) (E j) ca cb ta tb w (h.1 g j hg hj hne) ha hb
theorem is_no_num (E : Nat → Addr) (w : World) (h : Apart E w) (B : Nat) (hN : NumErr E B w) (j : Nat) (hj : j < 9) : Calls Tryd.prog 21 #[.iface 67 (.pointer (some ⟨B, 0, none⟩)), .iface 86 (.pointer (some (E j)))] w fun e w' => e = .returned (.bool false) ∧ w' = w := by
  obtain ⟨x, y, k, hk, hc⟩ := hN
  obtain ⟨ca, ta, ha⟩ := h.2 k (by omega)
  obtain ⟨cb, tb, hb⟩ := h.2 j (by omega)
  exact is_wrap_other B (E j) (E k) ca cb ta tb w (cellsOf hc 2) (h.1 k j (by omega) (by omega) (by omega)) ha hb
set_option maxHeartbeats 16000000 in
set_option maxRecDepth 100000 in
theorem kind8_nil (w : World) : Calls Tryd.prog 8 #[.nilIface] w fun e w' => e = .returned (.int .i64 0) ∧ w' = w := by
  have hn : ∀ w : World, (binOp .eql 28 .nilIface .nilIface).run Tryd.prog w = .ok (.bool true) w := fun _ => by kernel_rfl
  go_enter Tryd.func8, Tryd.ntmps8
  go_wp2
  go_ret
  exact ⟨rfl, rfl⟩
set_option maxHeartbeats 16000000 in
set_option maxRecDepth 100000 in
theorem kind8_0 (E : Nat → Addr) (w : World) (hG : GlobS E w) (hA : Apart E w) : Calls Tryd.prog 8 #[.iface 86 (.pointer (some (E 0)))] w fun e w' => e = .returned (.int .i64 1) ∧ w' = w := by
  have c0 := hG 0 (by decide)
  have c1 := hG 1 (by decide)
  have c3 := hG 3 (by decide)
  have c4 := hG 4 (by decide)
  have c5 := hG 5 (by decide)
  have c6 := hG 6 (by decide)
  have c2 := hG 2 (by decide)
  have c7 := hG 7 (by decide)
  have c8 := hG 8 (by decide)
  have HS := Aside0.mk (is_same (E 0) w)
  clear hG hA
  go_enter Tryd.func8, Tryd.ntmps8
  go_wp2_with (first
    | (go_at_call 21; (with_reducible refine HS.out.mono ?_); rintro e w1 ⟨rfl, rfl⟩))
  go_ret
  exact ⟨rfl, rfl⟩
set_option maxHeartbeats 16000000 in
set_option maxRecDepth 100000 in
theorem kind8_1 (E : Nat → Addr) (w : World) (hG : GlobS E w) (hA : Apart E w) : Calls Tryd.prog 8 #[.iface 86 (.pointer (some (E 1)))] w fun e w' => e = .returned (.int .i64 2) ∧ w' = w := by
  have c0 := hG 0 (by decide)
  have c1 := hG 1 (by decide)
  have c3 := hG 3 (by decide)
  have c4 := hG 4 (by decide)
  have c5 := hG 5 (by decide)
  have c6 := hG 6 (by decide)
  have c2 := hG 2 (by decide)
  have c7 := hG 7 (by decide)
  have c8 := hG 8 (by decide)
  have H0 := Aside0.mk (is_no E w hA 1 0 (by decide) (by decide) (by decide))
  have HS := Aside0.mk (is_same (E 1) w)
  clear hG hA
  go_enter Tryd.func8, Tryd.ntmps8
  go_wp2_with (first
    | (go_at_call 21; (with_reducible refine H0.out.mono ?_); rintro e w1 ⟨rfl, rfl⟩)
    | (go_at_call 21; (with_reducible refine HS.out.mono ?_); rintro e w1 ⟨rfl, rfl⟩))
  go_ret
  exact ⟨rfl, rfl⟩
set_option maxHeartbeats 16000000 in
set_option maxRecDepth 100000 in
theorem kind8_2 (E : Nat → Addr) (w : World) (hG : GlobS E w) (hA : Apart E w) : Calls Tryd.prog 8 #[.iface 86 (.pointer (some (E 2)))] w fun e w' => e = .returned (.int .i64 7) ∧ w' = w := by
  have c0 := hG 0 (by decide)
  have c1 := hG 1 (by decide)
  have c3 := hG 3 (by decide)
  have c4 := hG 4 (by decide)
  have c5 := hG 5 (by decide)
  have c6 := hG 6 (by decide)
  have c2 := hG 2 (by decide)
  have c7 := hG 7 (by decide)
  have c8 := hG 8 (by decide)
  have H0 := Aside0.mk (is_no E w hA 2 0 (by decide) (by decide) (by decide))
  have H1 := Aside0.mk (is_no E w hA 2 1 (by decide) (by decide) (by decide))
  have H3 := Aside0.mk (is_no E w hA 2 3 (by decide) (by decide) (by decide))
  have H4 := Aside0.mk (is_no E w hA 2 4 (by decide) (by decide) (by decide))
  have H5 := Aside0.mk (is_no E w hA 2 5 (by decide) (by decide) (by decide))
  have H6 := Aside0.mk (is_no E w hA 2 6 (by decide) (by decide) (by decide))
  have HS := Aside0.mk (is_same (E 2) w)
  clear hG hA
  go_enter Tryd.func8, Tryd.ntmps8
  go_wp2_with (first
    | (go_at_call 21; (with_reducible refine H0.out.mono ?_); rintro e w1 ⟨rfl, rfl⟩)
    | (go_at_call 21; (with_reducible refine H1.out.mono ?_); rintro e w1 ⟨rfl, rfl⟩)
    | (go_at_call 21; (with_reducible refine H3.out.mono ?_); rintro e w1 ⟨rfl, rfl⟩)
    | (go_at_call 21; (with_reducible refine H4.out.mono ?_); rintro e w1 ⟨rfl, rfl⟩)
    | (go_at_call 21; (with_reducible refine H5.out.mono ?_); rintro e w1 ⟨rfl, rfl⟩)
    | (go_at_call 21; (with_reducible refine H6.out.mono ?_); rintro e w1 ⟨rfl, rfl⟩)
    | (go_at_call 21; (with_reducible refine HS.out.mono ?_); rintro e w1 ⟨rfl, rfl⟩))
  go_ret
  exact ⟨rfl, rfl⟩
set_option maxHeartbeats 16000000 in
set_option maxRecDepth 100000 in
theorem kind8_3 (E : Nat → Addr) (w : World) (hG : GlobS E w) (hA : Apart E w) : Calls Tryd.prog 8 #[.iface 86 (.pointer (some (E 3)))] w fun e w' => e = .returned (.int .i64 3) ∧ w' = w := by
  have c0 := hG 0 (by decide)
  have c1 := hG 1 (by decide)
  have c3 := hG 3 (by decide)
  have c4 := hG 4 (by decide)
  have c5 := hG 5 (by decide)
  have c6 := hG 6 (by decide)
  have c2 := hG 2 (by decide)
  have c7 := hG 7 (by decide)
  have c8 := hG 8 (by decide)
  have H0 := Aside0.mk (is_no E w hA 3 0 (by decide) (by decide) (by decide))
  have H1 := Aside0.mk (is_no E w hA 3 1 (by decide) (by decide) (by decide))
  have HS := Aside0.mk (is_same (E 3) w)
  clear hG hA
  go_enter Tryd.func8, Tryd.ntmps8
  go_wp2_with (first
    | (go_at_call 21; (with_reducible refine H0.out.mono ?_); rintro e w1 ⟨rfl, rfl⟩)
    | (go_at_call 21; (with_reducible refine H1.out.mono ?_); rintro e w1 ⟨rfl, rfl⟩)
    | (go_at_call 21; (with_reducible refine HS.out.mono ?_); rintro e w1 ⟨rfl, rfl⟩))
  go_ret
  exact ⟨rfl, rfl⟩
set_option maxHeartbeats 16000000 in
set_option maxRecDepth 100000 in
theorem kind8_4 (E : Nat → Addr) (w : World) (hG : GlobS E w) (hA : Apart E w) : Calls Tryd.prog 8 #[.iface 86 (.pointer (some (E 4)))] w fun e w' => e = .returned (.int .i64 4) ∧ w' = w := by
  have c0 := hG 0 (by decide)
  have c1 := hG 1 (by decide)
  have c3 := hG 3 (by decide)
  have c4 := hG 4 (by decide)
  have c5 := hG 5 (by decide)
  have c6 := hG 6 (by decide)
  have c2 := hG 2 (by decide)
  have c7 := hG 7 (by decide)
  have c8 := hG 8 (by decide)
  have H0 := Aside0.mk (is_no E w hA 4 0 (by decide) (by decide) (by decide))
  have H1 := Aside0.mk (is_no E w hA 4 1 (by decide) (by decide) (by decide))
  have H3 := Aside0.mk (is_no E w hA 4 3 (by decide) (by decide) (by decide))
  have HS := Aside0.mk (is_same (E 4) w)
  clear hG hA
  go_enter Tryd.func8, Tryd.ntmps8
  go_wp2_with (first
    | (go_at_call 21; (with_reducible refine H0.out.mono ?_); rintro e w1 ⟨rfl, rfl⟩)
    | (go_at_call 21; (with_reducible refine H1.out.mono ?_); rintro e w1 ⟨rfl, rfl⟩)
    | (go_at_call 21; (with_reducible refine H3.out.mono ?_); rintro e w1 ⟨rfl, rfl⟩)
    | (go_at_call 21; (with_reducible refine HS.out.mono ?_); rintro e w1 ⟨rfl, rfl⟩))
  go_ret
  exact ⟨rfl, rfl⟩
set_option maxHeartbeats 16000000 in
set_option maxRecDepth 100000 in
theorem kind8_5 (E : Nat → Addr) (w : World) (hG : GlobS E w) (hA : Apart E w) : Calls Tryd.prog 8 #[.iface 86 (.pointer (some (E 5)))] w fun e w' => e = .returned (.int .i64 5) ∧ w' = w := by
  have c0 := hG 0 (by decide)
  have c1 := hG 1 (by decide)
  have c3 := hG 3 (by decide)
  have c4 := hG 4 (by decide)
  have c5 := hG 5 (by decide)
  have c6 := hG 6 (by decide)
  have c2 := hG 2 (by decide)
  have c7 := hG 7 (by decide)
  have c8 := hG 8 (by decide)
  have H0 := Aside0.mk (is_no E w hA 5 0 (by decide) (by decide) (by decide))
  have H1 := Aside0.mk (is_no E w hA 5 1 (by decide) (by decide) (by decide))
  have H3 := Aside0.mk (is_no E w hA 5 3 (by decide) (by decide) (by decide))
  have H4 := Aside0.mk (is_no E w hA 5 4 (by decide) (by decide) (by decide))
  have HS := Aside0.mk (is_same (E 5) w)
  clear hG hA
  go_enter Tryd.func8, Tryd.ntmps8
  go_wp2_with (first
    | (go_at_call 21; (with_reducible refine H0.out.mono ?_); rintro e w1 ⟨rfl, rfl⟩)
    | (go_at_call 21; (with_reducible refine H1.out.mono ?_); rintro e w1 ⟨rfl, rfl⟩)
    | (go_at_call 21; (with_reducible refine H3.out.mono ?_); rintro e w1 ⟨rfl, rfl⟩)
    | (go_at_call 21; (with_reducible refine H4.out.mono ?_); rintro e w1 ⟨rfl, rfl⟩)
    | (go_at_call 21; (with_reducible refine HS.out.mono ?_); rintro e w1 ⟨rfl, rfl⟩))
  go_ret
  exact ⟨rfl, rfl⟩
set_option maxHeartbeats 16000000 in
set_option maxRecDepth 100000 in
theorem kind8_6 (E : Nat → Addr) (w : World) (hG : GlobS E w) (hA : Apart E w) : Calls Tryd.prog 8 #[.iface 86 (.pointer (some (E 6)))] w fun e w' => e = .returned (.int .i64 6) ∧ w' = w := by
  have c0 := hG 0 (by decide)
  have c1 := hG 1 (by decide)
  have c3 := hG 3 (by decide)
  have c4 := hG 4 (by decide)
  have c5 := hG 5 (by decide)
  have c6 := hG 6 (by decide)
  have c2 := hG 2 (by decide)
  have c7 := hG 7 (by decide)
  have c8 := hG 8 (by decide)
  have H0 := Aside0.mk (is_no E w hA 6 0 (by decide) (by decide) (by decide))
  have H1 := Aside0.mk (is_no E w hA 6 1 (by decide) (by decide) (by decide))
  have H3 := Aside0.mk (is_no E w hA 6 3 (by decide) (by decide) (by decide))
  have H4 := Aside0.mk (is_no E w hA 6 4 (by decide) (by decide) (by decide))
  have H5 := Aside0.mk (is_no E w hA 6 5 (by decide) (by decide) (by decide))
  have HS := Aside0.mk (is_same (E 6) w)
  clear hG hA
  go_enter Tryd.func8, Tryd.ntmps8
  go_wp2_with (first
    | (go_at_call 21; (with_reducible refine H0.out.mono ?_); rintro e w1 ⟨rfl, rfl⟩)
    | (go_at_call 21; (with_reducible refine H1.out.mono ?_); rintro e w1 ⟨rfl, rfl⟩)
    | (go_at_call 21; (with_reducible refine H3.out.mono ?_); rintro e w1 ⟨rfl, rfl⟩)
    | (go_at_call 21; (with_reducible refine H4.out.mono ?_); rintro e w1 ⟨rfl, rfl⟩)
    | (go_at_call 21; (with_reducible refine H5.out.mono ?_); rintro e w1 ⟨rfl, rfl⟩)
    | (go_at_call 21; (with_reducible refine HS.out.mono ?_); rintro e w1 ⟨rfl, rfl⟩))
  go_ret
  exact ⟨rfl, rfl⟩
set_option maxHeartbeats 16000000 in
set_option maxRecDepth 100000 in
theorem kind8_num (E : Nat → Addr) (w : World) (hG : GlobS E w) (hA : Apart E w) (B : Nat) (hN : NumErr E B w) : Calls Tryd.prog 8 #[.iface 67 (.pointer (some ⟨B, 0, none⟩))] w fun e w' => e = .returned (.int .i64 10) ∧ w' = w := by
  have c0 := hG 0 (by decide)
  have c1 := hG 1 (by decide)
  have c3 := hG 3 (by decide)
  have c4 := hG 4 (by decide)
  have c5 := hG 5 (by decide)
  have c6 := hG 6 (by decide)
  have c2 := hG 2 (by decide)
  have c7 := hG 7 (by decide)
  have c8 := hG 8 (by decide)
  have H0 := Aside0.mk (is_no_num E w hA B hN 0 (by decide))
  have H1 := Aside0.mk (is_no_num E w hA B hN 1 (by decide))
  have H3 := Aside0.mk (is_no_num E w hA B hN 3 (by decide))
  have H4 := Aside0.mk (is_no_num E w hA B hN 4 (by decide))
  have H5 := Aside0.mk (is_no_num E w hA B hN 5 (by decide))
  have H6 := Aside0.mk (is_no_num E w hA B hN 6 (by decide))
  have H2 := Aside0.mk (is_no_num E w hA B hN 2 (by decide))
  have H7 := Aside0.mk (is_no_num E w hA B hN 7 (by decide))
  have H8 := Aside0.mk (is_no_num E w hA B hN 8 (by decide))
  clear hG hA hN
  go_enter Tryd.func8, Tryd.ntmps8
  go_wp2_with (first
    | (go_at_call 21; (with_reducible refine H0.out.mono ?_); rintro e w1 ⟨rfl, rfl⟩)
    | (go_at_call 21; (with_reducible refine H1.out.mono ?_); rintro e w1 ⟨rfl, rfl⟩)
    | (go_at_call 21; (with_reducible refine H3.out.mono ?_); rintro e w1 ⟨rfl, rfl⟩)
    | (go_at_call 21; (with_reducible refine H4.out.mono ?_); rintro e w1 ⟨rfl, rfl⟩)
    | (go_at_call 21; (with_reducible refine H5.out.mono ?_); rintro e w1 ⟨rfl, rfl⟩)
    | (go_at_call 21; (with_reducible refine H6.out.mono ?_); rintro e w1 ⟨rfl, rfl⟩)
    | (go_at_call 21; (with_reducible refine H2.out.mono ?_); rintro e w1 ⟨rfl, rfl⟩)
    | (go_at_call 21; (with_reducible refine H7.out.mono ?_); rintro e w1 ⟨rfl, rfl⟩)
    | (go_at_call 21; (with_reducible refine H8.out.mono ?_); rintro e w1 ⟨rfl, rfl⟩))
  go_ret
  exact ⟨rfl, rfl⟩
theorem kind8_g (E : Nat → Addr) (w : World) (hG : GlobS E w) (hA : Apart E w) (g : Nat) (hg : g < 7) : Calls Tryd.prog 8 #[.iface 86 (.pointer (some (E g)))] w fun e w' => e = .returned (.int .i64 (kOf g)) ∧ w' = w := by
  match g, hg with
  | 0, _ => exact kind8_0 E w hG hA
  | 1, _ => exact kind8_1 E w hG hA
  | 2, _ => exact kind8_2 E w hG hA
  | 3, _ => exact kind8_3 E w hG hA
  | 4, _ => exact kind8_4 E w hG hA
  | 5, _ => exact kind8_5 E w hG hA
  | 6, _ => exact kind8_6 E w hG hA
set_option maxHeartbeats 16000000 in
set_option maxRecDepth 100000 in
theorem kind5 (E : Nat → Addr) (s : ByteArray) (w : World) (hG : GlobS E w) (hE : GlobE E w) (hA : Apart E w) : Calls Tryd.prog 5 #[.string s] w fun e w' => e = .returned (.int .i64 (outL (L s))) ∧ Below w.heap.size w w' := by
  have HS := Aside0.mk (strict9 E s w hG hE)
  have HG := Aside0.mk hG
  have HA := Aside0.mk hA
  clear hG hE hA
  go_enter Tryd.func5, Tryd.ntmps5
  go_wp2_with (first
    | (go_at_call 7; (with_reducible refine HS.out.mono ?_); rintro e w1 hp; rcases hp with ⟨ho, V, rfl, hb⟩ | ⟨g, hg, ho, rfl, hb⟩ | ⟨ho, B, rfl, hN, hb⟩ <;> (have HO := Aside0.mk ho; have HB := Aside0.mk hb; clear ho hb))
    | (go_at_call 8; first
      | ((with_reducible refine (kind8_nil _).mono ?_); rintro e w2 ⟨rfl, rfl⟩)
      | ((with_reducible refine (kind8_g E _ (globS_below HG.out HB.out) (apart_below HA.out HB.out) g hg).mono ?_); rintro e w2 ⟨rfl, rfl⟩)
      | ((with_reducible refine (kind8_num E _ (globS_below HG.out HB.out) (apart_below HA.out HB.out) B hN).mono ?_); rintro e w2 ⟨rfl, rfl⟩)))
  all_goals (go_ret; exact ⟨by rw [HO.out]; rfl, HB.out⟩)
theorem short_ok (s : ByteArray) : laws_svShort.f 5 [s] = some (decide (s.size ≤ 65536)) := by
  unfold laws_svShort.f
  have h1 : (0 : Int) < ((([s] : List ByteArray).length : Nat) : Int) := Int.zero_lt_one
  rw [laws_svShort.l0, if_pos h1, if_pos (by decide), if_pos h1]
  show (if (s.size : Int) > 65536 then some false else laws_svShort.l0 4 [s] ((([s] : List ByteArray).length : Nat) : Int) (wrap64 (0 + 1))) = _
  by_cases h : (s.size : Int) > 65536
  · rw [if_pos h, decide_eq_false (by omega)]
  · have hw : ¬ (wrap64 (0 + 1) < ((([s] : List ByteArray).length : Nat) : Int)) := by
      show ¬ (wrap64 (0 + 1) < 1)
      unfold wrap64
      omega
    rw [if_neg h, decide_eq_true (by omega), laws_svShort.l0, if_neg hw]
theorem row1 (s : ByteArray) (w : World) : Kd.C Kd.string (w.alloc (.cells #[.string s] 9)) (some ⟨w.heap.size, 0, none⟩) [s].length [s] :=
  Kd.C_of_reads (d := ByteArray.empty) ⟨rfl, (show (1 : Nat) ≤ 9223372036854775807 by decide), fun _ => ⟨_, rfl, fun i hi => by
    have h : i = 0 := by have : i < 1 := hi; omega
    subst h
    exact cellsOf (heap_new0 w _ _ rfl) 0⟩⟩
theorem sv4 (s : ByteArray) (r : Bool) (h : laws_svShort.f 5 [s] = some r) (w : World) : Calls Tryd.prog 4 #[.slice (some ⟨w.heap.size, 0, none⟩) 1 1] (w.alloc (.cells #[.string s] 9)) fun e w' => e = .returned (.bool r) ∧ Drawn0 (w.alloc (.cells #[.string s] 9)) w' :=
  laws_svShort.calls 5 _ 1 [s] r _ (row1 s w) (Nat.le_refl _) h
set_option maxHeartbeats 16000000 in
set_option maxRecDepth 100000 in
theorem law3 (E : Nat → Addr) (s : ByteArray) (w : World) (hG : GlobS E w) (hE : GlobE E w) (hA : Apart E w) : Calls Tryd.prog 3 #[.string s] w fun e w' => e = .returned (.bool true) ∧ Below w.heap.size w w' := by
  have HG := Aside0.mk hG
  have HE := Aside0.mk hE
  have HA := Aside0.mk hA
  have HS := Aside0.mk (short_ok s)
  clear hG hE hA
  by_cases h0 : 2147483647 < s.size
  · have c0 : decide (2147483647 < (s.size : Int)) = true := decide_eq_true (by omega)
    clear h0
    go_enter Tryd.func3, Tryd.ntmps3
    go_wp2
    go_ret
    exact ⟨rfl, Below.refl _ _⟩
  have c0 : decide (2147483647 < (s.size : Int)) = false := decide_eq_false (by omega)
  clear h0
  by_cases h1 : s.size ≤ 65536
  · have c1 : decide (s.size ≤ 65536) = true := decide_eq_true h1
    rw [c1] at HS
    have H6 := Aside0.mk (fun w => spec6 s h1 w)
    clear h1 c1
    go_enter Tryd.func3, Tryd.ntmps3
    go_wp2_with (first
      | (go_at_call 4; (with_reducible refine (sv4 s true HS.out w).mono ?_); rintro e w1 ⟨rfl, hd⟩; have HB1 := Aside0.mk (bl_on (bl_alloc (Below.refl _ _) _) hd.below); clear hd)
      | (go_at_call 5; (with_reducible refine (kind5 E s _ (globS_below HG.out HB1.out) (globE_below HE.out HB1.out) (apart_below HA.out HB1.out)).mono ?_); rintro e w2 ⟨rfl, hb⟩; have HB2 := Aside0.mk (bl_on HB1.out hb); clear hb)
      | (go_at_call 6; (with_reducible refine (H6.out _).mono ?_); rintro e w3 ⟨rfl, hb⟩; have HB3 := Aside0.mk (bl_on HB2.out hb); clear hb))
    go_ret
    exact ⟨rfl, HB3.out⟩
  · have c1 : decide (s.size ≤ 65536) = false := decide_eq_false h1
    rw [c1] at HS
    clear h1 c1
    go_enter Tryd.func3, Tryd.ntmps3
    go_wp2_with (go_at_call 4; (with_reducible refine (sv4 s false HS.out w).mono ?_); rintro e w1 ⟨rfl, hd⟩; have HB1 := Aside0.mk (bl_on (bl_alloc (Below.refl _ _) _) hd.below); clear hd)
    go_ret
    exact ⟨rfl, HB1.out⟩
end Go.Proofs.YtmbdpkaplnjopaaDoor
