/-
  The digits at the head of a text: what leadingInt reads.
-/
import Derived.Test.YtlbcgknjliihjaaDoorMap
import Derived.Test.YtlbcgknjliihjaaDoorBase
import Derived.Lib.Hide
import Derived.Deep.Cut
import Derived.Lib.ItoaNum
import Derived.Lib.ItoaLen
import Derived.Lib.ItoaMem
import Derived.Lib.OthersKept
import Derived.Lib.Strings
set_option linter.unusedVariables false
set_option linter.unusedSimpArgs false
namespace Go.Proofs.YtlbcgknjliihjaaDoor
open Go Go.RowKit Go.Proofs.YtlbcgknjliihjaaDoorW.PrintWords Go.Proofs.YtlbcgknjliihjaaDoorW.PrintLast
def isDg (b : UInt8) : Bool := decide (48 ≤ b.toNat) && decide (b.toNat ≤ 57)
/-- what a row of digits is worth -/
def valD (l : List UInt8) : Nat := l.foldl (fun n b => n * 10 + (b.toNat - 48)) 0
theorem valD_snoc (l : List UInt8) (b : UInt8) : valD (l ++ [b]) = valD l * 10 + (b.toNat - 48) := by
  unfold valD
  rw [List.foldl_append]
  rfl
theorem fold_le : ∀ (l : List UInt8) (n : Nat), n ≤ l.foldl (fun n b => n * 10 + (b.toNat - 48)) n
  | [], n => Nat.le_refl _
  | b :: l, n => by
    rw [List.foldl_cons]
    exact Nat.le_trans (by omega) (fold_le l _)
theorem valD_take (l : List UInt8) (k : Nat) : valD (l.take k) ≤ valD l := by
  have h : valD l = (l.drop k).foldl (fun n b => n * 10 + (b.toNat - 48)) (valD (l.take k)) := by
    unfold valD
    rw [← List.foldl_append, List.take_append_drop]
  rw [h]
  exact fold_le _ _
theorem take_succ (l : List UInt8) (k : Nat) (h : k < l.length) : l.take (k + 1) = l.take k ++ [l.getD k 0] := by
  rw [List.take_succ_eq_append_getElem h, List.getD_eq_getElem?_getD, List.getElem?_eq_getElem h]
  rfl
set_option maxHeartbeats 4000000 in
set_option maxRecDepth 100000 in
theorem lead44 (s : ByteArray) (ds rest : List UInt8) (h : L s = ds ++ rest) (hd : ds.all isDg = true) (hr : ∀ c r, rest = c :: r → isDg c = false) (hv : valD ds ≤ 1125899906842624) (hz : s.size ≤ 100000) (w : World) :
    Calls Tryd.prog 44 #[.string s] w fun e w' => e = .returned (.tuple #[.int .u64 (valD ds), .string (mkB rest), .nilIface]) ∧ Below w.heap.size w w' := by
  have HL := Aside0.mk h
  have HD := Aside0.mk hd
  have HR := Aside0.mk hr
  have HV := Aside0.mk hv
  have HZ := Aside0.mk hz
  have hlen := congrArg List.length h
  rw [L_len, List.length_append] at hlen
  have HN := Aside0.mk hlen
  clear h hd hr hv hz hlen
  go_enter Tryd.func44, Tryd.ntmps44
  go_wp2
  go_loopg [2, 5] (ds.length + 1) (fun g v2 v5 w' => ∃ (n x : Int), v2 = .int .u64 n ∧ v5 = .int .i64 x ∧ Aside0 (0 ≤ x ∧ x ≤ ds.length ∧ g + x.toNat = ds.length + 1) ∧ Aside0 (n = (valD (ds.take x.toNat) : Int)) ∧ Below w.heap.size w w')
  case atStart => exact ⟨0, 0, rfl, rfl, ⟨by omega, by omega, by simp⟩, ⟨rfl⟩, Below.refl _ _⟩
  case round =>
    obtain ⟨n, x, rfl, rfl, HX, HA, HW⟩ := hrel
    have HWA := Aside0.mk HW
    clear HW
    by_cases hlt : x < (ds.length : Int)
    · have HT := Aside0.mk hlt
      have h0 := HX.out.1
      have c1 : decide (x < (s.size : Int)) = true := decide_eq_true (by have := HN.out; omega)
      have p4 : 0 ≤ x := by omega
      have q4 : x < (s.size : Int) := by have := HN.out; omega
      have hx4 := bt_at s x
      obtain ⟨b, hb⟩ : ∃ b, b = bt s x := ⟨_, rfl⟩
      have hk : x.toNat < ds.length := by omega
      have hd := List.all_eq_true.1 HD.out (ds.getD x.toNat 0) (by rw [List.getD_eq_getElem?_getD, List.getElem?_eq_getElem hk]; exact List.getElem_mem hk)
      have hbL : b = ((ds.getD x.toNat 0).toNat : Int) := by
        rw [hb, show x = ((x.toNat : Nat) : Int) by omega, bt_L s x.toNat (by omega), HL.out, List.getD_eq_getElem?_getD, List.getElem?_append_left hk, List.getD_eq_getElem?_getD]
        rfl
      unfold isDg at hd
      rw [Bool.and_eq_true] at hd
      have hd0 := of_decide_eq_true hd.1
      have hd1 := of_decide_eq_true hd.2
      have hs := valD_snoc (ds.take x.toNat) (ds.getD x.toNat 0)
      rw [← take_succ ds x.toNat hk] at hs
      have hle := valD_take ds (x.toNat + 1)
      have hv := HV.out
      have hn := HA.out
      have HB := Aside0.mk (show 48 ≤ b ∧ b ≤ 57 ∧ 0 ≤ n ∧ n ≤ 112589990684262 ∧ ((valD (ds.take (x.toNat + 1)) : Nat) : Int) = n * 10 + (b - 48) from by omega)
      have hb0 : decide (b < 48) = false := decide_eq_false (by omega)
      have hb1 : decide (57 < b) = false := decide_eq_false (by omega)
      have hn0 : decide (922337203685477580 < n) = false := decide_eq_false (by omega)
      rw [← hb] at hx4
      have hm : IntKind.u64.wrap (IntKind.u64.wrap (IntKind.u64.wrap (n * 10) + IntKind.u64.wrap b) - 48) = n * 10 + (b - 48) := by
        have h := HB.out
        rw [wu (x := n * 10) (by omega) (by omega), wu (x := b) (by omega) (by omega), wu (x := n * 10 + b) (by omega) (by omega), wu (by omega) (by omega)]
        omega
      have hm0 : decide (9223372036854775808 < IntKind.u64.wrap (IntKind.u64.wrap (IntKind.u64.wrap (n * 10) + IntKind.u64.wrap b) - 48)) = false := decide_eq_false (by rw [hm]; have h := HB.out; omega)
      have HM := Aside0.mk hm
      clear hm
      clear hlt hb hk hd hbL hd0 hd1 hs hle hv hn h0
      replace p4 := eq_true p4
      replace q4 := eq_true q4
      go_wp2
      go_roundg (gk - 1)
      case measure => have h1 := HX.out; have h2 := HT.out; omega
      case rel =>
        have h1 := HX.out
        have h2 := HT.out
        have h3 := HN.out
        have h4 := HZ.out
        have hw : wrap64 (x + 1) = x + 1 := by unfold wrap64; omega
        refine ⟨_, _, rfl, rfl, ⟨?_⟩, ⟨?_⟩, HWA.out⟩
        · rw [hw]; omega
        · rw [hw, HM.out, show (x + 1).toNat = x.toNat + 1 by omega]
          have h5 := HB.out.2.2.2.2
          omega
    · have HXE := Aside0.mk (show x = (ds.length : Int) by have h1 := HX.out; omega)
      have HE := Aside0.mk (show n = (valD ds : Int) by have h1 := HA.out; rw [show x.toNat = ds.length by have := HXE.out; omega, List.take_length] at h1; exact h1)
      have HSL : Aside0 (s.extract x.toNat s.size = mkB rest) := ⟨by
        have h1 := HL.out
        have h2 := HN.out
        have h3 := HXE.out
        rw [ext_mk, h1, show x.toNat = ds.length by omega, List.drop_left, List.take_of_length_le (by omega)]⟩
      have p4 : 0 ≤ x := HX.out.1
      have q5 : x ≤ (s.size : Int) := by have := HN.out; have := HXE.out; omega
      clear hlt
      have HWE := Aside0.mk (show ∀ W', Below wr.heap.size wr W' → Below w.heap.size w W' from fun W' hb => bl_on HWA.out hb)
      cases rest with
      | nil =>
        have c1 : decide (x < (s.size : Int)) = false := decide_eq_false (by have := HN.out; have := HXE.out; rw [List.length_nil] at *; omega)
        replace p4 := eq_true p4
        replace q5 := eq_true q5
        go_upto_region 11 with fail
        first | go_region_held3 (fun W => Hid (Below w.heap.size w W)) (first | assumption | exact Lib.hid (bl_drew HWA.out) | fail) (first | fail) | fail
        rename_i hH
        have HBZ := Lib.hid hH.out
        clear hH
        go_wp2_with fail
        refine bodyPost_ret (v := .tuple #[.int .u64 (valD ds), .string (mkB []), .nilIface]) (by simp [results, Tryd.results44, go_sem, HSL.out, HE.out]) rfl ⟨rfl, HBZ.out⟩
      | cons c r =>
        have hc := HR.out c r rfl
        have c1 : decide (x < (s.size : Int)) = true := decide_eq_true (by have := HN.out; have := HXE.out; rw [List.length_cons] at *; omega)
        have q4 : x < (s.size : Int) := of_decide_eq_true c1
        have hx4 := bt_at s x
        obtain ⟨b, hb⟩ : ∃ b, b = bt s x := ⟨_, rfl⟩
        have hbL : b = (c.toNat : Int) := by
          have h1 := HXE.out
          rw [hb, bt_Z s x p4 q4, HL.out, show x.toNat = ds.length by omega, List.getD_eq_getElem?_getD, List.getElem?_append_right (Nat.le_refl _), Nat.sub_self]
          rfl
        rw [← hb] at hx4
        have hd : (decide (b < 48) || decide (57 < b)) = true := by
          unfold isDg at hc
          rw [hbL]
          rw [Bool.and_eq_false_iff, decide_eq_false_iff_not, decide_eq_false_iff_not] at hc
          rw [Bool.or_eq_true, decide_eq_true_eq, decide_eq_true_eq]
          omega
        clear hbL hb hc
        replace p4 := eq_true p4
        replace q4 := eq_true q4
        replace q5 := eq_true q5
        cases hb0 : decide (b < 48)
        · have hb1 : decide (57 < b) = true := by rw [hb0, Bool.false_or] at hd; exact hd
          clear hd
          go_upto_region 11 with fail
          first | go_region_held3 (fun W => Hid (Below w.heap.size w W)) (first | assumption | exact Lib.hid (bl_drew HWA.out) | fail) (first | fail) | fail
          rename_i hH
          have HBZ := Lib.hid hH.out
          clear hH
          go_wp2_with fail
          refine bodyPost_ret (v := .tuple #[.int .u64 (valD ds), .string (mkB (c :: r)), .nilIface]) (by simp [results, Tryd.results44, go_sem, HSL.out, HE.out]) rfl ⟨rfl, HBZ.out⟩
        · clear hd
          go_upto_region 11 with fail
          first | go_region_held3 (fun W => Hid (Below w.heap.size w W)) (first | assumption | exact Lib.hid (bl_drew HWA.out) | fail) (first | fail) | fail
          rename_i hH
          have HBZ := Lib.hid hH.out
          clear hH
          go_wp2_with fail
          refine bodyPost_ret (v := .tuple #[.int .u64 (valD ds), .string (mkB (c :: r)), .nilIface]) (by simp [results, Tryd.results44, go_sem, HSL.out, HE.out]) rfl ⟨rfl, HBZ.out⟩
end Go.Proofs.YtlbcgknjliihjaaDoor
