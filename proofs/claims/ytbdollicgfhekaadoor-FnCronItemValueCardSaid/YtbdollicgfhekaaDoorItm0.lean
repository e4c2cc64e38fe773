/-
  One item that is a number: the functions below getRange, walked.
-/
import Derived.Test.YtbdollicgfhekaaDoorPFnCronItemValuex1
import Derived.Test.YtbdollicgfhekaaDoorShelf
import Derived.Deep.Cut
import Derived.Lib.Hide
import Derived.Lib.Strings
import Derived.LoopTactic
import Derived.Deep.LoopGhost
import Derived.Outline
set_option linter.unusedVariables false
set_option linter.unusedSimpArgs false
namespace Go.Proofs.YtbdollicgfhekaaDoor
open Go Go.RowKit Go.Proofs.YtbdollicgfhekaaDoorW.PrintWords Go.Proofs.YtbdollicgfhekaaDoorW.PrintLast Go.Proofs.YtbdollicgfhekaaDoor.PFnCronItemValue

theorem bl_alloc {w W : World} (h : Below w.heap.size w W) (o : Obj) : Below w.heap.size w (W.alloc o) := h.alloc h.size o
theorem bl_drew {B : Nat} {w W : World} (h : Below B w W) : Below B w W.drew := ⟨h.os, h.tape, h.output, h.size, h.block⟩
theorem bl_on {w W W1 : World} (h : Below w.heap.size w W) (h1 : Below W.heap.size W W1) : Below w.heap.size w W1 := h.trans (h1.mono h.size)
/-! ### a text without the sign is not split -/
abbrev L (s : ByteArray) : List UInt8 := s.data.toList
theorem L_len (s : ByteArray) : (L s).length = s.size := (Lib.size_eq s).symm
theorem toList_L (s : ByteArray) : s.toList = L s := Lib.toList_data s
theorem wrap_next {y n : Int} (h0 : 0 ≤ y) (h1 : y < n) (hn : n ≤ 4294967296) : wrap64 (y + 1) = y + 1 := by unfold wrap64; omega
theorem index_none (s : ByteArray) (c : UInt8) (hc : ∀ b ∈ L s, b ≠ c) (hn : s.size ≤ 2147483647) : ∀ (k : Nat) (y : Int), 0 ≤ y → y ≤ s.size → (s.size : Int) < y + k → cron_zzIndex.l0 k s ⟨#[c]⟩ y = some (-1)
  | 0, y, h0, h1, h2 => by omega
  | k + 1, y, h0, h1, h2 => by
    have e1 : (((⟨#[c]⟩ : ByteArray).size : Nat) : Int) = 1 := rfl
    rw [cron_zzIndex.l0, e1, wrap_next (n := 2147483648) h0 (by omega) (by omega)]
    by_cases h : y + 1 ≤ (s.size : Int)
    · have hl : y.toNat < (L s).length := by rw [L_len]; omega
      rw [if_pos h, if_pos h0, if_pos (by omega), Lib.extract_toList, toList_L, show (y + 1).toNat - y.toNat = 1 by omega, List.drop_eq_getElem_cons hl]
      rw [if_neg (fun h => hc _ (List.getElem_mem hl) (List.head_eq_of_cons_eq (show [(L s)[y.toNat]] = [c] from h)))]
      exact index_none s c hc hn k (y + 1) (by omega) (by omega) (by omega)
    · rw [if_neg h]
theorem split_none (s : ByteArray) (c : UInt8) (hc : ∀ b ∈ L s, b ≠ c) (hn : s.size ≤ 2147483647) : cron_zzSplit.f (s.size + 2) s ⟨#[c]⟩ = some [s] := by
  unfold cron_zzSplit.f
  rw [cron_zzSplit.l0]
  unfold cron_zzIndex.f
  rw [index_none s c hc hn (s.size + 1) 0 (by omega) (by omega) (by omega), Option.bind_some, if_pos (by decide), if_pos (by decide)]
  rfl
theorem split12 (s : ByteArray) (c : UInt8) (hc : ∀ b ∈ L s, b ≠ c) (hn : s.size ≤ 2147483647) (w : World) :
    Calls Tryd.prog 12 #[.string s, .string ⟨#[c]⟩] w fun e w' => ∃ (ad : Addr) (cap : Nat), e = .returned (.slice (some ad) 1 cap) ∧ w'.cell? ad = some (.string s) ∧ Below w.heap.size w w' := by
  refine (cron_zzSplit.calls (s.size + 2) s ⟨#[c]⟩ [s] w (split_none s c hc hn)).mono ?_
  rintro e w' ⟨v, rfl, hR, hB⟩
  obtain ⟨A, cap, e1, -, hC⟩ := Kd.R_reads hR
  subst e1
  obtain ⟨ad, e2, hc⟩ := Kd.at_string hC 0 (by decide) (by simp)
  subst e2
  refine ⟨ad, cap, rfl, ?_, hB⟩
  have h1 : ad.add (0 : Int).toNat = ad := rfl
  rw [h1] at hc
  exact hc
/-! ### errors and numbers -/
theorem new14 (s : ByteArray) (w : World) : Calls Tryd.prog 14 #[.string s] w fun e w' => ∃ N, e = .returned (.iface 55 (.pointer (some ⟨N, 0, none⟩))) ∧ Below w.heap.size w w' := by
  go_enter Tryd.func14, Tryd.ntmps14
  go_wp2
  go_ret
  exact ⟨_, rfl, by repeat (first | exact Below.refl _ _ | apply bl_alloc)⟩
theorem below_bytes {w w' : World} (h : w' = w ∨ ∃ t, w' = Lib.bytesWorld w 5 t) : Below w.heap.size w w' := by
  rcases h with rfl | ⟨t, rfl⟩
  · exact Below.refl _ _
  · exact Lib.bytesWorld_below w 5 t
set_option maxHeartbeats 4000000 in
set_option maxRecDepth 100000 in
theorem must15 (s : ByteArray) (v : Int) (hs : s.size ≤ 2147483647) (h : Lib.atoiAll s.data.toList = .ok v) (h0 : 0 ≤ v) (h1 : v ≤ 9223372036854775807) (w : World) :
    Calls Tryd.prog 15 #[.string s] w fun e w' => e = .returned (.tuple #[.int .u64 v, .nilIface]) ∧ Below w.heap.size w w' := by
  have H := Aside0.mk h
  have c1 : decide (v < 0) = false := decide_eq_false (by omega)
  have c2 : v % 18446744073709551616 = v := by omega
  have HS := Aside0.mk hs
  clear h hs
  go_enter Tryd.func15, Tryd.ntmps15
  go_wp2_with (go_at_call 23; (with_reducible refine (Tryd.strconv_Atoi_ok s (Nat.le_trans HS.out (by decide)) v H.out _).mono ?_); rintro e w1 ⟨rfl, hw⟩; have HB := Aside0.mk (below_bytes hw); clear hw)
  go_ret2
  exact ⟨rfl, HB.out⟩
set_option maxHeartbeats 4000000 in
set_option maxRecDepth 100000 in
theorem parse13 (s : ByteArray) (v : Int) (hs : s.size ≤ 2147483647) (h : Lib.atoiAll s.data.toList = .ok v) (h0 : 0 ≤ v) (h1 : v ≤ 9223372036854775807) (w : World) :
    Calls Tryd.prog 13 #[.string s, .map none] w fun e w' => e = .returned (.tuple #[.int .u64 v, .nilIface]) ∧ Below w.heap.size w w' := by
  have H := Aside0.mk h
  have HS := Aside0.mk hs
  have H0 := Aside0.mk h0
  have H1 := Aside0.mk h1
  clear h hs h0 h1
  have hq : ∀ w : World, (binOp BinOp.neq 35 (.map none) (.map none)).run Tryd.prog w = .ok (.bool false) w := fun _ => by kernel_rfl
  go_enter Tryd.func13, Tryd.ntmps13
  go_wp2_with (go_at_call 15; (with_reducible refine (must15 s v HS.out H.out H0.out H1.out _).mono ?_); rintro e w1 ⟨rfl, hb⟩; have HB := Aside0.mk hb; clear hb)
  go_ret2
  exact ⟨rfl, HB.out⟩
theorem one_bit : ∀ v : Fin 63, bits BinOp.and IntKind.u64 (bits BinOp.xor IntKind.u64 IntKind.u64.max (IntKind.u64.wrap (18446744073709551615 * 2 ^ (v.val + 1)))) (IntKind.u64.wrap (18446744073709551615 * 2 ^ v.val)) = 2 ^ v.val := by decide +kernel
theorem or_none : ∀ v : Fin 63, bits BinOp.or IntKind.u64 (2 ^ v.val) 0 = 2 ^ v.val := by decide +kernel
theorem ret_int {k : IntKind} {a b : Int} (h : a = b) : Ending.returned (.int k a) = .returned (.int k b) := by rw [h]
set_option maxHeartbeats 4000000 in
set_option maxRecDepth 100000 in
theorem bits16 (v : Nat) (h : v < 63) (w : World) :
    Calls Tryd.prog 16 #[.int .u64 v, .int .u64 v, .int .u64 1] w fun e w' => e = .returned (.int .u64 (2 ^ v)) ∧ w = w' := by
  have H' := Lib.hid (one_bit ⟨v, h⟩)
  have hs : IntKind.u64.signed = false := rfl
  go_enter Tryd.func16, Tryd.ntmps16
  go_wp2
  go_ret
  exact ⟨ret_int H'.out, rfl⟩
end Go.Proofs.YtbdollicgfhekaaDoor
