/-
  A duration's text: what ParseDuration reads.
-/
import Derived.Test.YtlbcgknjliihjaaDoorLead
set_option linter.unusedVariables false
set_option linter.unusedSimpArgs false
namespace Go.Proofs.YtlbcgknjliihjaaDoor
open Go Go.Maps Go.RowKit Go.Proofs.YtlbcgknjliihjaaDoorW.PrintWords Go.Proofs.YtlbcgknjliihjaaDoorW.PrintLast
theorem digit_val (d : Nat) (h : d < 10) : (UInt8.ofNat (48 + d)).toNat = 48 + d := by
  rw [UInt8.toNat_ofNat']; omega
theorem dec_small {u : Nat} (h : u < 10) : Lib.decDigits u = [UInt8.ofNat (48 + u)] := by rw [Lib.decDigits, dif_pos h]
theorem dec_big {u : Nat} (h : ¬ u < 10) : Lib.decDigits u = Lib.decDigits (u / 10) ++ [UInt8.ofNat (48 + u % 10)] := by rw [Lib.decDigits, dif_neg h]
theorem isDg_digit (d : Nat) (h : d < 10) : isDg (UInt8.ofNat (48 + d)) = true := by
  unfold isDg
  rw [digit_val d h, decide_eq_true (by omega), decide_eq_true (by omega)]
  rfl
theorem dec_dg : ∀ (n u : Nat), u ≤ n → (Lib.decDigits u).all isDg = true ∧ valD (Lib.decDigits u) = u
  | 0, u, h => by
    rw [dec_small (by omega), List.all_cons, isDg_digit u (by omega)]
    refine ⟨rfl, ?_⟩
    show 0 * 10 + ((UInt8.ofNat (48 + u)).toNat - 48) = u
    rw [digit_val u (by omega)]
    omega
  | n + 1, u, h => by
    by_cases h10 : u < 10
    · rw [dec_small h10, List.all_cons, isDg_digit u h10]
      refine ⟨rfl, ?_⟩
      show 0 * 10 + ((UInt8.ofNat (48 + u)).toNat - 48) = u
      rw [digit_val u h10]
      omega
    · have ih := dec_dg n (u / 10) (by omega)
      rw [dec_big h10, List.all_append, ih.1, Bool.true_and, List.all_cons, isDg_digit (u % 10) (by omega), valD_snoc, ih.2, digit_val (u % 10) (by omega)]
      exact ⟨rfl, by omega⟩
theorem dec_ne (u : Nat) : Lib.decDigits u ≠ [] := by
  by_cases h10 : u < 10
  · rw [dec_small h10]; simp
  · rw [dec_big h10]; simp
/-- a row of numbers with units: its text, and how many nanoseconds it is -/
def itemL (p : Nat × Nat) : List UInt8 := Lib.decDigits p.1 ++ unitL p.2
def textL (l : List (Nat × Nat)) : List UInt8 := l.flatMap itemL
def durN : List (Nat × Nat) → Int
  | [] => 0
  | p :: l => (p.1 : Int) * unitV p.2 + durN l
theorem unit_ne (u : Nat) : 1 ≤ (unitL u).length ∧ (unitL u).length ≤ 2 := by
  match u with
  | 0 => decide
  | 1 => decide
  | 2 => decide
  | 3 => decide
  | 4 => decide
  | _ + 5 => exact ⟨by show 1 ≤ 2; omega, by show 2 ≤ 2; omega⟩
theorem unit_byte (u : Nat) : ∀ b ∈ unitL u, 97 ≤ b.toNat := by
  match u with
  | 0 => decide
  | 1 => decide
  | 2 => decide
  | 3 => decide
  | 4 => decide
  | _ + 5 => exact (show ∀ b ∈ ([110, 115] : List UInt8), 97 ≤ b.toNat by decide)
theorem unit_pos (u : Nat) : 1 ≤ unitV u ∧ unitV u ≤ 3600000000000 := by
  match u with
  | 0 => decide
  | 1 => decide
  | 2 => decide
  | 3 => decide
  | 4 => decide
  | _ + 5 => exact ⟨by show (1 : Int) ≤ 1; omega, by show (1 : Int) ≤ 3600000000000; omega⟩
theorem dur_nonneg : ∀ l : List (Nat × Nat), 0 ≤ durN l
  | [] => Int.le_refl _
  | p :: l => by
    have h1 := dur_nonneg l
    have h2 := unit_pos p.2
    have h3 : 0 ≤ (p.1 : Int) * unitV p.2 := Int.mul_nonneg (by omega) (by omega)
    rw [durN]
    omega
theorem text_cons (p : Nat × Nat) (l : List (Nat × Nat)) : textL (p :: l) = Lib.decDigits p.1 ++ (unitL p.2 ++ textL l) := by
  unfold textL itemL
  rw [List.flatMap_cons, List.append_assoc]
/-- a text of items is empty or begins with a digit -/
theorem text_head (l : List (Nat × Nat)) : textL l = [] ∨ ∃ c r, textL l = c :: r ∧ isDg c = true := by
  cases l with
  | nil => exact Or.inl rfl
  | cons p l =>
    right
    rw [text_cons]
    have hd := (dec_dg p.1 p.1 (Nat.le_refl _)).1
    cases he : Lib.decDigits p.1 with
    | nil => exact absurd he (dec_ne _)
    | cons c r =>
      rw [he, List.all_cons, Bool.and_eq_true] at hd
      exact ⟨c, _, rfl, hd.1⟩
/-- the look-up in the map of units -/
theorem look_unit {w : World} {ops : Array Oper} {rest : List Oper} {o : Oper} {a : Act} {Q : Exit → Act → World → Prop} (hg : o.guard = none) (m x : Operand) (hop : o.op = Op.lookup 96 m x true) (B : Nat) (hm : a.eval m = .map (some B)) (hown : Owns w B 8 D8)
    (us : ByteArray) (u : Nat) (U : Int) (hx : a.eval x = .string us) (hu : L us = unitL u) (hU : U = unitV u) (hK : wpList Tryd.prog ops Q rest (a.put o.dst (.tuple #[.int .u64 U, .bool true])) w) : wpList Tryd.prog ops Q (o :: rest) a w := by
  have hz : us.size ≤ 100 := by
    have h := congrArg List.length hu
    rw [L_len] at h
    have := unit_ne u
    omega
  refine wpList_lookup_own_ok_int w hg m x 96 hop 9 26 .u64 law9 Tryd.underlying96 Tryd.underlying26 (zero26 w) B 8 D8 hm hown (.string us) (.string (unitL u)) hx (key9 us (unitL u) hu hz) ?_
  intro c hat hwc
  have hc : c = U := by
    have h := hat.symm.trans (unit_at u)
    injection h with h
    injection h with _ h
    rw [h, hU]
  rw [hc, unit_has]
  exact hK
theorem lead44n (s s2 : ByteArray) (n : Nat) (N : Int) (hN : N = (n : Int)) (h : L s = Lib.decDigits n ++ L s2) (hr : ∀ c r, L s2 = c :: r → isDg c = false) (hn : n ≤ 1125899906842624) (hz : s.size ≤ 100000) (w : World) :
    Calls Tryd.prog 44 #[.string s] w fun e w' => e = .returned (.tuple #[.int .u64 N, .string s2, .nilIface]) ∧ Below w.heap.size w w' := by
  have hd := dec_dg n n (Nat.le_refl _)
  have hl := lead44 s (Lib.decDigits n) (L s2) h hd.1 hr (by rw [hd.2]; exact hn) hz w
  rw [hd.2, mk_L, ← hN] at hl
  exact hl
end Go.Proofs.YtlbcgknjliihjaaDoor
