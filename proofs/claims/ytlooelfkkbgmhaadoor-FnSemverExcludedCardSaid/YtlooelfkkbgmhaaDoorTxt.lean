/-
  Identifiers as lists of bytes: digits, letters, dots; numbers and their order. Plain: no program in sight.
-/
/-
  What comparePrePart returns of two valid identifiers is what clause 11 says.
-/
/-
  What the reference's functions over texts come to, as functions of lists of bytes.
-/
/-
  The reference's order of identifiers, and the tests of the laws' premises, as functions of lists of bytes.
-/
/-
  zzIndex, zzSplit and comparePrerelease as functions of lists of bytes.
-/
/-
  spec.Good and the laws' test of versions, as functions of lists of bytes.
-/
import Derived.Lib.ParseIntB
import Derived.Laws.Strings
import Derived.Test.YtlooelfkkbgmhaaDoorPart
import Derived.Lib.Strings
import Derived.Test.YtlooelfkkbgmhaaDoorQSA
import Derived.Test.YtlooelfkkbgmhaaDoorQA
namespace Go.Proofs.YtlooelfkkbgmhaaDoor.Txt
open Go

def dig (c : UInt8) : Bool := decide (48 ≤ c.toNat) && decide (c.toNat ≤ 57)
def idn (c : UInt8) : Bool := dig c || (decide (65 ≤ c.toNat) && decide (c.toNat ≤ 90)) || (decide (97 ≤ c.toNat) && decide (c.toNat ≤ 122)) || decide (c.toNat = 45)
def digitsB (l : List UInt8) : Bool := l.all dig && !l.isEmpty
def identB (l : List UInt8) : Bool := l.all idn && !l.isEmpty

/-- the value that digits spell behind acc -/
def val (acc : Nat) : List UInt8 → Nat
  | [] => acc
  | c :: r => val (acc * 10 + (c.toNat - 48)) r

theorem mul_shift (a p : Nat) : a * (p * 10) = (a * 10) * p := by rw [Nat.mul_comm p 10, Nat.mul_assoc]

theorem val_lo (l : List UInt8) : ∀ acc, acc * 10 ^ l.length ≤ val acc l := by
  induction l with
  | nil => intro acc; exact Nat.le_of_eq (Nat.mul_one _)
  | cons c r ih =>
    intro acc
    have h := ih (acc * 10 + (c.toNat - 48))
    show acc * 10 ^ (r.length + 1) ≤ val (acc * 10 + (c.toNat - 48)) r
    rw [Nat.pow_succ, mul_shift]
    exact Nat.le_trans (Nat.mul_le_mul_right _ (Nat.le_add_right _ _)) h

theorem val_hi (l : List UInt8) (hd : l.all dig = true) : ∀ acc, val acc l < (acc + 1) * 10 ^ l.length := by
  induction l with
  | nil => intro acc; show acc < (acc + 1) * 1; omega
  | cons c r ih =>
    intro acc
    simp only [List.all_cons, Bool.and_eq_true] at hd
    have h := ih hd.2 (acc * 10 + (c.toNat - 48))
    have hc : c.toNat ≤ 57 := by have := hd.1; simp [dig] at this; exact this.2
    show val (acc * 10 + (c.toNat - 48)) r < (acc + 1) * 10 ^ (r.length + 1)
    rw [Nat.pow_succ, mul_shift]
    exact Nat.lt_of_lt_of_le h (Nat.mul_le_mul_right _ (by omega))

theorem p_nil (M acc : Nat) : Lib.parseUintM M acc [] = .ok acc := by unfold Lib.parseUintM; exact Eq.refl _
theorem p_cons (M acc : Nat) (c : UInt8) (r : List UInt8) (hc : 48 ≤ c.toNat ∧ c.toNat ≤ 57) (h6 : ¬ 1844674407370955162 ≤ acc) (h7 : ¬ M < acc * 10 + (c.toNat - 48)) : Lib.parseUintM M acc (c :: r) = Lib.parseUintM M (acc * 10 + (c.toNat - 48)) r := by
  conv => lhs; unfold Lib.parseUintM
  rw [if_pos hc, if_neg h6, if_neg h7]
theorem p_bad (M acc : Nat) (c : UInt8) (r : List UInt8) (hc : ¬ (48 ≤ c.toNat ∧ c.toNat ≤ 57)) (u : Nat) : Lib.parseUintM M acc (c :: r) ≠ .ok u := by
  conv => lhs; unfold Lib.parseUintM
  rw [if_neg hc]
  intro h; cases h
theorem p_more (M acc : Nat) (c : UInt8) (r : List UInt8) (hc : 48 ≤ c.toNat ∧ c.toNat ≤ 57) (u : Nat) (h : Lib.parseUintM M (acc * 10 + (c.toNat - 48)) r ≠ .ok u) : Lib.parseUintM M acc (c :: r) ≠ .ok u := by
  conv => lhs; unfold Lib.parseUintM
  rw [if_pos hc]
  by_cases h1 : 1844674407370955162 ≤ acc
  · rw [if_pos h1]; intro h; cases h
  · rw [if_neg h1]
    by_cases h2 : M < acc * 10 + (c.toNat - 48)
    · rw [if_pos h2]; intro h; cases h
    · rw [if_neg h2]; exact h

theorem small_acc {M acc : Nat} (hM : M < 18446744073709551616) (h4 : (acc + 1) * 10 ≤ M + 1) : ¬ 1844674407370955162 ≤ acc := by omega
theorem small_sum {M acc d : Nat} (hd : d ≤ 9) (h4 : (acc + 1) * 10 ≤ M + 1) : ¬ M < acc * 10 + d := by omega

theorem parse_digits (M : Nat) (hM : ∀ acc, (acc + 1) * 10 ≤ M + 1 → ¬ 1844674407370955162 ≤ acc) (l : List UInt8) (hd : l.all dig = true) : ∀ acc, (acc + 1) * 10 ^ l.length ≤ M + 1 → Lib.parseUintM M acc l = .ok (val acc l) := by
  induction l with
  | nil => intro acc _; exact p_nil M acc
  | cons c r ih =>
    intro acc h
    simp only [List.all_cons, Bool.and_eq_true] at hd
    have hc := hd.1
    simp [dig] at hc
    simp only [List.length_cons] at h
    rw [Nat.pow_succ, mul_shift] at h
    have hp : 1 ≤ 10 ^ r.length := Nat.one_le_pow _ _ (by omega)
    have h2 : (acc + 1) * 10 ≤ ((acc + 1) * 10) * 10 ^ r.length := Nat.le_mul_of_pos_right _ hp
    have h3 : (acc * 10 + (c.toNat - 48) + 1) * 10 ^ r.length ≤ ((acc + 1) * 10) * 10 ^ r.length := Nat.mul_le_mul_right _ (by omega)
    have h4 : (acc + 1) * 10 ≤ M + 1 := Nat.le_trans h2 h
    rw [p_cons M acc c r hc (hM acc h4) (small_sum (by omega) h4)]
    exact ih hd.2 _ (Nat.le_trans h3 h)

theorem parse_no (M : Nat) (l : List UInt8) (hd : l.all dig = false) : ∀ acc u, Lib.parseUintM M acc l ≠ .ok u := by
  induction l with
  | nil => simp at hd
  | cons c r ih =>
    intro acc u
    by_cases hc : 48 ≤ c.toNat ∧ c.toNat ≤ 57
    · have hr : r.all dig = false := by
        simp only [List.all_cons, Bool.and_eq_false_iff] at hd
        rcases hd with h | h
        · simp [dig] at h; omega
        · exact h
      exact p_more M acc c r hc u (ih hr _ u)
    · exact p_bad M acc c r hc u

theorem max64 : 2 ^ 64 - 1 < 18446744073709551616 := by decide
theorem pow19 : 10 ^ 19 ≤ 2 ^ 64 - 1 + 1 := by decide

theorem pB_nil (u : Nat) : Lib.parseUintB 64 [] ≠ .ok u := by
  unfold Lib.parseUintB
  rw [if_pos rfl]
  intro h; cases h
theorem pB_cons (l : List UInt8) (h : ¬ l = []) : Lib.parseUintB 64 l = Lib.parseUintM (2 ^ 64 - 1) 0 l := by unfold Lib.parseUintB; exact if_neg h

theorem parse_small (l : List UInt8) (hd : digitsB l = true) (hl : l.length ≤ 19) : Lib.parseUintB 64 l = .ok (val 0 l) := by
  simp only [digitsB, Bool.and_eq_true, Bool.not_eq_true', List.isEmpty_eq_false_iff] at hd
  rw [pB_cons l hd.2]
  refine parse_digits _ (fun acc h => small_acc max64 h) _ hd.1 0 ?_
  rw [Nat.zero_add, Nat.one_mul]
  exact Nat.le_trans (Nat.pow_le_pow_right (by omega) hl) pow19

theorem parse_text (l : List UInt8) (hd : digitsB l = false) : ∀ u, Lib.parseUintB 64 l ≠ .ok u := by
  intro u
  by_cases hne : l = []
  · subst hne
    exact pB_nil u
  · rw [pB_cons l hne]
    apply parse_no
    cases h : l.all dig with
    | false => rfl
    | true =>
      unfold digitsB at hd
      rw [h] at hd
      cases l with
      | nil => exact absurd rfl hne
      | cons c r => simp at hd

theorem less_nil : Op.bytesLess [] [] = false := by unfold Op.bytesLess; exact Eq.refl _
theorem less_cons (a b : UInt8) (x y : List UInt8) : Op.bytesLess (a :: x) (b :: y) = (decide (a < b) || (a == b && Op.bytesLess x y)) := by
  conv => lhs; unfold Op.bytesLess
theorem v_nil (acc : Nat) : val acc [] = acc := by unfold val; exact Eq.refl _
theorem v_cons (acc : Nat) (c : UInt8) (r : List UInt8) : val acc (c :: r) = val (acc * 10 + (c.toNat - 48)) r := by
  conv => lhs; unfold val

/-- of one length the greater number is the greater text -/
theorem val_less (l : List UInt8) : ∀ (m : List UInt8) (acc acc' : Nat), l.length = m.length → l.all dig = true → m.all dig = true →
    (acc = acc' → (val acc l < val acc' m ↔ Op.bytesLess l m = true)) ∧ (acc < acc' → val acc l < val acc' m) := by
  induction l with
  | nil =>
    intro m acc acc' h _ _
    match m, h with
    | [], _ =>
      rw [v_nil, v_nil, less_nil]
      exact ⟨fun e => ⟨fun h => absurd h (by omega), fun h => absurd h (by decide)⟩, fun h => h⟩
  | cons c r ih =>
    intro m acc acc' h hd hd'
    match m, h with
    | c' :: r', h =>
      simp only [List.all_cons, Bool.and_eq_true] at hd hd'
      have hc := hd.1
      have hc' := hd'.1
      simp [dig] at hc hc'
      have hl : r.length = r'.length := by simpa using h
      rw [v_cons, v_cons, less_cons]
      constructor
      · intro e
        subst e
        simp only [Bool.or_eq_true, Bool.and_eq_true, decide_eq_true_eq, beq_iff_eq]
        by_cases h1 : c.toNat < c'.toNat
        · have := (ih r' (acc * 10 + (c.toNat - 48)) (acc * 10 + (c'.toNat - 48)) hl hd.2 hd'.2).2 (by omega)
          exact ⟨fun _ => .inl (UInt8.lt_iff_toNat_lt.2 h1), fun _ => this⟩
        · by_cases h2 : c'.toNat < c.toNat
          · have h3 := (ih r' (acc * 10 + (c'.toNat - 48)) (acc * 10 + (c.toNat - 48)))
            have h4 : val (acc * 10 + (c'.toNat - 48)) r' < val (acc * 10 + (c.toNat - 48)) r := by
              have a1 := val_hi r' hd'.2 (acc * 10 + (c'.toNat - 48))
              have a2 := val_lo r (acc * 10 + (c.toNat - 48))
              have a3 : (acc * 10 + (c'.toNat - 48) + 1) * 10 ^ r'.length ≤ (acc * 10 + (c.toNat - 48)) * 10 ^ r.length := by
                rw [hl]; exact Nat.mul_le_mul_right _ (by omega)
              omega
            constructor
            · intro h5; omega
            · rintro (h5 | ⟨h5, _⟩)
              · exact absurd (UInt8.lt_iff_toNat_lt.1 h5) h1
              · subst h5; omega
          · have e : c = c' := UInt8.toNat_inj.1 (by omega)
            subst e
            have := (ih r' (acc * 10 + (c.toNat - 48)) (acc * 10 + (c.toNat - 48)) hl hd.2 hd'.2).1 rfl
            rw [this]
            constructor
            · intro h5; exact .inr ⟨rfl, h5⟩
            · rintro (h5 | ⟨_, h5⟩)
              · exact absurd (UInt8.lt_iff_toNat_lt.1 h5) (by omega)
              · exact h5
      · intro e
        exact (ih r' _ _ hl hd.2 hd'.2).2 (by omega)

/-- without a leading zero the longer number is the greater -/
theorem val_longer (l m : List UInt8) (hl : l.all dig = true) (hm : m.all dig = true) (h : l.length < m.length) (hz : 1 < m.length → m.head? ≠ some 48) : val 0 l < val 0 m ∨ l = [] := by
  match m, h with
  | c :: r, h =>
    by_cases h0 : l = []
    · exact .inr h0
    left
    have hlen : 1 ≤ l.length := by cases l with | nil => exact absurd rfl h0 | cons a b => simp
    have hc : 49 ≤ c.toNat := by
      simp only [List.all_cons, Bool.and_eq_true] at hm
      have := hm.1
      simp [dig] at this
      have h2 := hz (by omega)
      simp only [List.head?_cons, ne_eq, Option.some.injEq] at h2
      have h3 : c.toNat ≠ 48 := fun h => h2 (UInt8.toNat_inj.1 h)
      omega
    have a1 := val_hi l hl 0
    have a2 := val_lo r (0 * 10 + (c.toNat - 48))
    simp only [List.length_cons] at h
    have a3 : 10 ^ l.length ≤ 10 ^ r.length := Nat.pow_le_pow_right (by omega) (by omega)
    have a4 : 1 * 10 ^ r.length ≤ (0 * 10 + (c.toNat - 48)) * 10 ^ r.length := Nat.mul_le_mul_right _ (by omega)
    rw [v_cons]
    omega

/-- the pieces between the dots -/
def split : List UInt8 → List (List UInt8)
  | [] => [[]]
  | c :: r => if c.toNat = 46 then [] :: split r else match split r with
    | [] => [[c]]
    | x :: xs => (c :: x) :: xs
/-- a piece ahead of the first -/
def glue (p : List UInt8) : List (List UInt8) → List (List UInt8)
  | [] => [p]
  | x :: xs => (p ++ x) :: xs

theorem split_ne (l : List UInt8) : split l ≠ [] := by
  cases l with
  | nil => simp [split]
  | cons c r =>
    unfold split
    split
    · simp
    · split <;> simp
theorem split_other (c : UInt8) (r : List UInt8) (h : ¬ c.toNat = 46) : split (c :: r) = glue [c] (split r) := by
  conv => lhs; unfold split
  rw [if_neg h]
  cases split r with
  | nil => rfl
  | cons x xs => rfl
theorem split_at (c : UInt8) (r : List UInt8) (h : c.toNat = 46) : split (c :: r) = [] :: split r := by
  conv => lhs; unfold split
  rw [if_pos h]
theorem glue_glue (p q : List UInt8) (L : List (List UInt8)) : glue (p ++ q) L = glue p (glue q L) := by
  cases L with
  | nil => rfl
  | cons x xs => simp [glue]
theorem glue_nil (L : List (List UInt8)) (h : L ≠ []) : glue [] L = L := by
  cases L with
  | nil => exact absurd rfl h
  | cons x xs => rfl

/-- no dot: one piece -/
theorem split_one (l : List UInt8) (h : ∀ c ∈ l, ¬ c.toNat = 46) : split l = [l] := by
  induction l with
  | nil => rfl
  | cons c r ih =>
    rw [split_other c r (h c (by simp)), ih (fun d hd => h d (by simp [hd]))]
    rfl

/-- two texts with a dot between them -/
theorem split_dot (l r : List UInt8) : split (l ++ UInt8.ofNat 46 :: r) = split l ++ split r := by
  induction l with
  | nil =>
    show split (UInt8.ofNat 46 :: r) = [[]] ++ split r
    rw [split_at _ _ (by decide)]; rfl
  | cons c t ih =>
    by_cases h : c.toNat = 46
    · show split (c :: (t ++ UInt8.ofNat 46 :: r)) = _
      rw [split_at c _ h, split_at c t h, ih]; rfl
    · show split (c :: (t ++ UInt8.ofNat 46 :: r)) = _
      rw [split_other c _ h, split_other c t h, ih]
      cases hs : split t with
      | nil => exact absurd hs (split_ne t)
      | cons x xs => rfl

theorem idn_not_dot {c : UInt8} (h : idn c = true) : ¬ c.toNat = 46 := by
  intro e
  simp [idn, dig, e] at h

/-- one piece of a prerelease is well formed -/
def okId (l : List UInt8) : Bool := identB l && !(digitsB l && decide (1 < l.length) && decide (l.head? = some 48))
/-- its number is small -/
def smId (l : List UInt8) : Bool := !(digitsB l && decide (19 < l.length))
def validPreB (l : List UInt8) : Bool := (split l).all okId
def smallPreB (l : List UInt8) : Bool := (split l).all smId

/-- an identifier of a prerelease with a small number -/
def goodId (l : List UInt8) : Prop := identB l = true ∧ (digitsB l = true → l.length ≤ 19 ∧ (1 < l.length → l.head? ≠ some 48))

theorem good_of {l : List UInt8} (h1 : okId l = true) (h2 : smId l = true) : goodId l := by
  simp only [okId, Bool.and_eq_true, Bool.not_eq_true', Bool.and_eq_false_iff, decide_eq_false_iff_not] at h1
  simp only [smId, Bool.not_eq_true', Bool.and_eq_false_iff, decide_eq_false_iff_not] at h2
  refine ⟨h1.1, fun hd => ⟨?_, fun h3 => ?_⟩⟩
  · rcases h2 with h | h
    · rw [hd] at h; cases h
    · omega
  · rcases h1.2 with (h | h) | h
    · rw [hd] at h; cases h
    · exact absurd h3 h
    · exact h

/-- comparing two identifiers by clause 11 -/
def partS (a b : List UInt8) : Int :=
  if a = b then 0
  else if digitsB a = true ∧ digitsB b = true ∧ a.length ≠ b.length then (if a.length < b.length then -1 else 1)
  else if digitsB a ≠ digitsB b then (if digitsB a then -1 else 1)
  else if Op.bytesLess a b then -1 else 1

end Go.Proofs.YtlooelfkkbgmhaaDoor.Txt

namespace Go.Proofs.YtlooelfkkbgmhaaDoor
open Go Txt

theorem digits_all {l : List UInt8} (h : digitsB l = true) : l.all dig = true ∧ l ≠ [] := by
  unfold digitsB at h
  simpa using h

theorem bytesLess_asymm (a : List UInt8) : ∀ b, Op.bytesLess a b = true → Op.bytesLess b a = true → False := by
  induction a with
  | nil => intro b h h2; cases b <;> simp [Op.bytesLess] at h2
  | cons x r ih =>
    intro b h h2
    cases b with
    | nil => simp [Op.bytesLess] at h
    | cons y s =>
      rw [less_cons] at h h2
      simp only [Bool.or_eq_true, decide_eq_true_eq, Bool.and_eq_true, beq_iff_eq] at h h2
      rcases h with h | ⟨rfl, h⟩
      · rcases h2 with h2 | ⟨rfl, h2⟩
        · exact absurd h (by have := UInt8.lt_asymm h2; exact this)
        · exact UInt8.lt_irrefl _ h
      · rcases h2 with h2 | ⟨_, h2⟩
        · exact UInt8.lt_irrefl _ h2
        · exact ih s h h2

theorem bytesLess_total (a : List UInt8) : ∀ b, a ≠ b → Op.bytesLess a b = false → Op.bytesLess b a = true := by
  induction a with
  | nil =>
    intro b h h2
    cases b with
    | nil => exact absurd rfl h
    | cons y s => simp [Op.bytesLess] at h2
  | cons x r ih =>
    intro b h h2
    cases b with
    | nil => simp [Op.bytesLess]
    | cons y s =>
      rw [less_cons] at h2 ⊢
      simp only [Bool.or_eq_false_iff, decide_eq_false_iff_not, Bool.and_eq_false_iff] at h2
      simp only [Bool.or_eq_true, decide_eq_true_eq, Bool.and_eq_true, beq_iff_eq]
      by_cases hxy : x = y
      · subst hxy
        have : Op.bytesLess r s = false := by
          rcases h2.2 with h3 | h3
          · simp at h3
          · exact h3
        exact .inr ⟨rfl, ih s (by intro e; exact h (by rw [e])) this⟩
      · left
        have h3 : ¬ x.toNat < y.toNat := fun h4 => h2.1 (UInt8.lt_iff_toNat_lt.2 h4)
        have h4 : x.toNat ≠ y.toNat := fun h4 => hxy (UInt8.toNat_inj.1 h4)
        exact UInt8.lt_iff_toNat_lt.2 (by omega)

theorem val_order {a b : List UInt8} (ha : goodId a) (hb : goodId b) (da : digitsB a = true) (db : digitsB b = true) (hne : a ≠ b) :
    (if val 0 b < val 0 a then (1 : Int) else -1) = partS a b := by
  obtain ⟨aa, a0⟩ := digits_all da
  obtain ⟨ab, b0⟩ := digits_all db
  by_cases hl : a.length = b.length
  · have e : partS a b = if Op.bytesLess a b = true then -1 else 1 := by
      unfold partS
      rw [if_neg hne, if_neg (fun h => h.2.2 hl), if_neg (fun h => h (by rw [da, db]))]
    rw [e]
    have hv := (val_less b a 0 0 hl.symm ab aa).1 rfl
    by_cases h : Op.bytesLess a b = true
    · have h5 : ¬ val 0 b < val 0 a := fun h2 => bytesLess_asymm a b h (hv.1 h2)
      rw [if_pos h, if_neg h5]
    · have h5 : val 0 b < val 0 a := hv.2 (bytesLess_total a b hne (by simpa using h))
      rw [if_neg h, if_pos h5]
  · have e : partS a b = if a.length < b.length then -1 else 1 := by
      unfold partS
      rw [if_neg hne, if_pos ⟨da, db, hl⟩]
    rw [e]
    by_cases h : a.length < b.length
    · have h5 : ¬ val 0 b < val 0 a := by
        rcases val_longer a b aa ab h ((hb.2 db).2) with h2 | h2
        · omega
        · exact absurd h2 a0
      rw [if_pos h, if_neg h5]
    · have h5 : val 0 b < val 0 a := by
        rcases val_longer b a ab aa (by omega) ((ha.2 da).2) with h2 | h2
        · exact h2
        · exact absurd h2 b0
      rw [if_neg h, if_pos h5]

theorem partF_eq {a b : List UInt8} (ha : goodId a) (hb : goodId b) : partF a b = partS a b := by
  have na : a ≠ [] := by intro h; have := ha.1; rw [h] at this; simp [identB] at this
  have nb : b ≠ [] := by intro h; have := hb.1; rw [h] at this; simp [identB] at this
  unfold partF
  by_cases hne : a = b
  · rw [if_pos hne]; unfold partS; rw [if_pos hne]
  rw [if_neg hne, if_neg na, if_neg nb]
  by_cases da : digitsB a = true
  · by_cases db : digitsB b = true
    · rw [parse_small b db (hb.2 db).1, parse_small a da (ha.2 da).1]
      exact val_order ha hb da db hne
    · rw [parse_small a da (ha.2 da).1]
      have hp := parse_text b (by simpa using db)
      have e : partS a b = -1 := by
        unfold partS
        rw [if_neg hne, if_neg (fun h => db h.2.1), if_pos (by rw [da]; intro h; exact db h.symm), if_pos da]
      rw [e]
      rcases h : Lib.parseUintB 64 b with u | _ | _
      · exact absurd h (hp u)
      · rfl
      · rfl
  · have hp := parse_text a (by simpa using da)
    by_cases db : digitsB b = true
    · rw [parse_small b db (hb.2 db).1]
      have e : partS a b = 1 := by
        unfold partS
        rw [if_neg hne, if_neg (fun h => da h.1), if_pos (by rw [db]; exact da), if_neg da]
      rw [e]
      rcases h : Lib.parseUintB 64 a with u | _ | _
      · exact absurd h (hp u)
      · rfl
      · rfl
    · have hq := parse_text b (by simpa using db)
      have e : partS a b = if Op.bytesLess a b then -1 else 1 := by
        unfold partS
        rw [if_neg hne, if_neg (fun h => da h.1), if_neg (by simp only [ne_eq, Decidable.not_not]; rw [Bool.eq_iff_iff]; simp [da, db])]
      rw [e]
      rcases h : Lib.parseUintB 64 a with u | _ | _
      · exact absurd h (hp u)
      ·
        rcases h2 : Lib.parseUintB 64 b with u | _ | _
        · exact absurd h2 (hq u)
        · rfl
        · rfl
      ·
        rcases h2 : Lib.parseUintB 64 b with u | _ | _
        · exact absurd h2 (hq u)
        · rfl
        · rfl

end Go.Proofs.YtlooelfkkbgmhaaDoor

namespace Go.Proofs.YtlooelfkkbgmhaaDoor
open Go Txt Go.RowKit QS Go.Proofs.YtlooelfkkbgmhaaDoorW.PrintWords Go.Proofs.YtlooelfkkbgmhaaDoorW.PrintLast

theorem wr (n : Int) (h0 : 0 ≤ n) (h1 : n ≤ 9223372036854775807) : wrap64 n = n := IntWalk.wrap64_in n ⟨by omega, h1⟩
theorem wr_succ (i n : Nat) (h : i < n) (hn : n ≤ 9223372036854775807) : wrap64 ((i : Int) + 1) = ((i + 1 : Nat) : Int) := by rw [wr _ (by omega) (by omega)]; rfl

theorem len_size (a : ByteArray) : a.toList.length = a.size := by rw [ByteArray.toList_eq]; rfl

theorem bt_get (a : ByteArray) (i : Nat) (h : i < a.size) : bt a (i : Int) = (((a.toList[i]'(by rw [len_size]; exact h)).toNat : Nat) : Int) := by
  unfold bt
  rw [dif_pos (show (i : Int).toNat < a.size by simpa using h)]
  congr 2
  simp only [ByteArray.toList_eq]
  rfl

theorem drop_at (a : ByteArray) (i : Nat) (h : i < a.size) : a.toList.drop i = (a.toList[i]'(by rw [len_size]; exact h)) :: a.toList.drop (i + 1) :=
  List.drop_eq_getElem_cons _

theorem isDigit_eq (c : UInt8) : spec_isDigit.f (c.toNat : Int) = some (dig c) := by
  unfold spec_isDigit.f dig
  by_cases h : 48 ≤ c.toNat
  · rw [if_pos (by omega), decide_eq_true h, Bool.true_and]
    congr 1
    rw [Bool.eq_iff_iff]; simp; omega
  · rw [if_neg (by omega), decide_eq_false h, Bool.false_and]

theorem isIdent_eq (c : UInt8) : spec_isIdent.f (c.toNat : Int) = some (idn c) := by
  unfold spec_isIdent.f idn
  rw [isDigit_eq, Option.bind_some]
  by_cases hd : dig c = true
  · rw [if_pos hd, hd]; simp
  · rw [if_neg hd]
    have hd' : dig c = false := by simpa using hd
    rw [hd', Bool.false_or]
    have e45 : ((c.toNat : Int) == 45) = decide (c.toNat = 45) := by rw [Bool.eq_iff_iff]; simp; omega
    rw [e45]
    by_cases h1 : (65 : Int) ≤ c.toNat <;> by_cases h2 : (c.toNat : Int) ≤ 90 <;> by_cases h3 : (97 : Int) ≤ c.toNat <;> by_cases h4 : (c.toNat : Int) ≤ 122 <;> simp [h1, h2, h3, h4] <;> omega

theorem digits_loop (a : ByteArray) (hs : a.size ≤ 9223372036854775807) (d : Nat) : ∀ i : Nat, i + d = a.size →
    Ev (fun k => spec_Digits.l0 k a (i : Int)) ((a.toList.drop i).all dig && !a.toList.isEmpty) := by
  induction d with
  | zero =>
    intro i hi
    have e : a.toList.drop i = [] := List.drop_eq_nil_of_le (by rw [len_size]; omega)
    rw [e]
    refine Ev.step (f := fun _ => some _) (fun k => ?_) (Ev.now _)
    simp only [spec_Digits.l0]
    rw [if_neg (by omega)]
    cases a.toList <;> rfl
  | succ d ih =>
    intro i hi
    have hlt : i < a.size := by omega
    rw [drop_at a i hlt, List.all_cons]
    by_cases hd : dig (a.toList[i]'(by rw [len_size]; exact hlt)) = true
    · refine Ev.step (f := fun k => spec_Digits.l0 k a ((i + 1 : Nat) : Int)) (fun k => ?_) ?_
      · simp only [spec_Digits.l0]
        rw [if_pos (by omega), if_pos (by omega), bt_get a i hlt, isDigit_eq, Option.bind_some, if_pos hd, wr_succ i a.size hlt hs]
      · rw [hd, Bool.true_and]; exact ih (i + 1) (by omega)
    · refine Ev.step (f := fun _ => some false) (fun k => ?_) ?_
      · simp only [spec_Digits.l0]
        rw [if_pos (by omega), if_pos (by omega), bt_get a i hlt, isDigit_eq, Option.bind_some, if_neg hd]
      · have : dig (a.toList[i]'(by rw [len_size]; exact hlt)) = false := by simpa using hd
        rw [this, Bool.false_and, Bool.false_and]; exact Ev.now _

theorem ev_digits (a : ByteArray) (hs : a.size ≤ 9223372036854775807) : Ev (fun k => spec_Digits.f k a) (digitsB a.toList) := digits_loop a hs a.size 0 (by omega)

theorem ident_loop (a : ByteArray) (hs : a.size ≤ 9223372036854775807) (d : Nat) : ∀ i : Nat, i + d = a.size →
    Ev (fun k => spec_ValidIdent.l0 k a (i : Int)) ((a.toList.drop i).all idn && !a.toList.isEmpty) := by
  induction d with
  | zero =>
    intro i hi
    have e : a.toList.drop i = [] := List.drop_eq_nil_of_le (by rw [len_size]; omega)
    rw [e]
    refine Ev.step (f := fun _ => some _) (fun k => ?_) (Ev.now _)
    simp only [spec_ValidIdent.l0]
    rw [if_neg (by omega)]
    cases a.toList <;> rfl
  | succ d ih =>
    intro i hi
    have hlt : i < a.size := by omega
    rw [drop_at a i hlt, List.all_cons]
    by_cases hd : idn (a.toList[i]'(by rw [len_size]; exact hlt)) = true
    · refine Ev.step (f := fun k => spec_ValidIdent.l0 k a ((i + 1 : Nat) : Int)) (fun k => ?_) ?_
      · simp only [spec_ValidIdent.l0]
        rw [if_pos (by omega), if_pos (by omega), bt_get a i hlt, isIdent_eq, Option.bind_some, if_pos hd, wr_succ i a.size hlt hs]
      · rw [hd, Bool.true_and]; exact ih (i + 1) (by omega)
    · refine Ev.step (f := fun _ => some false) (fun k => ?_) ?_
      · simp only [spec_ValidIdent.l0]
        rw [if_pos (by omega), if_pos (by omega), bt_get a i hlt, isIdent_eq, Option.bind_some, if_neg hd]
      · have : idn (a.toList[i]'(by rw [len_size]; exact hlt)) = false := by simpa using hd
        rw [this, Bool.false_and, Bool.false_and]; exact Ev.now _

theorem ev_ident (a : ByteArray) (hs : a.size ≤ 9223372036854775807) : Ev (fun k => spec_ValidIdent.f k a) (identB a.toList) := ident_loop a hs a.size 0 (by omega)


theorem extract_list (a : ByteArray) (f t : Nat) : (a.extract f t).toList = (a.toList.take t).drop f := by
  rw [ByteArray.toList_eq, ByteArray.toList_eq, Lib.extract_data, List.drop_take]

theorem piece_next (l : List UInt8) (f i : Nat) (hf : f ≤ i) (h : i < l.length) : (l.take (i + 1)).drop f = (l.take i).drop f ++ [l[i]] := by
  rw [List.take_succ_eq_append_getElem h, List.drop_append_of_le_length (by rw [List.length_take]; omega)]

theorem idents_loop (a : ByteArray) (hs : a.size ≤ 2147483647) (d : Nat) : ∀ (i f : Nat) (acc : List ByteArray), i + d = a.size → f ≤ i → acc.length ≤ i →
    ∃ L, Ev (fun k => spec_Identifiers.l0 k a acc (f : Int) (i : Int)) L ∧ L.map (·.toList) = acc.map (·.toList) ++ glue ((a.toList.take i).drop f) (split (a.toList.drop i)) := by
  induction d with
  | zero =>
    intro i f acc hi hf hacc
    have e : a.toList.drop i = [] := List.drop_eq_nil_of_le (by rw [len_size]; omega)
    refine ⟨acc ++ [a.extract f a.size], Ev.step (f := fun _ => some _) (fun k => ?_) (Ev.now _), ?_⟩
    · simp only [spec_Identifiers.l0]
      rw [if_neg (by omega), if_pos (by omega), if_pos (by omega), if_pos (by omega)]
      simp
    · rw [e]
      have : i = a.size := by omega
      subst this
      simp [split, glue, extract_list]
  | succ d ih =>
    intro i f acc hi hf hacc
    have hlt : i < a.size := by omega
    have hll : i < a.toList.length := by rw [len_size]; exact hlt
    have hn := wr_succ i a.size hlt (by omega)
    rw [drop_at a i hlt]
    by_cases hd : (a.toList[i]'hll).toNat = 46
    · obtain ⟨L, hL, hm⟩ := ih (i + 1) (i + 1) (acc ++ [a.extract f i]) (by omega) (by omega) (by simp; omega)
      refine ⟨L, Ev.step (fun k => ?_) hL, ?_⟩
      · simp only [spec_Identifiers.l0]
        rw [if_pos (by omega), if_pos (by omega), bt_get a i hlt, if_pos (by omega), if_pos (by omega), if_pos (by omega), if_pos (by omega), if_pos (by omega), hn]
        simp
      · rw [hm]
        rw [split_at _ _ hd]
        have : ((a.toList.take (i + 1)).drop (i + 1)) = [] := by rw [List.drop_eq_nil_iff]; simp; omega
        rw [this, glue_nil _ (split_ne _)]
        simp only [List.map_append, List.map_cons, List.map_nil, extract_list, glue, List.append_nil, List.append_assoc, List.cons_append, List.nil_append]
    · obtain ⟨L, hL, hm⟩ := ih (i + 1) f acc (by omega) (by omega) (by omega)
      refine ⟨L, Ev.step (fun k => ?_) hL, ?_⟩
      · simp only [spec_Identifiers.l0]
        rw [if_pos (by omega), if_pos (by omega), bt_get a i hlt, if_neg (by omega), hn]
      · rw [hm, split_other _ _ hd, piece_next a.toList f i hf hll, glue_glue]

theorem ev_idents (a : ByteArray) (hs : a.size ≤ 2147483647) : ∃ L, Ev (fun k => spec_Identifiers.f k a) L ∧ L.map (·.toList) = split a.toList := by
  obtain ⟨L, h1, h2⟩ := idents_loop a hs a.size 0 0 [] (by omega) (by omega) (by simp)
  refine ⟨L, h1, ?_⟩
  rw [h2]
  simp [glue_nil _ (split_ne _)]

theorem glue_len (p : List UInt8) (L : List (List UInt8)) (n : Nat) (h : ∀ x ∈ L, x.length ≤ n) : ∀ x ∈ glue p L, x.length ≤ p.length + n := by
  cases L with
  | nil => intro x hx; simp [glue] at hx; subst hx; omega
  | cons y ys =>
    intro x hx
    simp only [glue, List.mem_cons] at hx
    rcases hx with rfl | hx
    · have := h y (by simp); simp; omega
    · have := h x (by simp [hx]); omega

theorem split_len (l : List UInt8) : ∀ x ∈ split l, x.length ≤ l.length := by
  induction l with
  | nil => intro x hx; simp [split] at hx; subst hx; simp
  | cons c r ih =>
    by_cases h : c.toNat = 46
    · intro x hx
      rw [split_at c r h] at hx
      simp only [List.mem_cons] at hx
      rcases hx with rfl | hx
      · simp
      · have := ih x hx; simp; omega
    · rw [split_other c r h]
      intro x hx
      have := glue_len [c] (split r) r.length ih x hx
      simp at this ⊢
      omega

theorem split_count (l : List UInt8) : (split l).length ≤ l.length + 1 := by
  induction l with
  | nil => simp [split]
  | cons c r ih =>
    by_cases h : c.toNat = 46
    · rw [split_at c r h]; simp; omega
    · rw [split_other c r h]
      have h2 := split_ne r
      cases hs : split r with
      | nil => exact absurd hs h2
      | cons x xs => rw [hs] at ih; simp [glue] at ih ⊢; omega

theorem rdOf_get (L : List ByteArray) (j : Nat) (h : j < L.length) : rdOf ByteArray.empty L (j : Int) = L[j] := by
  unfold rdOf
  rw [List.getD_eq_getElem?_getD, Int.toNat_natCast, List.getElem?_eq_getElem h, Option.getD_some]

theorem head_get (a : ByteArray) (h : 0 < a.size) : (bt a 0 = 48) ↔ a.toList.head? = some 48 := by
  have hl : 0 < a.toList.length := by rw [len_size]; exact h
  have e := bt_get a 0 h
  rw [show ((0 : Nat) : Int) = 0 from rfl] at e
  rw [e]
  have e2 : a.toList.head? = some (a.toList[0]'hl) := by
    rw [List.head?_eq_getElem?, List.getElem?_eq_getElem hl]
  rw [e2, Option.some.injEq]
  constructor
  · intro h; exact UInt8.toNat_inj.1 (by simpa using Int.ofNat.inj h)
  · intro h; rw [h]; rfl

theorem pre_loop (L : List ByteArray) (hL : ∀ x ∈ L, x.size ≤ 2147483647) (hn : L.length ≤ 4294967296) (d : Nat) : ∀ j : Nat, j + d = L.length →
    Ev (fun k => spec_ValidPre.l0 k L (L.length : Int) (j : Int)) ((L.drop j).all fun x => okId x.toList) := by
  induction d with
  | zero =>
    intro j hj
    rw [List.drop_eq_nil_of_le (by omega)]
    refine Ev.step (f := fun _ => some true) (fun k => ?_) (Ev.now _)
    simp only [spec_ValidPre.l0]
    rw [if_neg (by omega)]
  | succ d ih =>
    intro j hj
    have hlt : j < L.length := by omega
    have hx := hL _ (List.getElem_mem hlt)
    rw [List.drop_eq_getElem_cons hlt, List.all_cons]
    have hnext := ih (j + 1) (by omega)
    have hw : wrap64 ((j : Int) + 1) = ((j + 1 : Nat) : Int) := wr_succ j L.length hlt (by omega)
    refine Ev.step (f := fun k => (spec_ValidIdent.f k L[j]).bind fun t115 => (if t115 = true then ((spec_Digits.f k L[j]).bind fun t116 => (if t116 = true then (if (L[j].size : Int) > 1 then (if 0 < (L[j].size : Int) then (if (bt L[j] 0) = 48 then (some false) else (spec_ValidPre.l0 k L (L.length : Int) ((j + 1 : Nat) : Int))) else (none)) else (spec_ValidPre.l0 k L (L.length : Int) ((j + 1 : Nat) : Int))) else (spec_ValidPre.l0 k L (L.length : Int) ((j + 1 : Nat) : Int)))) else (some false))) (fun k => ?_) ?_
    · simp only [spec_ValidPre.l0]
      rw [if_pos (by omega), if_pos (by omega), if_pos (by omega), rdOf_get L j hlt, hw]
    refine Ev.bind (ev_ident L[j] (by omega)) ?_
    by_cases hi : identB L[j].toList = true
    · simp only [hi, if_true]
      refine Ev.bind (ev_digits L[j] (by omega)) ?_
      by_cases hd : digitsB L[j].toList = true
      · simp only [hd, if_true]
        by_cases h1 : (L[j].size : Int) > 1
        · by_cases h2 : bt L[j] 0 = 48
          · refine Ev.congr (f := fun _ => some false) (fun k => ?_) ?_
            · rw [if_pos h1, if_pos (by omega), if_pos h2]
            · have : okId L[j].toList = false := by
                unfold okId
                rw [hi, hd, decide_eq_true (show 1 < L[j].toList.length by rw [len_size]; omega), decide_eq_true ((head_get _ (by omega)).1 h2)]; rfl
              rw [this, Bool.false_and]; exact Ev.now _
          · refine Ev.congr (fun k => ?_) (r := _) (f := fun k => spec_ValidPre.l0 k L (L.length : Int) ((j + 1 : Nat) : Int)) ?_
            · rw [if_pos h1, if_pos (by omega), if_neg h2]
            · have : okId L[j].toList = true := by
                unfold okId
                rw [hi, hd, decide_eq_false (fun h => h2 ((head_get _ (by omega)).2 h))]; simp
              rw [this, Bool.true_and]; exact hnext
        · refine Ev.congr (fun k => ?_) (r := _) (f := fun k => spec_ValidPre.l0 k L (L.length : Int) ((j + 1 : Nat) : Int)) ?_
          · rw [if_neg h1]
          · have : okId L[j].toList = true := by
              unfold okId
              rw [hi, hd, decide_eq_false (show ¬ 1 < L[j].toList.length by rw [len_size]; omega)]; simp
            rw [this, Bool.true_and]; exact hnext
      · have hd' : digitsB L[j].toList = false := by simpa using hd
        simp only [hd']
        have : okId L[j].toList = true := by unfold okId; rw [hi, hd']; rfl
        rw [this, Bool.true_and]
        simpa using hnext
    · have hi' : identB L[j].toList = false := by simpa using hi
      have : okId L[j].toList = false := by unfold okId; rw [hi']; rfl
      rw [this, Bool.false_and]
      simp only [hi']
      exact Ev.now _

theorem small_loop (L : List ByteArray) (hL : ∀ x ∈ L, x.size ≤ 2147483647) (hn : L.length ≤ 4294967296) (d : Nat) : ∀ j : Nat, j + d = L.length →
    Ev (fun k => spec_SmallPre.l0 k L (L.length : Int) (j : Int)) ((L.drop j).all fun x => smId x.toList) := by
  induction d with
  | zero =>
    intro j hj
    rw [List.drop_eq_nil_of_le (by omega)]
    refine Ev.step (f := fun _ => some true) (fun k => ?_) (Ev.now _)
    simp only [spec_SmallPre.l0]
    rw [if_neg (by omega)]
  | succ d ih =>
    intro j hj
    have hlt : j < L.length := by omega
    have hx := hL _ (List.getElem_mem hlt)
    rw [List.drop_eq_getElem_cons hlt, List.all_cons]
    have hnext := ih (j + 1) (by omega)
    have hw : wrap64 ((j : Int) + 1) = ((j + 1 : Nat) : Int) := wr_succ j L.length hlt (by omega)
    refine Ev.step (f := fun k => (spec_Digits.f k L[j]).bind fun t116 => (if t116 = true then (if (L[j].size : Int) > 19 then (some false) else (spec_SmallPre.l0 k L (L.length : Int) ((j + 1 : Nat) : Int))) else (spec_SmallPre.l0 k L (L.length : Int) ((j + 1 : Nat) : Int)))) (fun k => ?_) ?_
    · simp only [spec_SmallPre.l0]
      rw [if_pos (by omega), if_pos (by omega), if_pos (by omega), rdOf_get L j hlt, hw]
    refine Ev.bind (ev_digits L[j] (by omega)) ?_
    by_cases hd : digitsB L[j].toList = true
    · simp only [hd, if_true]
      by_cases h1 : (L[j].size : Int) > 19
      · have : smId L[j].toList = false := by unfold smId; rw [hd, decide_eq_true (show 19 < L[j].toList.length by rw [len_size]; omega)]; rfl
        rw [this, Bool.false_and]
        refine Ev.congr (f := fun _ => some false) (fun k => ?_) (Ev.now _)
        rw [if_pos h1]
      · have : smId L[j].toList = true := by unfold smId; rw [hd, decide_eq_false (show ¬ 19 < L[j].toList.length by rw [len_size]; omega)]; rfl
        rw [this, Bool.true_and]
        refine Ev.congr (fun k => ?_) hnext
        rw [if_neg h1]
    · have hd' : digitsB L[j].toList = false := by simpa using hd
      have : smId L[j].toList = true := by unfold smId; rw [hd']; rfl
      rw [this, Bool.true_and]
      simp only [hd']
      simpa using hnext

theorem all_map (L : List ByteArray) (f : List UInt8 → Bool) : (L.all fun x => f x.toList) = (L.map (·.toList)).all f := by rw [List.all_map]; rfl

theorem idents_sizes {a : ByteArray} {L : List ByteArray} (hs : a.size ≤ 2147483647) (h : L.map (·.toList) = split a.toList) : (∀ x ∈ L, x.size ≤ 2147483647) ∧ L.length ≤ 4294967296 := by
  constructor
  · intro x hx
    have : x.toList ∈ split a.toList := by rw [← h]; exact List.mem_map_of_mem hx
    have := split_len _ _ this
    rw [len_size, len_size] at this
    omega
  · have h2 := split_count a.toList
    rw [← h, List.length_map, len_size] at h2
    omega

theorem ev_validPre (a : ByteArray) (hs : a.size ≤ 2147483647) : Ev (fun k => spec_ValidPre.f k a) (validPreB a.toList) := by
  obtain ⟨L, h1, h2⟩ := ev_idents a hs
  obtain ⟨hz, hc⟩ := idents_sizes hs h2
  refine Ev.bind h1 ?_
  have := pre_loop L hz hc L.length 0 (by omega)
  rw [List.drop_zero, all_map, h2] at this
  exact this

theorem ev_smallPre (a : ByteArray) (hs : a.size ≤ 2147483647) : Ev (fun k => spec_SmallPre.f k a) (smallPreB a.toList) := by
  obtain ⟨L, h1, h2⟩ := ev_idents a hs
  obtain ⟨hz, hc⟩ := idents_sizes hs h2
  refine Ev.bind h1 ?_
  have := small_loop L hz hc L.length 0 (by omega)
  rw [List.drop_zero, all_map, h2] at this
  exact this

end Go.Proofs.YtlooelfkkbgmhaaDoor

namespace Go.Proofs.YtlooelfkkbgmhaaDoor
open Go Txt Go.RowKit QS Go.Proofs.YtlooelfkkbgmhaaDoorW.PrintWords Go.Proofs.YtlooelfkkbgmhaaDoorW.PrintLast

/-- what the laws' premise says of one identifier -/
def svIdB (a : ByteArray) : Bool := decide (a.size ≤ 65536) && (identB a.toList && (validPreB a.toList && smallPreB a.toList))

theorem ident_no_dot {l : List UInt8} (h : identB l = true) : ∀ c ∈ l, ¬ c.toNat = 46 := by
  unfold identB at h
  simp only [Bool.and_eq_true, List.all_eq_true] at h
  intro c hc
  exact idn_not_dot (h.1 c hc)

theorem sv_good {a : ByteArray} (h : svIdB a = true) : a.size ≤ 65536 ∧ goodId a.toList := by
  unfold svIdB at h
  simp only [Bool.and_eq_true, decide_eq_true_eq] at h
  obtain ⟨h1, h2, h3, h4⟩ := h
  refine ⟨h1, good_of ?_ ?_⟩
  · unfold validPreB at h3; rw [split_one _ (ident_no_dot h2)] at h3; simpa using h3
  · unfold smallPreB at h4; rw [split_one _ (ident_no_dot h2)] at h4; simpa using h4

theorem u64_in (n : Nat) (h : n ≤ 281474976710656) : IntKind.u64.wrap (n : Int) = (n : Int) := by
  have e : IntKind.u64.wrap (n : Int) = (n : Int) % 18446744073709551616 := by
    unfold IntKind.wrap
    simp [IntKind.bits, IntKind.signed]
  rw [e]
  omega

theorem implPart_eq (a b : ByteArray) (ha : a.size ≤ 281474976710656) (hb : b.size ≤ 281474976710656) (ga : goodId a.toList) (gb : goodId b.toList) : impl_ComparePart.f a b = some (partS a.toList b.toList) := by
  unfold impl_ComparePart.f semver_ZZComparePart.f semver_comparePrePart.f
  rw [if_pos ⟨ha, hb⟩, Option.bind_some, Option.bind_some, partF_eq ga gb]

end Go.Proofs.YtlooelfkkbgmhaaDoor

namespace Go.Proofs.YtlooelfkkbgmhaaDoor
open Go Txt Go.RowKit QS Go.Proofs.YtlooelfkkbgmhaaDoorW.PrintWords Go.Proofs.YtlooelfkkbgmhaaDoorW.PrintLast

def dotB : ByteArray := ⟨#[46]⟩
theorem dot_size : (⟨#[46]⟩ : ByteArray).size = 1 := rfl
theorem dot_list : (⟨#[46]⟩ : ByteArray).toList = [46] := by rw [ByteArray.toList_eq]
theorem dot_nat (c : UInt8) : c.toNat = 46 ↔ c = 46 := ⟨fun h => UInt8.toNat_inj.1 (by rw [h]; rfl), fun h => by rw [h]; rfl⟩

theorem take_one (l : List UInt8) (i : Nat) (h : i < l.length) : (l.take (i + 1)).drop i = [l[i]] := by
  rw [piece_next l i i (Nat.le_refl _) h]
  have : (l.take i).drop i = [] := by rw [List.drop_eq_nil_iff, List.length_take]; omega
  rw [this]; rfl

theorem index_loop (a : ByteArray) (hs : a.size ≤ 281474976710656) (d : Nat) : ∀ i : Nat, i + d = a.size →
    ∃ r, Ev (fun k => semver_zzIndex.l0 k a (⟨#[46]⟩ : ByteArray) (i : Int)) r ∧ ((r = -1 ∧ ∀ c ∈ a.toList.drop i, ¬ c.toNat = 46) ∨ ∃ p q, a.toList.drop i = p ++ 46 :: q ∧ r = ((i + p.length : Nat) : Int) ∧ ∀ c ∈ p, ¬ c.toNat = 46) := by
  induction d with
  | zero =>
    intro i hi
    have e : a.toList.drop i = [] := List.drop_eq_nil_of_le (by rw [len_size]; omega)
    refine ⟨-1, Ev.step (f := fun _ => some _) (fun k => ?_) (Ev.now _), .inl ⟨rfl, ?_⟩⟩
    · simp only [semver_zzIndex.l0]
      rw [dot_size, wr _ (by omega) (by omega), if_neg (by omega)]
    · rw [e]; intro c hc; cases hc
  | succ d ih =>
    intro i hi
    have hlt : i < a.size := by omega
    have hll : i < a.toList.length := by rw [len_size]; exact hlt
    have hw : wrap64 ((i : Int) + ((1 : Nat) : Int)) = ((i + 1 : Nat) : Int) := by rw [wr _ (by omega) (by omega)]; rfl
    have hx : (a.extract i (i + 1)).toList = [a.toList[i]'hll] := by rw [extract_list, take_one _ _ hll]
    rw [drop_at a i hlt]
    by_cases hd : a.toList[i]'hll = 46
    · refine ⟨(i : Int), Ev.step (f := fun _ => some (i : Int)) (fun k => ?_) (Ev.now _), .inr ⟨[], a.toList.drop (i + 1), ?_, by simp, by simp⟩⟩
      · simp only [semver_zzIndex.l0]
        rw [dot_size, hw, if_pos (by omega), if_pos (by omega), if_pos (by omega), Int.toNat_natCast, Int.toNat_natCast, hx, dot_list, if_pos (by rw [hd])]
      · rw [hd]; rfl
    · obtain ⟨r, hr, h⟩ := ih (i + 1) (by omega)
      refine ⟨r, Ev.step (fun k => ?_) hr, ?_⟩
      · simp only [semver_zzIndex.l0]
        rw [dot_size, hw, if_pos (by omega), if_pos (by omega), if_pos (by omega), Int.toNat_natCast, Int.toNat_natCast, hx, dot_list, if_neg (by simpa using hd), wr_succ i a.size hlt (by omega)]
      · rcases h with ⟨rfl, h⟩ | ⟨p, q, h1, h2, h3⟩
        · refine .inl ⟨rfl, ?_⟩
          intro c hc
          rcases List.mem_cons.1 hc with rfl | hc
          · exact fun e => hd ((dot_nat _).1 e)
          · exact h c hc
        · refine .inr ⟨(a.toList[i]'hll) :: p, q, ?_, ?_, ?_⟩
          · rw [h1]; rfl
          · rw [h2]; simp only [List.length_cons]; omega
          · intro c hc
            rcases List.mem_cons.1 hc with rfl | hc
            · exact fun e => hd ((dot_nat _).1 e)
            · exact h3 c hc

theorem split_loop (n : Nat) : ∀ (a : ByteArray) (acc : List ByteArray), a.size < n → a.size ≤ 281474976710656 → acc.length + a.size < 8796093022208 →
    ∃ L, Ev (fun k => semver_zzSplit.l0 k a (⟨#[46]⟩ : ByteArray) acc) L ∧ L.map (·.toList) = acc.map (·.toList) ++ split a.toList := by
  induction n with
  | zero => intro a acc hn; omega
  | succ n ih =>
    intro a acc hn hs hacc
    obtain ⟨r, hr, h⟩ := index_loop a hs a.size 0 (by omega)
    rw [List.drop_zero] at h
    rcases h with ⟨rfl, h⟩ | ⟨p, q, h1, h2, h3⟩
    · refine ⟨acc ++ [a], Ev.step (fun k => ?_) (Ev.bind (f := fun k t103 => (if t103 < 0 then (if acc.length < 8796093022208 then (some (acc ++ [a])) else (none)) else (if 0 ≤ t103 then (if t103 ≤ (a.size : Int) then (if acc.length < 8796093022208 then (if 0 ≤ (wrap64 (t103 + ((1 : Nat) : Int))) then (if (wrap64 (t103 + ((1 : Nat) : Int))) ≤ (a.size : Int) then (semver_zzSplit.l0 k (a.extract ((wrap64 (t103 + ((1 : Nat) : Int))) : Int).toNat a.size) (⟨#[46]⟩ : ByteArray) (acc ++ [a.extract 0 (t103 : Int).toNat])) else (none)) else (none)) else (none)) else (none)) else (none)))) hr ?_), ?_⟩
      · simp only [semver_zzSplit.l0]
        rw [dot_size]; rfl
      · refine Ev.congr (fun k => ?_) (Ev.now _)
        rw [if_pos (by decide), if_pos (by omega)]
      · rw [List.map_append, split_one _ h]; rfl
    · have hlen : a.size = p.length + (q.length + 1) := by rw [← len_size, h1]; simp
      rw [Nat.zero_add] at h2
      subst h2
      have e0 : (a.extract 0 p.length).toList = p := by rw [extract_list, h1]; simp
      have e1 : (a.extract (p.length + 1) a.size).toList = q := by
        rw [extract_list, ← len_size, List.take_length, h1]
        simp
      have z1 : (a.extract (p.length + 1) a.size).size = q.length := by rw [← len_size, e1]
      have hw : wrap64 ((p.length : Int) + ((1 : Nat) : Int)) = ((p.length + 1 : Nat) : Int) := by rw [wr _ (by omega) (by omega)]; rfl
      obtain ⟨L, hL, hm⟩ := ih (a.extract (p.length + 1) a.size) (acc ++ [a.extract 0 p.length]) (by omega) (by omega) (by simp; omega)
      refine ⟨L, Ev.step (fun k => ?_) (Ev.bind (f := fun k t103 => (if t103 < 0 then (if acc.length < 8796093022208 then (some (acc ++ [a])) else (none)) else (if 0 ≤ t103 then (if t103 ≤ (a.size : Int) then (if acc.length < 8796093022208 then (if 0 ≤ (wrap64 (t103 + ((1 : Nat) : Int))) then (if (wrap64 (t103 + ((1 : Nat) : Int))) ≤ (a.size : Int) then (semver_zzSplit.l0 k (a.extract ((wrap64 (t103 + ((1 : Nat) : Int))) : Int).toNat a.size) (⟨#[46]⟩ : ByteArray) (acc ++ [a.extract 0 (t103 : Int).toNat])) else (none)) else (none)) else (none)) else (none)) else (none)))) hr ?_), ?_⟩
      · simp only [semver_zzSplit.l0]
        rw [dot_size]; rfl
      · refine Ev.congr (fun k => ?_) hL
        rw [if_neg (by omega), if_pos (by omega), if_pos (by omega), if_pos (by omega), hw, if_pos (by omega), if_pos (by omega), Int.toNat_natCast, Int.toNat_natCast]
      · rw [hm, e1, List.map_append, h1]
        have : split (p ++ 46 :: q) = split p ++ split q := split_dot p q
        rw [this, split_one p h3]
        simp [e0]

theorem ev_split (a : ByteArray) (hs : a.size ≤ 2147483647) : ∃ L, Ev (fun k => semver_zzSplit.f k a (⟨#[46]⟩ : ByteArray)) L ∧ L.map (·.toList) = split a.toList := by
  obtain ⟨L, h1, h2⟩ := split_loop (a.size + 1) a [] (by omega) (by omega) (by simp; omega)
  exact ⟨L, h1, h2⟩

/-- comparing two rows of identifiers as the code does -/
def preS : List (List UInt8) → List (List UInt8) → Int
  | [], [] => 0
  | [], b :: y => if partF [] b = 0 then preS [] y else partF [] b
  | a :: x, [] => if partF a [] = 0 then preS x [] else partF a []
  | a :: x, b :: y => if partF a b = 0 then preS x y else partF a b

theorem implPart_any (a b : ByteArray) (ha : a.size ≤ 281474976710656) (hb : b.size ≤ 281474976710656) : semver_comparePrePart.f a b = some (partF a.toList b.toList) := by
  unfold semver_comparePrePart.f
  rw [if_pos ⟨ha, hb⟩]

theorem empty_list : (⟨#[]⟩ : ByteArray).toList = [] := by rw [ByteArray.toList_eq]
theorem mapd (L : List ByteArray) (i : Nat) (h : i < L.length) : (L.map (·.toList)).drop i = L[i].toList :: (L.map (·.toList)).drop (i + 1) := by
  rw [List.drop_eq_getElem_cons (by simpa using h), List.getElem_map]
theorem mapn (L : List ByteArray) (i : Nat) (h : ¬ i < L.length) : (L.map (·.toList)).drop i = [] := by
  rw [List.drop_eq_nil_iff, List.length_map]; omega

theorem cmp_loop (A B : List ByteArray) (hA : ∀ x ∈ A, x.size ≤ 2147483647) (hB : ∀ x ∈ B, x.size ≤ 2147483647) (hnA : A.length ≤ 4294967296) (hnB : B.length ≤ 4294967296) (m : Nat) (hm : m = A.length ∨ m = B.length) (hma : A.length ≤ m) (hmb : B.length ≤ m) (d : Nat) : ∀ i : Nat, i + d = m →
    Ev (fun k => semver_comparePrerelease.l0 k A B (A.length : Int) (B.length : Int) (m : Int) (i : Int)) (preS ((A.map (·.toList)).drop i) ((B.map (·.toList)).drop i)) := by
  induction d with
  | zero =>
    intro i hi
    rw [mapn A i (by omega), mapn B i (by omega), preS]
    refine Ev.step (f := fun _ => some 0) (fun k => ?_) (Ev.now _)
    simp only [semver_comparePrerelease.l0]
    rw [if_neg (by omega)]
  | succ d ih =>
    intro i hi
    have hw : wrap64 ((i : Int) + 1) = ((i + 1 : Nat) : Int) := wr_succ i m (by omega) (by omega)
    have hn := ih (i + 1) (by omega)
    have second : ∀ (x : ByteArray), x.size ≤ 2147483647 →
        Ev (fun k => semver_comparePrerelease.j2 k A B (A.length : Int) (B.length : Int) (m : Int) (i : Int) x)
          (if h : i < B.length then (if partF x.toList B[i].toList = 0 then preS ((A.map (·.toList)).drop (i + 1)) ((B.map (·.toList)).drop (i + 1)) else partF x.toList B[i].toList)
           else (if partF x.toList [] = 0 then preS ((A.map (·.toList)).drop (i + 1)) ((B.map (·.toList)).drop (i + 1)) else partF x.toList [])) := by
      intro x hx
      by_cases hb : i < B.length
      · rw [dif_pos hb]
        have hbs := hB _ (List.getElem_mem hb)
        by_cases hz : partF x.toList B[i].toList = 0
        · rw [if_pos hz]
          refine Ev.step (fun k => ?_) hn
          simp only [semver_comparePrerelease.j2]
          rw [if_pos (by omega), if_pos (by omega), if_pos (by omega), rdOf_get B i hb, implPart_any _ _ (by omega) (by omega), Option.bind_some, if_pos hz, hw]
        · rw [if_neg hz]
          refine Ev.step (f := fun _ => some _) (fun k => ?_) (Ev.now _)
          simp only [semver_comparePrerelease.j2]
          rw [if_pos (by omega), if_pos (by omega), if_pos (by omega), rdOf_get B i hb, implPart_any _ _ (by omega) (by omega), Option.bind_some, if_neg hz]
      · rw [dif_neg hb]
        have he : semver_comparePrePart.f x (⟨#[]⟩ : ByteArray) = some (partF x.toList []) := by rw [implPart_any _ _ (by omega) (by decide), empty_list]
        by_cases hz : partF x.toList [] = 0
        · rw [if_pos hz]
          refine Ev.step (fun k => ?_) hn
          simp only [semver_comparePrerelease.j2]
          rw [if_neg (by omega), he, Option.bind_some, if_pos hz, hw]
        · rw [if_neg hz]
          refine Ev.step (f := fun _ => some _) (fun k => ?_) (Ev.now _)
          simp only [semver_comparePrerelease.j2]
          rw [if_neg (by omega), he, Option.bind_some, if_neg hz]
    by_cases ha : i < A.length
    · have h2 := second A[i] (hA _ (List.getElem_mem ha))
      have e : preS ((A.map (·.toList)).drop i) ((B.map (·.toList)).drop i) = (if h : i < B.length then (if partF A[i].toList B[i].toList = 0 then preS ((A.map (·.toList)).drop (i + 1)) ((B.map (·.toList)).drop (i + 1)) else partF A[i].toList B[i].toList)
           else (if partF A[i].toList [] = 0 then preS ((A.map (·.toList)).drop (i + 1)) ((B.map (·.toList)).drop (i + 1)) else partF A[i].toList [])) := by
        rw [mapd A i ha]
        by_cases hb : i < B.length
        · rw [mapd B i hb, dif_pos hb, preS]
        · rw [mapn B i hb, dif_neg hb, mapn B (i + 1) (by omega), preS]
      rw [e]
      refine Ev.step (fun k => ?_) h2
      simp only [semver_comparePrerelease.l0]
      rw [if_pos (by omega), if_pos (by omega), if_pos (by omega), if_pos (by omega), rdOf_get A i ha]
    · have hb : i < B.length := by omega
      have h2 := second (⟨#[]⟩ : ByteArray) (by decide)
      rw [dif_pos hb, empty_list] at h2
      have e : preS ((A.map (·.toList)).drop i) ((B.map (·.toList)).drop i) = (if partF [] B[i].toList = 0 then preS ((A.map (·.toList)).drop (i + 1)) ((B.map (·.toList)).drop (i + 1)) else partF [] B[i].toList) := by
        rw [mapn A i ha, mapd B i hb, mapn A (i + 1) (by omega), preS]
      rw [e]
      refine Ev.step (fun k => ?_) h2
      simp only [semver_comparePrerelease.l0]
      rw [if_pos (by omega), if_neg (by omega)]

theorem ev_cmpPre (a b : ByteArray) (ha : a.size ≤ 2147483647) (hb : b.size ≤ 2147483647) : Ev (fun k => semver_comparePrerelease.f k a b) (preS (split a.toList) (split b.toList)) := by
  obtain ⟨A, hA, mA⟩ := ev_split a ha
  obtain ⟨B, hB, mB⟩ := ev_split b hb
  obtain ⟨zA, cA⟩ := idents_sizes ha mA
  obtain ⟨zB, cB⟩ := idents_sizes hb mB
  refine Ev.bind hA (Ev.bind hB ?_)
  rw [← mA, ← mB]
  by_cases h : (B.length : Int) > (A.length : Int)
  · refine Ev.congr (f := fun k => semver_comparePrerelease.j0 k A B (A.length : Int) (B.length : Int) (B.length : Int)) (fun k => by rw [if_pos h]) ?_
    refine Ev.step (f := fun k => semver_comparePrerelease.l0 k A B (A.length : Int) (B.length : Int) (B.length : Int) 0) (fun k => by simp only [semver_comparePrerelease.j0]) ?_
    exact cmp_loop A B zA zB cA cB B.length (.inr rfl) (by omega) (by omega) B.length 0 (by omega)
  · refine Ev.congr (f := fun k => semver_comparePrerelease.j0 k A B (A.length : Int) (B.length : Int) (A.length : Int)) (fun k => by rw [if_neg h]) ?_
    refine Ev.step (f := fun k => semver_comparePrerelease.l0 k A B (A.length : Int) (B.length : Int) (A.length : Int) 0) (fun k => by simp only [semver_comparePrerelease.j0]) ?_
    exact cmp_loop A B zA zB cA cB A.length (.inl rfl) (by omega) (by omega) A.length 0 (by omega)

theorem ev_implPre (a b : ByteArray) (ha : a.size ≤ 2147483647) (hb : b.size ≤ 2147483647) : Ev (fun k => impl_ComparePre.f k a b) (preS (split a.toList) (split b.toList)) := by
  unfold impl_ComparePre.f semver_ZZComparePrerelease.f
  exact Ev.bind (Ev.bind (ev_cmpPre a b ha hb) (Ev.now _)) (Ev.now _)

end Go.Proofs.YtlooelfkkbgmhaaDoor

namespace Go.Proofs.YtlooelfkkbgmhaaDoor
open Go Txt Go.RowKit QS Go.Proofs.YtlooelfkkbgmhaaDoorW.PrintWords Go.Proofs.YtlooelfkkbgmhaaDoorW.PrintLast

def metaB (l : List UInt8) : Bool := (split l).all identB

/-- what a prerelease must be; what a build must be -/
def preOk (l : List UInt8) : Bool := l.isEmpty || (validPreB l && smallPreB l)
def metaOk (l : List UInt8) : Bool := l.isEmpty || metaB l

theorem empty_eq (l : List UInt8) : l.isEmpty = decide (l = []) := by cases l <;> rfl

def goodB (x : S24) : Bool := (decide (x.f3.size ≤ 65536) && decide (x.f4.size ≤ 65536)) && (preOk x.f3.toList && metaOk x.f4.toList)

theorem good_sizes {x : S24} (h : goodB x = true) : x.f3.size ≤ 65536 ∧ x.f4.size ≤ 65536 := by
  unfold goodB at h
  simp only [Bool.and_eq_true, decide_eq_true_eq] at h
  exact h.1

theorem fits_eq (x y z : Int) (s m : ByteArray) : laws_zzFits14.f x y z s m = some (decide (s.size ≤ 2147483647 ∧ m.size ≤ 2147483647)) := by
  unfold laws_zzFits14.f
  by_cases h : (s.size : Int) > 2147483647
  · rw [if_pos h, decide_eq_false (by omega)]
  · rw [if_neg h]
    by_cases h2 : (m.size : Int) > 2147483647
    · rw [if_pos h2, decide_eq_false (by omega)]
    · rw [if_neg h2, decide_eq_true (by omega)]

end Go.Proofs.YtlooelfkkbgmhaaDoor
