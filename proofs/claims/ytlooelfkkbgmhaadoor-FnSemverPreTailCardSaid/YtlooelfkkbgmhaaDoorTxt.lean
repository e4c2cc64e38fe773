/-
  Identifiers as lists of bytes: digits, letters, dots; numbers and their order. Plain: no program in sight.
-/
import Derived.Lib.ParseIntB
import Derived.Laws.Strings
namespace Go.Proofs.YtlooelfkkbgmhaaDoor.Txt
open Go

def dig (c : UInt8) : Bool := decide (48 ≤ c.toNat) && decide (c.toNat ≤ 57)
def idn (c : UInt8) : Bool := dig c || (decide (65 ≤ c.toNat) && decide (c.toNat ≤ 90)) || (decide (97 ≤ c.toNat) && decide (c.toNat ≤ 122)) || decide (c.toNat = 45)
def digitsB (l : List UInt8) : Bool := l.all dig && !l.isEmpty
def identB (l : List UInt8) : Bool := l.all idn && !l.isEmpty

/-- the value that digits spell behind acc -/
def val (acc : Nat) : List UInt8 → Nat
  | [] => acc
  | c :: r => val (acc * 10 + (c.toNat - 48)) r

theorem mul_shift (a p : Nat) : a * (p * 10) = (a * 10) * p := by rw [Nat.mul_comm p 10, Nat.mul_assoc]

theorem val_lo (l : List UInt8) : ∀ acc, acc * 10 ^ l.length ≤ val acc l := by
  induction l with
  | nil => intro acc; exact Nat.le_of_eq (Nat.mul_one _)
  | cons c r ih =>
    intro acc
    have h := ih (acc * 10 + (c.toNat - 48))
    show acc * 10 ^ (r.length + 1) ≤ val (acc * 10 + (c.toNat - 48)) r
    rw [Nat.pow_succ, mul_shift]
    exact Nat.le_trans (Nat.mul_le_mul_right _ (Nat.le_add_right _ _)) h

theorem val_hi (l : List UInt8) (hd : l.all dig = true) : ∀ acc, val acc l < (acc + 1) * 10 ^ l.length := by
  induction l with
  | nil => intro acc; show acc < (acc + 1) * 1; omega
  | cons c r ih =>
    intro acc
    simp only [List.all_cons, Bool.and_eq_true] at hd
    have h := ih hd.2 (acc * 10 + (c.toNat - 48))
    have hc : c.toNat ≤ 57 := by have := hd.1; simp [dig] at this; exact this.2
    show val (acc * 10 + (c.toNat - 48)) r < (acc + 1) * 10 ^ (r.length + 1)
    rw [Nat.pow_succ, mul_shift]
    exact Nat.lt_of_lt_of_le h (Nat.mul_le_mul_right _ (by omega))

theorem p_nil (M acc : Nat) : Lib.parseUintM M acc [] = .ok acc := by unfold Lib.parseUintM; exact Eq.refl _
theorem p_cons (M acc : Nat) (c : UInt8) (r : List UInt8) (hc : 48 ≤ c.toNat ∧ c.toNat ≤ 57) (h6 : ¬ 1844674407370955162 ≤ acc) (h7 : ¬ M < acc * 10 + (c.toNat - 48)) : Lib.parseUintM M acc (c :: r) = Lib.parseUintM M (acc * 10 + (c.toNat - 48)) r := by
  conv => lhs; unfold Lib.parseUintM
  rw [if_pos hc, if_neg h6, if_neg h7]
theorem p_bad (M acc : Nat) (c : UInt8) (r : List UInt8) (hc : ¬ (48 ≤ c.toNat ∧ c.toNat ≤ 57)) (u : Nat) : Lib.parseUintM M acc (c :: r) ≠ .ok u := by
  conv => lhs; unfold Lib.parseUintM
  rw [if_neg hc]
  intro h; cases h
theorem p_more (M acc : Nat) (c : UInt8) (r : List UInt8) (hc : 48 ≤ c.toNat ∧ c.toNat ≤ 57) (u : Nat) (h : Lib.parseUintM M (acc * 10 + (c.toNat - 48)) r ≠ .ok u) : Lib.parseUintM M acc (c :: r) ≠ .ok u := by
  conv => lhs; unfold Lib.parseUintM
  rw [if_pos hc]
  by_cases h1 : 1844674407370955162 ≤ acc
  · rw [if_pos h1]; intro h; cases h
  · rw [if_neg h1]
    by_cases h2 : M < acc * 10 + (c.toNat - 48)
    · rw [if_pos h2]; intro h; cases h
    · rw [if_neg h2]; exact h

theorem small_acc {M acc : Nat} (hM : M < 18446744073709551616) (h4 : (acc + 1) * 10 ≤ M + 1) : ¬ 1844674407370955162 ≤ acc := by omega
theorem small_sum {M acc d : Nat} (hd : d ≤ 9) (h4 : (acc + 1) * 10 ≤ M + 1) : ¬ M < acc * 10 + d := by omega

theorem parse_digits (M : Nat) (hM : ∀ acc, (acc + 1) * 10 ≤ M + 1 → ¬ 1844674407370955162 ≤ acc) (l : List UInt8) (hd : l.all dig = true) : ∀ acc, (acc + 1) * 10 ^ l.length ≤ M + 1 → Lib.parseUintM M acc l = .ok (val acc l) := by
  induction l with
  | nil => intro acc _; exact p_nil M acc
  | cons c r ih =>
    intro acc h
    simp only [List.all_cons, Bool.and_eq_true] at hd
    have hc := hd.1
    simp [dig] at hc
    simp only [List.length_cons] at h
    rw [Nat.pow_succ, mul_shift] at h
    have hp : 1 ≤ 10 ^ r.length := Nat.one_le_pow _ _ (by omega)
    have h2 : (acc + 1) * 10 ≤ ((acc + 1) * 10) * 10 ^ r.length := Nat.le_mul_of_pos_right _ hp
    have h3 : (acc * 10 + (c.toNat - 48) + 1) * 10 ^ r.length ≤ ((acc + 1) * 10) * 10 ^ r.length := Nat.mul_le_mul_right _ (by omega)
    have h4 : (acc + 1) * 10 ≤ M + 1 := Nat.le_trans h2 h
    rw [p_cons M acc c r hc (hM acc h4) (small_sum (by omega) h4)]
    exact ih hd.2 _ (Nat.le_trans h3 h)

theorem parse_no (M : Nat) (l : List UInt8) (hd : l.all dig = false) : ∀ acc u, Lib.parseUintM M acc l ≠ .ok u := by
  induction l with
  | nil => simp at hd
  | cons c r ih =>
    intro acc u
    by_cases hc : 48 ≤ c.toNat ∧ c.toNat ≤ 57
    · have hr : r.all dig = false := by
        simp only [List.all_cons, Bool.and_eq_false_iff] at hd
        rcases hd with h | h
        · simp [dig] at h; omega
        · exact h
      exact p_more M acc c r hc u (ih hr _ u)
    · exact p_bad M acc c r hc u

theorem max64 : 2 ^ 64 - 1 < 18446744073709551616 := by decide
theorem pow19 : 10 ^ 19 ≤ 2 ^ 64 - 1 + 1 := by decide

theorem pB_nil (u : Nat) : Lib.parseUintB 64 [] ≠ .ok u := by
  unfold Lib.parseUintB
  rw [if_pos rfl]
  intro h; cases h
theorem pB_cons (l : List UInt8) (h : ¬ l = []) : Lib.parseUintB 64 l = Lib.parseUintM (2 ^ 64 - 1) 0 l := by unfold Lib.parseUintB; exact if_neg h

theorem parse_small (l : List UInt8) (hd : digitsB l = true) (hl : l.length ≤ 19) : Lib.parseUintB 64 l = .ok (val 0 l) := by
  simp only [digitsB, Bool.and_eq_true, Bool.not_eq_true', List.isEmpty_eq_false_iff] at hd
  rw [pB_cons l hd.2]
  refine parse_digits _ (fun acc h => small_acc max64 h) _ hd.1 0 ?_
  rw [Nat.zero_add, Nat.one_mul]
  exact Nat.le_trans (Nat.pow_le_pow_right (by omega) hl) pow19

theorem parse_text (l : List UInt8) (hd : digitsB l = false) : ∀ u, Lib.parseUintB 64 l ≠ .ok u := by
  intro u
  by_cases hne : l = []
  · subst hne
    exact pB_nil u
  · rw [pB_cons l hne]
    apply parse_no
    cases h : l.all dig with
    | false => rfl
    | true =>
      unfold digitsB at hd
      rw [h] at hd
      cases l with
      | nil => exact absurd rfl hne
      | cons c r => simp at hd

theorem less_nil : Op.bytesLess [] [] = false := by unfold Op.bytesLess; exact Eq.refl _
theorem less_cons (a b : UInt8) (x y : List UInt8) : Op.bytesLess (a :: x) (b :: y) = (decide (a < b) || (a == b && Op.bytesLess x y)) := by
  conv => lhs; unfold Op.bytesLess
theorem v_nil (acc : Nat) : val acc [] = acc := by unfold val; exact Eq.refl _
theorem v_cons (acc : Nat) (c : UInt8) (r : List UInt8) : val acc (c :: r) = val (acc * 10 + (c.toNat - 48)) r := by
  conv => lhs; unfold val

/-- of one length the greater number is the greater text -/
theorem val_less (l : List UInt8) : ∀ (m : List UInt8) (acc acc' : Nat), l.length = m.length → l.all dig = true → m.all dig = true →
    (acc = acc' → (val acc l < val acc' m ↔ Op.bytesLess l m = true)) ∧ (acc < acc' → val acc l < val acc' m) := by
  induction l with
  | nil =>
    intro m acc acc' h _ _
    match m, h with
    | [], _ =>
      rw [v_nil, v_nil, less_nil]
      exact ⟨fun e => ⟨fun h => absurd h (by omega), fun h => absurd h (by decide)⟩, fun h => h⟩
  | cons c r ih =>
    intro m acc acc' h hd hd'
    match m, h with
    | c' :: r', h =>
      simp only [List.all_cons, Bool.and_eq_true] at hd hd'
      have hc := hd.1
      have hc' := hd'.1
      simp [dig] at hc hc'
      have hl : r.length = r'.length := by simpa using h
      rw [v_cons, v_cons, less_cons]
      constructor
      · intro e
        subst e
        simp only [Bool.or_eq_true, Bool.and_eq_true, decide_eq_true_eq, beq_iff_eq]
        by_cases h1 : c.toNat < c'.toNat
        · have := (ih r' (acc * 10 + (c.toNat - 48)) (acc * 10 + (c'.toNat - 48)) hl hd.2 hd'.2).2 (by omega)
          exact ⟨fun _ => .inl (UInt8.lt_iff_toNat_lt.2 h1), fun _ => this⟩
        · by_cases h2 : c'.toNat < c.toNat
          · have h3 := (ih r' (acc * 10 + (c'.toNat - 48)) (acc * 10 + (c.toNat - 48)))
            have h4 : val (acc * 10 + (c'.toNat - 48)) r' < val (acc * 10 + (c.toNat - 48)) r := by
              have a1 := val_hi r' hd'.2 (acc * 10 + (c'.toNat - 48))
              have a2 := val_lo r (acc * 10 + (c.toNat - 48))
              have a3 : (acc * 10 + (c'.toNat - 48) + 1) * 10 ^ r'.length ≤ (acc * 10 + (c.toNat - 48)) * 10 ^ r.length := by
                rw [hl]; exact Nat.mul_le_mul_right _ (by omega)
              omega
            constructor
            · intro h5; omega
            · rintro (h5 | ⟨h5, _⟩)
              · exact absurd (UInt8.lt_iff_toNat_lt.1 h5) h1
              · subst h5; omega
          · have e : c = c' := UInt8.toNat_inj.1 (by omega)
            subst e
            have := (ih r' (acc * 10 + (c.toNat - 48)) (acc * 10 + (c.toNat - 48)) hl hd.2 hd'.2).1 rfl
            rw [this]
            constructor
            · intro h5; exact .inr ⟨rfl, h5⟩
            · rintro (h5 | ⟨_, h5⟩)
              · exact absurd (UInt8.lt_iff_toNat_lt.1 h5) (by omega)
              · exact h5
      · intro e
        exact (ih r' _ _ hl hd.2 hd'.2).2 (by omega)

/-- without a leading zero the longer number is the greater -/
theorem val_longer (l m : List UInt8) (hl : l.all dig = true) (hm : m.all dig = true) (h : l.length < m.length) (hz : 1 < m.length → m.head? ≠ some 48) : val 0 l < val 0 m ∨ l = [] := by
  match m, h with
  | c :: r, h =>
    by_cases h0 : l = []
    · exact .inr h0
    left
    have hlen : 1 ≤ l.length := by cases l with | nil => exact absurd rfl h0 | cons a b => simp
    have hc : 49 ≤ c.toNat := by
      simp only [List.all_cons, Bool.and_eq_true] at hm
      have := hm.1
      simp [dig] at this
      have h2 := hz (by omega)
      simp only [List.head?_cons, ne_eq, Option.some.injEq] at h2
      have h3 : c.toNat ≠ 48 := fun h => h2 (UInt8.toNat_inj.1 h)
      omega
    have a1 := val_hi l hl 0
    have a2 := val_lo r (0 * 10 + (c.toNat - 48))
    simp only [List.length_cons] at h
    have a3 : 10 ^ l.length ≤ 10 ^ r.length := Nat.pow_le_pow_right (by omega) (by omega)
    have a4 : 1 * 10 ^ r.length ≤ (0 * 10 + (c.toNat - 48)) * 10 ^ r.length := Nat.mul_le_mul_right _ (by omega)
    rw [v_cons]
    omega

/-- the pieces between the dots -/
def split : List UInt8 → List (List UInt8)
  | [] => [[]]
  | c :: r => if c.toNat = 46 then [] :: split r else match split r with
    | [] => [[c]]
    | x :: xs => (c :: x) :: xs
/-- a piece ahead of the first -/
def glue (p : List UInt8) : List (List UInt8) → List (List UInt8)
  | [] => [p]
  | x :: xs => (p ++ x) :: xs

theorem split_ne (l : List UInt8) : split l ≠ [] := by
  cases l with
  | nil => simp [split]
  | cons c r =>
    unfold split
    split
    · simp
    · split <;> simp
theorem split_other (c : UInt8) (r : List UInt8) (h : ¬ c.toNat = 46) : split (c :: r) = glue [c] (split r) := by
  conv => lhs; unfold split
  rw [if_neg h]
  cases split r with
  | nil => rfl
  | cons x xs => rfl
theorem split_at (c : UInt8) (r : List UInt8) (h : c.toNat = 46) : split (c :: r) = [] :: split r := by
  conv => lhs; unfold split
  rw [if_pos h]
theorem glue_glue (p q : List UInt8) (L : List (List UInt8)) : glue (p ++ q) L = glue p (glue q L) := by
  cases L with
  | nil => rfl
  | cons x xs => simp [glue]
theorem glue_nil (L : List (List UInt8)) (h : L ≠ []) : glue [] L = L := by
  cases L with
  | nil => exact absurd rfl h
  | cons x xs => rfl

/-- no dot: one piece -/
theorem split_one (l : List UInt8) (h : ∀ c ∈ l, ¬ c.toNat = 46) : split l = [l] := by
  induction l with
  | nil => rfl
  | cons c r ih =>
    rw [split_other c r (h c (by simp)), ih (fun d hd => h d (by simp [hd]))]
    rfl

/-- two texts with a dot between them -/
theorem split_dot (l r : List UInt8) : split (l ++ UInt8.ofNat 46 :: r) = split l ++ split r := by
  induction l with
  | nil =>
    show split (UInt8.ofNat 46 :: r) = [[]] ++ split r
    rw [split_at _ _ (by decide)]; rfl
  | cons c t ih =>
    by_cases h : c.toNat = 46
    · show split (c :: (t ++ UInt8.ofNat 46 :: r)) = _
      rw [split_at c _ h, split_at c t h, ih]; rfl
    · show split (c :: (t ++ UInt8.ofNat 46 :: r)) = _
      rw [split_other c _ h, split_other c t h, ih]
      cases hs : split t with
      | nil => exact absurd hs (split_ne t)
      | cons x xs => rfl

theorem idn_not_dot {c : UInt8} (h : idn c = true) : ¬ c.toNat = 46 := by
  intro e
  simp [idn, dig, e] at h

/-- one piece of a prerelease is well formed -/
def okId (l : List UInt8) : Bool := identB l && !(digitsB l && decide (1 < l.length) && decide (l.head? = some 48))
/-- its number is small -/
def smId (l : List UInt8) : Bool := !(digitsB l && decide (19 < l.length))
def validPreB (l : List UInt8) : Bool := (split l).all okId
def smallPreB (l : List UInt8) : Bool := (split l).all smId

/-- an identifier of a prerelease with a small number -/
def goodId (l : List UInt8) : Prop := identB l = true ∧ (digitsB l = true → l.length ≤ 19 ∧ (1 < l.length → l.head? ≠ some 48))

theorem good_of {l : List UInt8} (h1 : okId l = true) (h2 : smId l = true) : goodId l := by
  simp only [okId, Bool.and_eq_true, Bool.not_eq_true', Bool.and_eq_false_iff, decide_eq_false_iff_not] at h1
  simp only [smId, Bool.not_eq_true', Bool.and_eq_false_iff, decide_eq_false_iff_not] at h2
  refine ⟨h1.1, fun hd => ⟨?_, fun h3 => ?_⟩⟩
  · rcases h2 with h | h
    · rw [hd] at h; cases h
    · omega
  · rcases h1.2 with (h | h) | h
    · rw [hd] at h; cases h
    · exact absurd h3 h
    · exact h

/-- comparing two identifiers by clause 11 -/
def partS (a b : List UInt8) : Int :=
  if a = b then 0
  else if digitsB a = true ∧ digitsB b = true ∧ a.length ≠ b.length then (if a.length < b.length then -1 else 1)
  else if digitsB a ≠ digitsB b then (if digitsB a then -1 else 1)
  else if Op.bytesLess a b then -1 else 1

end Go.Proofs.YtlooelfkkbgmhaaDoor.Txt
