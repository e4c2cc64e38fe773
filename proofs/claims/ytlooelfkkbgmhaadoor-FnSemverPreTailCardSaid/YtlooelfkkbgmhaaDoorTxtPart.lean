/-
  What comparePrePart returns of two valid identifiers is what clause 11 says.
-/
import Derived.Test.YtlooelfkkbgmhaaDoorTxt
import Derived.Test.YtlooelfkkbgmhaaDoorPart
namespace Go.Proofs.YtlooelfkkbgmhaaDoor
open Go Txt

theorem digits_all {l : List UInt8} (h : digitsB l = true) : l.all dig = true ∧ l ≠ [] := by
  unfold digitsB at h
  simpa using h

theorem bytesLess_asymm (a : List UInt8) : ∀ b, Op.bytesLess a b = true → Op.bytesLess b a = true → False := by
  induction a with
  | nil => intro b h h2; cases b <;> simp [Op.bytesLess] at h2
  | cons x r ih =>
    intro b h h2
    cases b with
    | nil => simp [Op.bytesLess] at h
    | cons y s =>
      rw [less_cons] at h h2
      simp only [Bool.or_eq_true, decide_eq_true_eq, Bool.and_eq_true, beq_iff_eq] at h h2
      rcases h with h | ⟨rfl, h⟩
      · rcases h2 with h2 | ⟨rfl, h2⟩
        · exact absurd h (by have := UInt8.lt_asymm h2; exact this)
        · exact UInt8.lt_irrefl _ h
      · rcases h2 with h2 | ⟨_, h2⟩
        · exact UInt8.lt_irrefl _ h2
        · exact ih s h h2

theorem bytesLess_total (a : List UInt8) : ∀ b, a ≠ b → Op.bytesLess a b = false → Op.bytesLess b a = true := by
  induction a with
  | nil =>
    intro b h h2
    cases b with
    | nil => exact absurd rfl h
    | cons y s => simp [Op.bytesLess] at h2
  | cons x r ih =>
    intro b h h2
    cases b with
    | nil => simp [Op.bytesLess]
    | cons y s =>
      rw [less_cons] at h2 ⊢
      simp only [Bool.or_eq_false_iff, decide_eq_false_iff_not, Bool.and_eq_false_iff] at h2
      simp only [Bool.or_eq_true, decide_eq_true_eq, Bool.and_eq_true, beq_iff_eq]
      by_cases hxy : x = y
      · subst hxy
        have : Op.bytesLess r s = false := by
          rcases h2.2 with h3 | h3
          · simp at h3
          · exact h3
        exact .inr ⟨rfl, ih s (by intro e; exact h (by rw [e])) this⟩
      · left
        have h3 : ¬ x.toNat < y.toNat := fun h4 => h2.1 (UInt8.lt_iff_toNat_lt.2 h4)
        have h4 : x.toNat ≠ y.toNat := fun h4 => hxy (UInt8.toNat_inj.1 h4)
        exact UInt8.lt_iff_toNat_lt.2 (by omega)

theorem val_order {a b : List UInt8} (ha : goodId a) (hb : goodId b) (da : digitsB a = true) (db : digitsB b = true) (hne : a ≠ b) :
    (if val 0 b < val 0 a then (1 : Int) else -1) = partS a b := by
  obtain ⟨aa, a0⟩ := digits_all da
  obtain ⟨ab, b0⟩ := digits_all db
  by_cases hl : a.length = b.length
  · have e : partS a b = if Op.bytesLess a b = true then -1 else 1 := by
      unfold partS
      rw [if_neg hne, if_neg (fun h => h.2.2 hl), if_neg (fun h => h (by rw [da, db]))]
    rw [e]
    have hv := (val_less b a 0 0 hl.symm ab aa).1 rfl
    by_cases h : Op.bytesLess a b = true
    · have h5 : ¬ val 0 b < val 0 a := fun h2 => bytesLess_asymm a b h (hv.1 h2)
      rw [if_pos h, if_neg h5]
    · have h5 : val 0 b < val 0 a := hv.2 (bytesLess_total a b hne (by simpa using h))
      rw [if_neg h, if_pos h5]
  · have e : partS a b = if a.length < b.length then -1 else 1 := by
      unfold partS
      rw [if_neg hne, if_pos ⟨da, db, hl⟩]
    rw [e]
    by_cases h : a.length < b.length
    · have h5 : ¬ val 0 b < val 0 a := by
        rcases val_longer a b aa ab h ((hb.2 db).2) with h2 | h2
        · omega
        · exact absurd h2 a0
      rw [if_pos h, if_neg h5]
    · have h5 : val 0 b < val 0 a := by
        rcases val_longer b a ab aa (by omega) ((ha.2 da).2) with h2 | h2
        · exact h2
        · exact absurd h2 b0
      rw [if_neg h, if_pos h5]

theorem partF_eq {a b : List UInt8} (ha : goodId a) (hb : goodId b) : partF a b = partS a b := by
  have na : a ≠ [] := by intro h; have := ha.1; rw [h] at this; simp [identB] at this
  have nb : b ≠ [] := by intro h; have := hb.1; rw [h] at this; simp [identB] at this
  unfold partF
  by_cases hne : a = b
  · rw [if_pos hne]; unfold partS; rw [if_pos hne]
  rw [if_neg hne, if_neg na, if_neg nb]
  by_cases da : digitsB a = true
  · by_cases db : digitsB b = true
    · rw [parse_small b db (hb.2 db).1, parse_small a da (ha.2 da).1]
      exact val_order ha hb da db hne
    · rw [parse_small a da (ha.2 da).1]
      have hp := parse_text b (by simpa using db)
      have e : partS a b = -1 := by
        unfold partS
        rw [if_neg hne, if_neg (fun h => db h.2.1), if_pos (by rw [da]; intro h; exact db h.symm), if_pos da]
      rw [e]
      rcases h : Lib.parseUintB 64 b with u | _ | _
      · exact absurd h (hp u)
      · rfl
      · rfl
  · have hp := parse_text a (by simpa using da)
    by_cases db : digitsB b = true
    · rw [parse_small b db (hb.2 db).1]
      have e : partS a b = 1 := by
        unfold partS
        rw [if_neg hne, if_neg (fun h => da h.1), if_pos (by rw [db]; exact da), if_neg da]
      rw [e]
      rcases h : Lib.parseUintB 64 a with u | _ | _
      · exact absurd h (hp u)
      · rfl
      · rfl
    · have hq := parse_text b (by simpa using db)
      have e : partS a b = if Op.bytesLess a b then -1 else 1 := by
        unfold partS
        rw [if_neg hne, if_neg (fun h => da h.1), if_neg (by simp only [ne_eq, Decidable.not_not]; rw [Bool.eq_iff_iff]; simp [da, db])]
      rw [e]
      rcases h : Lib.parseUintB 64 a with u | _ | _
      · exact absurd h (hp u)
      ·
        rcases h2 : Lib.parseUintB 64 b with u | _ | _
        · exact absurd h2 (hq u)
        · rfl
        · rfl
      ·
        rcases h2 : Lib.parseUintB 64 b with u | _ | _
        · exact absurd h2 (hq u)
        · rfl
        · rfl

end Go.Proofs.YtlooelfkkbgmhaaDoor
