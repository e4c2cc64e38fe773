/-
  What is read strictly out of a text is printed as that text: the plain law.
-/
import Derived.Test.YtdomidlpkffigaaDoorQWx1
set_option linter.unusedVariables false
set_option linter.unusedSimpArgs false
namespace Go.Proofs.YtdomidlpkffigaaDoor.Pure
open Go Go.RowKit Go.Proofs.YtdomidlpkffigaaDoor Go.Proofs.YtdomidlpkffigaaDoor.QW Go.Proofs.YtdomidlpkffigaaDoor.Gram Go.Proofs.YtdomidlpkffigaaDoorW.PrintWords Go.Proofs.YtdomidlpkffigaaDoorW.PrintLast

theorem dec_small {u : Nat} (h : u < 10) : Lib.decDigits u = [UInt8.ofNat (48 + u)] := by rw [Lib.decDigits, dif_pos h]
theorem dec_big {u : Nat} (h : ¬ u < 10) : Lib.decDigits u = Lib.decDigits (u / 10) ++ [UInt8.ofNat (48 + u % 10)] := by rw [Lib.decDigits, dif_neg h]
theorem parse_ge (M : Nat) : ∀ (l : List UInt8) (acc u : Nat), Lib.parseUintM M acc l = .ok u → acc ≤ u
  | [], acc, u, h => by
    rw [Lib.parseUintM] at h
    rw [Lib.NumEnd.ok.inj h]; exact Nat.le_refl _
  | c :: l, acc, u, h => by
    rw [Lib.parseUintM] at h
    split at h
    · split at h
      · cases h
      · split at h
        · cases h
        · have := parse_ge M l _ u h; omega
    · cases h
theorem parse_lt (M : Nat) : ∀ (l : List UInt8) (acc u : Nat), acc ≤ M → Lib.parseUintM M acc l = .ok u → u ≤ M
  | [], acc, u, ha, h => by
    rw [Lib.parseUintM] at h
    rw [← Lib.NumEnd.ok.inj h]; exact ha
  | c :: l, acc, u, ha, h => by
    rw [Lib.parseUintM] at h
    split at h
    · split at h
      · cases h
      · split at h
        · cases h
        · exact parse_lt M l _ u (by omega) h
    · cases h
/-- the last digit -/
theorem parse_last (M : Nat) (c : UInt8) : ∀ (l : List UInt8) (acc u : Nat), Lib.parseUintM M acc (l ++ [c]) = .ok u → ∃ u', Lib.parseUintM M acc l = .ok u' ∧ 48 ≤ c.toNat ∧ c.toNat ≤ 57 ∧ u = u' * 10 + (c.toNat - 48)
  | [], acc, u, h => by
    rw [List.nil_append, Lib.parseUintM] at h
    split at h
    · rename_i hc
      split at h
      · cases h
      · split at h
        · cases h
        · rw [Lib.parseUintM] at h
          exact ⟨acc, by rw [Lib.parseUintM], hc.1, hc.2, (Lib.NumEnd.ok.inj h).symm⟩
    · cases h
  | d :: l, acc, u, h => by
    rw [List.cons_append, Lib.parseUintM] at h
    split at h
    · rename_i hd
      split at h
      · cases h
      · rename_i h1
        split at h
        · cases h
        · rename_i h2
          obtain ⟨u', e, g⟩ := parse_last M c l _ u h
          exact ⟨u', by rw [Lib.parseUintM, if_pos hd, if_neg h1, if_neg h2]; exact e, g⟩
    · cases h
theorem digit_back {c : UInt8} {d : Nat} (h : c.toNat = 48 + d) : UInt8.ofNat (48 + d) = c := by
  rw [← h]; simp
/-- a number without a leading zero is printed as it was -/
theorem dec_parse (M : Nat) : ∀ (n : Nat) (l : List UInt8) (u : Nat), l.length ≤ n → l ≠ [] → lead l = false → Lib.parseUintM M 0 l = .ok u → Lib.decDigits u = l
  | 0, l, u, hn, hne, hl, h => absurd (List.length_eq_zero_iff.1 (Nat.le_zero.1 hn)) hne
  | n + 1, l, u, hn, hne, hl, h => by
    rcases List.eq_nil_or_concat l with rfl | ⟨l', c, rfl⟩
    · exact absurd rfl hne
    · rw [List.concat_eq_append] at h hl hn ⊢
      obtain ⟨u', e, c1, c2, hu⟩ := parse_last M c l' 0 u h
      cases l' with
      | nil =>
        rw [Lib.parseUintM] at e
        have := Lib.NumEnd.ok.inj e
        subst this
        rw [dec_small (by omega), List.nil_append, digit_back (c := c) (by omega)]
      | cons x l' =>
        have hx : x ≠ 48 := by
          rintro rfl
          cases l' <;> (simp [lead] at hl)
        have hl' : lead (x :: l') = false := by
          cases l' with
          | nil => rfl
          | cons y r => simp [lead, hx]
        have h1 : 1 ≤ u' := by
          rw [Lib.parseUintM] at e
          split at e
          · rename_i hd
            split at e
            · cases e
            · split at e
              · cases e
              · have := parse_ge M l' _ u' e
                have h48 : x.toNat ≠ 48 := fun h => hx (UInt8.toNat.inj (by rw [h]; rfl))
                omega
          · cases e
        have hlen : (x :: l').length ≤ n := by simp only [List.length_append, List.length_cons, List.length_nil] at hn ⊢; omega
        have ih := dec_parse M n (x :: l') u' hlen (by simp) hl' e
        rw [dec_big (by omega), show u / 10 = u' by omega, ih, digit_back (c := c) (by omega)]
theorem num_text {a : BL} {u : Nat} (h : numV (mkB a) = some u) : Lib.decDigits u = a ∧ u < 18446744073709551616 := by
  unfold numV at h
  split at h
  · rename_i hg
    unfold goodN at hg
    rw [Bool.and_eq_true, Bool.not_eq_true', L_mk] at hg
    cases hp : Lib.parseUintB 64 (mkB a).data.toList with
    | ok v =>
      rw [hp] at h
      have : v = u := Option.some.inj h
      subst this
      unfold Lib.parseUintB at hp
      split at hp
      · cases hp
      · rename_i hne
        have hne' : a ≠ [] := hne
        have h2 := parse_lt (2 ^ 64 - 1) a 0 v (by decide) hp
        exact ⟨dec_parse (2 ^ 64 - 1) a.length a v (Nat.le_refl _) hne' hg.2 hp, by omega⟩
    | «syntax» => rw [hp] at h; cases h
    | range => rw [hp] at h; cases h
  · cases h
theorem dots_first (l : List UInt8) (h : (dots l).all (fun id => okId id) = true) : l ≠ [] := by
  rintro rfl
  revert h
  decide
theorem okMeta_ne {m : BL} (h : okMeta m = true) : m ≠ [] := dots_first m h
theorem okPre_ne {p : BL} (h : okPre p = true) : p ≠ [] := by
  rintro rfl
  revert h
  decide
theorem L_app (s t : ByteArray) : L (s ++ t) = L s ++ L t := by
  show (s ++ t).data.toList = _
  rw [ByteArray.data_append, Array.toList_append]
theorem beq_nil (l : BL) : ((mkB l).toList == ([] : List UInt8)) = l.isEmpty := by rw [toList_L, L_mk]; cases l <;> rfl
/-- what is read is printed as it was -/
theorem text_back {l : BL} {u0 u1 u2 : Nat} {pre mt : BL} (h : strictL l = some (u0, u1, u2, pre, mt)) : L (textV u0 u1 u2 (mkB pre) (mkB mt)) = l ∧ u0 < 18446744073709551616 ∧ u1 < 18446744073709551616 ∧ u2 < 18446744073709551616 ∧ pre.length + mt.length ≤ l.length ∧ l.length ≤ 256 := by
  unfold strictL at h
  split at h
  · cases h
  · rename_i hlen
    cases hb : byDots l with
    | none => rw [hb] at h; cases h
    | some q =>
      obtain ⟨a, b, c, p, m⟩ := q
      rw [hb] at h
      simp only [] at h
      obtain ⟨e, _, hp, hm⟩ := byDots_whole.1 hb
      unfold comb at h
      cases ha : numV (mkB a) with
      | none => rw [ha] at h; cases h
      | some v0 => cases hb' : numV (mkB b) with
        | none => rw [ha, hb'] at h; cases h
        | some v1 => cases hc : numV (mkB c) with
          | none => rw [ha, hb', hc] at h; cases h
          | some v2 =>
            rw [ha, hb', hc] at h
            simp only [Option.some.injEq, Prod.mk.injEq] at h
            obtain ⟨rfl, rfl, rfl, rfl, rfl⟩ := h
            obtain ⟨t0, w0⟩ := num_text ha
            obtain ⟨t1, w1⟩ := num_text hb'
            obtain ⟨t2, w2⟩ := num_text hc
            refine ⟨?_, w0, w1, w2, ?_, by omega⟩
            · unfold textV
              rw [beq_nil, beq_nil, t0, t1, t2, e]
              cases p with
              | none =>
                cases m with
                | none => simp [L_app, L_mk, tail, tl]
                | some m =>
                  have hne := okMeta_ne (hm m rfl)
                  cases m with
                  | nil => exact absurd rfl hne
                  | cons x r => simp [L_app, L_mk, tail, tl]
              | some p =>
                have hne := okPre_ne (hp p rfl)
                cases p with
                | nil => exact absurd rfl hne
                | cons y q =>
                  cases m with
                  | none => simp [L_app, L_mk, tail, tl]
                  | some m =>
                    have hne2 := okMeta_ne (hm m rfl)
                    cases m with
                    | nil => exact absurd rfl hne2
                    | cons x r => simp [L_app, L_mk, tail, tl]
            · rw [e]
              cases p <;> cases m <;> simp only [tail, tl, Option.getD_none, Option.getD_some, List.length_append, List.length_cons, List.length_nil] <;> omega
theorem short_ok (s : ByteArray) (k : Nat) (hk : 2 ≤ k) : laws_svShort.f k [s] = some (decide (¬ (s.size : Int) > 65536)) := by
  obtain ⟨k, rfl⟩ : ∃ j, k = j + 2 := ⟨k - 2, by omega⟩
  unfold laws_svShort.f
  rw [laws_svShort.l0, if_pos (show (0 : Int) < (([s] : List ByteArray).length : Int) by simp), if_pos (by decide), if_pos (show (0 : Int) < (([s] : List ByteArray).length : Int) by simp)]
  have hg : rdOf ByteArray.empty [s] 0 = s := rfl
  rw [hg]
  by_cases h : (s.size : Int) > 65536
  · rw [if_pos h, decide_eq_false (fun hh => hh h)]
  · rw [if_neg h, decide_eq_true h, laws_svShort.l0, if_neg (by simp [wrap64])]
/-- the law -/
theorem FnSemverStrictPrints (a0 : ByteArray) (w0 : a0.size ≤ maxLen) : ∃ k, laws_FnSemverStrictPrints.f k a0 = some true := by
  refine ⟨10, ?_⟩
  unfold laws_FnSemverStrictPrints.f
  by_cases h1 : (a0.size : Int) > 2147483647
  · rw [if_pos h1]
  · rw [if_neg h1, short_ok a0 10 (by decide), Option.bind_some]
    by_cases h2 : (a0.size : Int) > 65536
    · rw [decide_eq_false (fun hh => hh h2), if_neg Bool.false_ne_true]
    · rw [decide_eq_true h2, if_pos rfl]
      unfold impl_StrictVersion.f spec_StrictVersion.f
      rw [Option.bind_some, Option.bind_some, if_pos (beq_self_eq_true _)]
      unfold verR
      cases hs : strictL (L a0) with
      | none => rw [if_neg Bool.false_ne_true]
      | some q =>
        obtain ⟨u0, u1, u2, pre, mt⟩ := q
        obtain ⟨ht, g0, g1, g2, g3, g4⟩ := text_back hs
        simp only [if_true]
        unfold impl_VersionText.f
        rw [if_pos ⟨by omega, by omega, by omega, by omega, by omega, by omega, by rw [mk_size, mk_size]; omega⟩, Option.bind_some, Int.toNat_natCast, Int.toNat_natCast, Int.toNat_natCast]
        rw [toList_L, toList_L, ht]
        simp
end Go.Proofs.YtdomidlpkffigaaDoor.Pure
