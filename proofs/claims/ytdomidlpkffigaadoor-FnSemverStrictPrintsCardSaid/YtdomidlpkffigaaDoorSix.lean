/-
  The specification's reading of a text: walked, and what it says.
-/
import Derived.Test.YtdomidlpkffigaaDoorSeq
import Derived.Test.YtdomidlpkffigaaDoorGrm
set_option linter.unusedVariables false
set_option linter.unusedSimpArgs false
namespace Go.Proofs.YtdomidlpkffigaaDoor
open Go Go.RowKit Go.Proofs.YtdomidlpkffigaaDoorW.PrintWords Go.Proofs.YtdomidlpkffigaaDoorW.PrintLast Go.Proofs.YtdomidlpkffigaaDoor.Gram Go.Proofs.YtdomidlpkffigaaDoor.QG

def endR : Lib.NumEnd Nat → Int × Bool
  | .ok u => ((u : Int), true)
  | _ => (0, false)
theorem num_loop (s : ByteArray) (hn : s.size ≤ 2147483647) : ∀ (k : Nat) (y : Int) (acc : Nat), 0 ≤ y → y ≤ s.size → (s.size : Int) < y + k → acc < 18446744073709551616 → ((L s).drop y.toNat).all isD = true → spec_Number.l0 k s (acc : Int) y = some (endR (Lib.parseUintM (2 ^ 64 - 1) acc ((L s).drop y.toNat)))
  | 0, y, acc, h0, h1, h2, ha, hd => by omega
  | k + 1, y, acc, h0, h1, h2, ha, hd => by
    rw [spec_Number.l0]
    by_cases h : y < (s.size : Int)
    · have hl : y.toNat < (L s).length := by rw [L_len]; omega
      rw [drop_at _ y h0 hl, List.all_cons, Bool.and_eq_true] at hd
      have hc := hd.1
      unfold isD at hc
      rw [Bool.and_eq_true] at hc
      have c1 := of_decide_eq_true hc.1
      have c2 := of_decide_eq_true hc.2
      rw [if_pos h, if_pos h0, bt_get s y hl, drop_at _ y h0 hl, Lib.parseUintM]
      generalize (L s)[y.toNat].toNat = c at c1 c2
      rw [if_pos (show 48 ≤ c ∧ c ≤ 57 from ⟨c1, c2⟩), show ((c : Int) - 48) % 256 = ((c - 48 : Nat) : Int) by omega]
      by_cases h1' : 1844674407370955162 ≤ acc
      · rw [if_pos h1', if_pos (by omega)]; rfl
      · rw [if_neg h1']
        by_cases h2' : 2 ^ 64 - 1 < acc * 10 + (c - 48)
        · rw [if_pos h2', if_pos (by omega)]; rfl
        · rw [if_neg h2', if_neg (by omega), wrap_next h0 h (by omega)]
          have he : IntKind.u64.wrap (IntKind.u64.wrap ((acc : Int) * 10) + ((c - 48 : Nat) : Int)) = ((acc * 10 + (c - 48) : Nat) : Int) := by
            rw [IntKind.wrap_u64, IntKind.wrap_u64]; omega
          rw [he]
          exact num_loop s hn k (y + 1) _ (by omega) (by omega) (by omega) (by omega) hd.2
    · rw [if_neg h, List.drop_eq_nil_of_le (by rw [L_len]; omega), Lib.parseUintM]
      rfl
theorem parseM_bad : ∀ (l : List UInt8) (M acc : Nat), l.all isD = false → ∀ u, Lib.parseUintM M acc l ≠ .ok u
  | [], M, acc, h, u => by simp at h
  | c :: l, M, acc, h, u => by
    rw [Lib.parseUintM]
    by_cases hc : 48 ≤ c.toNat ∧ c.toNat ≤ 57
    · rw [if_pos hc]
      have hd : isD c = true := by unfold isD; rw [decide_eq_true hc.1, decide_eq_true hc.2]; rfl
      rw [List.all_cons, hd, Bool.true_and] at h
      split
      · intro e; cases e
      · split
        · intro e; cases e
        · exact parseM_bad l M _ h u
    · rw [if_neg hc]; intro e; cases e
theorem num_ok (s : ByteArray) (hn : s.size ≤ 2147483647) (k : Nat) (hk : s.size < k) : spec_Number.f k s = some (endR (Lib.parseUintB 64 (L s))) := by
  unfold spec_Number.f Lib.parseUintB
  rw [dig_ok s hn k hk, Option.bind_some]
  by_cases he : L s = []
  · rw [if_pos he, he]; rfl
  · have hne : (L s).isEmpty = false := by cases hl : L s with | nil => exact absurd hl he | cons a b => rfl
    rw [if_neg he, hne, Bool.not_false, Bool.and_true]
    cases hd : (L s).all isD
    · rw [if_neg Bool.false_ne_true]
      have hb := parseM_bad (L s) (2 ^ 64 - 1) 0 hd
      cases hp : Lib.parseUintM (2 ^ 64 - 1) 0 (L s) with
      | ok u => exact absurd hp (hb u)
      | «syntax» => rfl
      | range => rfl
    · rw [if_pos rfl]
      exact num_loop s hn k 0 0 (by omega) (by omega) (by omega) (by omega) (by simpa using hd)
/-- a part's number, in both ways -/
theorem good_num (t : ByteArray) : (∃ u, numV t = some u ∧ endR (Lib.parseUintB 64 (L t)) = ((u : Int), true) ∧ goodG true t = true) ∨ (numV t = none ∧ goodG (endR (Lib.parseUintB 64 (L t))).2 t = false) := by
  cases hp : Lib.parseUintB 64 (L t) with
  | ok u =>
    by_cases hl : lead (L t) = true
    · refine Or.inr ⟨?_, by unfold goodG; rw [hl, Bool.not_true, Bool.and_false]⟩
      unfold numV goodN
      rw [hl, Bool.not_true, Bool.and_false, if_neg Bool.false_ne_true]
    · have hl' := Bool.eq_false_iff.2 hl
      have hd : (L t).all isD = true := by
        cases hd : (L t).all isD
        · unfold Lib.parseUintB at hp
          split at hp
          · cases hp
          · exact absurd hp (parseM_bad _ _ _ hd u)
        · rfl
      refine Or.inl ⟨u, numV_ok (by unfold goodN; rw [hd, hl']; rfl) hp, rfl, by unfold goodG; rw [hl']; rfl⟩
  | «syntax» => exact Or.inr ⟨numV_err (fun u h => by rw [show Lib.parseUintB 64 t.data.toList = .«syntax» from hp] at h; cases h), rfl⟩
  | range => exact Or.inr ⟨numV_err (fun u h => by rw [show Lib.parseUintB 64 t.data.toList = .range from hp] at h; cases h), rfl⟩
theorem cutR_part (c : UInt8) (l : BL) : cutR c (mkB l) = (mkB (Gram.part c l).1, mkB ((Gram.part c l).2.getD []), (Gram.part c l).2.isSome) := by
  unfold cutR
  rw [L_mk]
  cases h : cut c l with
  | none => rw [part_none h]; rfl
  | some q => rw [part_some (show cut c l = some (q.1, q.2) from h)]; rfl
theorem part_le (c : UInt8) (l : BL) : (Gram.part c l).1.length ≤ l.length ∧ ((Gram.part c l).2.getD []).length ≤ l.length := by
  cases h : cut c l with
  | none => rw [part_none h]; exact ⟨Nat.le_refl _, Nat.zero_le _⟩
  | some q =>
    have := cut_le (show cut c l = some (q.1, q.2) from h)
    rw [part_some (show cut c l = some (q.1, q.2) from h)]
    exact ⟨by show q.1.length ≤ _; omega, by show q.2.length ≤ _; omega⟩
def okT (l : BL) : Bool := (if (Gram.part 43 l).2.isSome = true then okMeta ((Gram.part 43 l).2.getD []) else true) && (if (Gram.part 45 (Gram.part 43 l).1).2.isSome = true then okPre ((Gram.part 45 (Gram.part 43 l).1).2.getD []) else true)
theorem tails_ok (l : BL) (hl : l.length ≤ 1000) : spec_tails.f 5000 (mkB l) = some (mkB (Gram.part 45 (Gram.part 43 l).1).1, mkB ((Gram.part 45 (Gram.part 43 l).1).2.getD []), mkB ((Gram.part 43 l).2.getD []), okT l) := by
  have h1 := part_le 43 l
  have h2 := part_le 45 (Gram.part 43 l).1
  have e43 : ∀ s : ByteArray, s.size ≤ 1000 → spec_cutAt.f 5000 s 43 = some (cutR 43 s) := fun s hs => cutAt_ok s 43 (by omega) 5000 (by omega)
  have e45 : ∀ s : ByteArray, s.size ≤ 1000 → spec_cutAt.f 5000 s 45 = some (cutR 45 s) := fun s hs => cutAt_ok s 45 (by omega) 5000 (by omega)
  unfold spec_tails.f okT
  rw [e43 _ (by rw [mk_size]; exact hl), Option.bind_some, cutR_part]
  simp only []
  rw [e45 _ (by rw [mk_size]; omega), Option.bind_some, cutR_part]
  simp only []
  cases hm : (Gram.part 43 l).2.isSome
  · rw [if_neg Bool.false_ne_true, if_neg Bool.false_ne_true, Bool.true_and]
    cases hp : (Gram.part 45 (Gram.part 43 l).1).2.isSome
    · rw [if_neg Bool.false_ne_true, if_neg Bool.false_ne_true]
    · rw [if_pos rfl, if_pos rfl, vp_ok _ (by omega) 5000 (by omega), Option.bind_some]
  · rw [if_pos rfl, if_pos rfl, vm_ok _ (by omega) 5000 (by omega), Option.bind_some]
    cases hom : okMeta ((Gram.part 43 l).2.getD [])
    · rw [if_neg Bool.false_ne_true, Bool.false_and]
    · rw [if_pos rfl, Bool.true_and]
      cases hp : (Gram.part 45 (Gram.part 43 l).1).2.isSome
      · rw [if_neg Bool.false_ne_true, if_neg Bool.false_ne_true]
      · rw [if_pos rfl, if_pos rfl, vp_ok _ (by omega) 5000 (by omega), Option.bind_some]
theorem okT_iff (l : BL) : okT l = true ↔ (∀ m, (Gram.part 43 l).2 = some m → okMeta m = true) ∧ (∀ p, (Gram.part 45 (Gram.part 43 l).1).2 = some p → okPre p = true) := by
  unfold okT
  rw [Bool.and_eq_true]
  cases hm : (Gram.part 43 l).2 <;> cases hp : (Gram.part 45 (Gram.part 43 l).1).2 <;> simp
/-- with the tails first -/
theorem strictL_tails (l : BL) (h : ¬ 256 < l.length) : strictL l = match byTails l with | none => none | some (a, b, c, pre, mt) => comb a b c pre mt := by
  unfold strictL
  by_cases h0 : l.length = 0
  · rw [if_pos (Or.inl h0)]
    have : l = [] := List.length_eq_zero_iff.1 h0
    subst this
    rfl
  · rw [if_neg (fun hh => hh.elim h0 h), byDots_byTails]
    cases byTails l with
    | none => rfl
    | some q => rfl
theorem gram10 (s : ByteArray) (hs : ¬ 256 < s.size) (w : World) : Calls Tryd.prog 10 #[.string s] w fun e w' => Post5 s e ∧ Below w.heap.size w w' := by
  have hlen : ¬ 256 < (L s).length := by rw [L_len]; exact hs
  have ht := tails_ok (L s) (by omega)
  rw [mk_L] at ht
  have h1 := part_le 43 (L s)
  have h2 := part_le 45 (Gram.part 43 (L s)).1
  have hi := ids_ok (mkB (Gram.part 45 (Gram.part 43 (L s)).1).1) (by rw [mk_size]; omega) 5000 (by rw [mk_size]; omega)
  rw [L_mk] at hi
  have hst := strictL_tails (L s) hlen
  by_cases hok : okT (L s) = true
  · rw [hok] at ht
    have hok2 := (okT_iff (L s)).1 hok
    by_cases h3 : ∃ a b c, dots (Gram.part 45 (Gram.part 43 (L s)).1).1 = [a, b, c]
    · obtain ⟨a, b, c, hd⟩ := h3
      rw [hd] at hi
      have hml : ∀ t ∈ [a, b, c], t.length ≤ 256 := fun t htm => by
        have := dots_mem (l := (Gram.part 45 (Gram.part 43 (L s)).1).1) (t := t) (by rw [hd]; exact htm)
        omega
      have na := num_ok (mkB a) (by rw [mk_size]; have := hml a (by simp); omega) 5000 (by rw [mk_size]; have := hml a (by simp); omega)
      have nb := num_ok (mkB b) (by rw [mk_size]; have := hml b (by simp); omega) 5000 (by rw [mk_size]; have := hml b (by simp); omega)
      have nc := num_ok (mkB c) (by rw [mk_size]; have := hml c (by simp); omega) 5000 (by rw [mk_size]; have := hml c (by simp); omega)
      have hbt : byTails (L s) = if a.all isD = true ∧ b.all isD = true ∧ c.all isD = true then some (a, b, c, (Gram.part 45 (Gram.part 43 (L s)).1).2, (Gram.part 43 (L s)).2) else none := by
        unfold byTails
        simp only []
        rw [if_pos hok2, hd]
      have hcomb : strictL (L s) = comb a b c (Gram.part 45 (Gram.part 43 (L s)).1).2 (Gram.part 43 (L s)).2 := by
        rw [hst, hbt]
        by_cases hall : a.all isD = true ∧ b.all isD = true ∧ c.all isD = true
        · rw [if_pos hall]
        · rw [if_neg hall]
          unfold comb
          cases ha : numV (mkB a) with
          | none => rfl
          | some u0 => cases hb : numV (mkB b) with
            | none => rfl
            | some u1 => cases hc : numV (mkB c) with
              | none => rfl
              | some u2 => exact absurd ⟨goodN_isD ha, goodN_isD hb, goodN_isD hc⟩ hall
      refine (gram_main s _ _ _ (mkB a) (mkB b) (mkB c) 5000 5000 5000 5000 5000 (endR (Lib.parseUintB 64 (L (mkB a)))).1 (endR (Lib.parseUintB 64 (L (mkB b)))).1 (endR (Lib.parseUintB 64 (L (mkB c)))).1 (endR (Lib.parseUintB 64 (L (mkB a)))).2 (endR (Lib.parseUintB 64 (L (mkB b)))).2 (endR (Lib.parseUintB 64 (L (mkB c)))).2 ht hi na nb nc w).mono ?_
      rintro e w' ⟨he, hb⟩
      refine ⟨?_, hb⟩
      unfold Post5
      rw [hcomb]
      unfold comb
      rcases good_num (mkB a) with ⟨u0, a1, a2, a3⟩ | ⟨a1, a2⟩
      · rcases good_num (mkB b) with ⟨u1, b1, b2, b3⟩ | ⟨b1, b2⟩
        · rcases good_num (mkB c) with ⟨u2, c1, c2, c3⟩ | ⟨c1, c2⟩
          · rw [a2, b2, c2, a3, b3, c3] at he
            rw [a1, b1, c1]
            exact he
          · rw [c2, Bool.and_false] at he
            rw [a1, b1, c1]
            exact he
        · rw [b2, Bool.and_false, Bool.false_and] at he
          rw [a1, b1]
          exact he
      · rw [a2, Bool.false_and, Bool.false_and] at he
        rw [a1]
        exact he
    · refine (gram_bad s _ _ _ true 5000 5000 _ ht hi (Or.inr ⟨rfl, ?_⟩) w).mono ?_
      · rw [List.length_map]
        intro h
        refine h3 ?_
        match hd : dots (Gram.part 45 (Gram.part 43 (L s)).1).1, h with
        | [a, b, c], _ => exact ⟨a, b, c, rfl⟩
      · rintro e w' ⟨he, hb⟩
        refine ⟨?_, hb⟩
        have hbt : byTails (L s) = none := by
          unfold byTails
          simp only []
          rw [if_pos hok2]
          split
          · rename_i a b c hd
            exact absurd ⟨a, b, c, hd⟩ h3
          · rfl
        unfold Post5
        rw [hst, hbt]
        exact he
  · have hok' := Bool.eq_false_iff.2 hok
    rw [hok'] at ht
    refine (gram_bad s _ _ _ false 5000 5000 _ ht hi (Or.inl rfl) w).mono ?_
    rintro e w' ⟨he, hb⟩
    refine ⟨?_, hb⟩
    have hbt : byTails (L s) = none := by
      unfold byTails
      simp only []
      rw [if_neg (fun h => hok ((okT_iff (L s)).2 h))]
    unfold Post5
    rw [hst, hbt]
    exact he
end Go.Proofs.YtdomidlpkffigaaDoor
