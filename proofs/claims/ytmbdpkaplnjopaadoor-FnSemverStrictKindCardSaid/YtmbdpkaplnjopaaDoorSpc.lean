/-
  The specification's kind of a text that is read strictly, in one contract: the kind that StrictNewVersion's own contract tells.
-/
import Derived.Test.YtmbdpkaplnjopaaDoorKin
set_option linter.unusedVariables false
set_option linter.unusedSimpArgs false
namespace Go.Proofs.YtmbdpkaplnjopaaDoor
open Go Go.RowKit Go.Proofs.YtmbdpkaplnjopaaDoorW.PrintWords Go.Proofs.YtmbdpkaplnjopaaDoorW.PrintLast Go.Proofs.YtmbdpkaplnjopaaDoor.Gram Go.Proofs.YtmbdpkaplnjopaaDoor.QG
theorem nkV_good {t : ByteArray} (h : goodN t = true) : nkV t = 0 := by unfold nkV; rw [if_pos h]
theorem nkV_bad {t : ByteArray} (h : goodN t = false) : nkV t = kOf (if (L t).all isD = true then 4 else 3) ∧ nkV t ≠ 0 := by
  unfold nkV
  rw [if_neg (by rw [h]; decide)]
  split
  · exact ⟨rfl, by decide⟩
  · exact ⟨rfl, by decide⟩
theorem okN_num {t : ByteArray} (h : goodN t = true) : okN t = (numV t).isSome := by
  unfold okN numV
  rw [if_pos h]
  show (endR (Lib.parseUintB 64 (L t))).2 = (match Lib.parseUintB 64 (L t) with | .ok u => some u | _ => none).isSome
  cases Lib.parseUintB 64 (L t) <;> rfl
theorem numK_sK (a b n : BL) : numK a b n = sK (mkB a) (mkB b) (mkB n) := by
  unfold numK
  cases ha : goodN (mkB a)
  · rw [kNum0 ha, sK_a (nkV_bad ha).2, (nkV_bad ha).1]
  cases hb : goodN (mkB b)
  · rw [kNum1 ha hb, sK_b (nkV_good ha) (nkV_bad hb).2, (nkV_bad hb).1]
  cases hn : goodN (mkB n)
  · rw [kNum2 ha hb hn, sK_n (nkV_good ha) (nkV_good hb) (nkV_bad hn).2, (nkV_bad hn).1]
  rw [kNum_none ha hb hn, ← okN_num ha, ← okN_num hb, ← okN_num hn]
  cases hk : (okN (mkB a) && (okN (mkB b) && okN (mkB n)))
  · rw [sK_no (nkV_good ha) (nkV_good hb) (nkV_good hn) hk]; rfl
  · rw [sK_ok (nkV_good ha) (nkV_good hb) (nkV_good hn) hk]; rfl
theorem preK_eq (p : BL) : preK (some p) = ((kPre ((dots p).map mkB) : Nat) : Int) := by
  cases h : okPre p
  · rw [preK_bad h]
    rcases kPre_two _ ((preB p).trans h) with h1 | h1 <;> rw [h1] <;> rfl
  · rw [preK_ok h]
    have h1 := (preB p).trans h
    have h2 : kPre ((dots p).map mkB) = 0 := by
      unfold kPre
      have hf : ((dots p).map mkB).find? (fun t => !okP t) = none := by
        rw [List.find?_eq_none]
        intro t ht
        rw [List.all_eq_true.1 h1 t ht]
        decide
      rw [hf]
    rw [h2]
    rfl
theorem cutR_none {c : UInt8} {s : ByteArray} (h : cut c (L s) = none) : cutR c s = (s, ⟨#[]⟩, false) := by unfold cutR; rw [h]
theorem cutR_some {c : UInt8} {s : ByteArray} {a b : BL} (h : cut c (L s) = some (a, b)) : cutR c s = (mkB a, mkB b, true) := by unfold cutR; rw [h]
theorem toList_empty {s : ByteArray} (h : s.size ≠ 0) : (s.toList == []) = false ∧ s.toList.isEmpty = false := by
  have he : (L s).isEmpty = false := by
    cases hx : L s with
    | nil => exact absurd (by rw [← L_len, hx]; rfl) h
    | cons a b => rfl
  exact ⟨(empty_L false he).2, (empty_L false he).1⟩
theorem spec6 (s : ByteArray) (hn : s.size ≤ 65536) (w : World) : Calls Tryd.prog 6 #[.string s] w fun e w' => e = .returned (.int .i64 (outL (L s))) ∧ Below w.heap.size w w' := by
  obtain ⟨a, r, one, h1⟩ : ∃ a r x, cutR 46 s = (a, r, x) := ⟨_, _, _, rfl⟩
  obtain ⟨b, c, two, h2⟩ : ∃ b c x, cutR 46 r = (b, c, x) := ⟨_, _, _, rfl⟩
  have hD := fun w => dotted9 s a r b c one two hn h1 h2 w
  by_cases hz : s.size = 0
  · refine kind6_early s a b c (one && two) _ hD (Or.inl ⟨?_, ?_⟩) w
    · have he : (L s).isEmpty = true := by
        cases hx : L s with
        | nil => rfl
        | cons x y => have := L_len s; rw [hx, hz] at this; cases this
      exact (empty_L true he).2
    · unfold outL
      rw [if_pos (by rw [L_len]; exact hz)]
  have he := toList_empty hz
  by_cases hl : 256 < s.size
  · refine kind6_early s a b c (one && two) _ hD (Or.inr (Or.inl ⟨he.1, decide_eq_true (by omega), ?_⟩)) w
    unfold outL
    rw [if_neg (by rw [L_len]; exact hz), if_pos (by rw [L_len]; exact hl)]
  have hl' : decide (256 < (s.size : Int)) = false := decide_eq_false (by omega)
  have hll : ¬ ((L s).length = 0 ∨ 256 < (L s).length) := by rw [L_len]; omega
  cases k1 : cut 46 (L s) with
  | none =>
    rw [cutR_none k1] at h1
    obtain rfl : false = one := congrArg (·.2.2) h1
    refine kind6_early s a b c _ _ hD (Or.inr (Or.inr ⟨he.1, hl', rfl, ?_⟩)) w
    unfold outL
    rw [if_neg (fun h => hll (Or.inl h)), if_neg (fun h => hll (Or.inr h)), k1]
  | some q1 =>
    obtain ⟨a', r'⟩ := q1
    rw [cutR_some k1] at h1
    obtain rfl : mkB a' = a := congrArg (·.1) h1
    obtain rfl : mkB r' = r := congrArg (·.2.1) h1
    obtain rfl : true = one := congrArg (·.2.2) h1
    have hs1 := cut_le k1
    rw [L_len] at hs1
    cases k2 : cut 46 r' with
    | none =>
      rw [cutR_none (s := mkB r') k2] at h2
      obtain rfl : false = two := congrArg (·.2.2) h2
      refine kind6_early s _ b c _ _ hD (Or.inr (Or.inr ⟨he.1, hl', rfl, ?_⟩)) w
      unfold outL
      rw [if_neg (fun h => hll (Or.inl h)), if_neg (fun h => hll (Or.inr h)), k1]
      simp only [k2]
    | some q2 =>
      obtain ⟨b', c0⟩ := q2
      rw [cutR_some (s := mkB r') k2] at h2
      obtain rfl : mkB b' = b := congrArg (·.1) h2
      obtain rfl : mkB c0 = c := congrArg (·.2.1) h2
      obtain rfl : true = two := congrArg (·.2.2) h2
      have hs2 := cut_le k2
      obtain ⟨rest, mt, plus, h3⟩ : ∃ x y z, cutR 43 (mkB c0) = (x, y, z) := ⟨_, _, _, rfl⟩
      obtain ⟨n, pre, hyph, h4⟩ : ∃ x y z, cutR 45 rest = (x, y, z) := ⟨_, _, _, rfl⟩
      have t3 := cutR_le h3
      have t4 := cutR_le h4
      have sz0 : (mkB c0).size ≤ 256 := by rw [mk_size]; omega
      have hk := kind6_tail s (mkB a') (mkB b') (mkB c0) rest mt n pre plus hyph (okMeta (L mt)) ((kPre ((dots (L pre)).map mkB) : Nat) : Int) he.1 he.2 hl' hD
        (fun w => cut_calls _ 43 43 rfl _ _ _ (by omega) h3 w) (fun w => cut_calls _ 45 45 rfl _ _ _ (by omega) h4 w) (fun w => vm_calls mt (by omega) w) (fun w => pk_calls pre (by omega) w) (by rw [mk_size]; omega) (by rw [mk_size]; omega) (by omega) w
      have hv : outL (L s) = (if (plus && !(okMeta (L mt))) = true then 6 else if (hyph && ((((kPre ((dots (L pre)).map mkB) : Nat) : Int)) != 0)) = true then ((kPre ((dots (L pre)).map mkB) : Nat) : Int) else sK (mkB a') (mkB b') n) := by
        rw [outL_parts hll k1 k2]
        cases k3 : cut 43 c0 with
        | none =>
          rw [cutR_none (s := mkB c0) k3] at h3
          obtain rfl : mkB c0 = rest := congrArg (·.1) h3
          obtain rfl : false = plus := congrArg (·.2.2) h3
          rw [part_none k3]
          cases k4 : cut 45 c0 with
          | none =>
            rw [cutR_none (s := mkB c0) k4] at h4
            obtain rfl : mkB c0 = n := congrArg (·.1) h4
            obtain rfl : false = hyph := congrArg (·.2.2) h4
            rw [part_none k4, val_no rfl rfl]
            exact numK_sK a' b' c0
          | some q4 =>
            obtain ⟨n', p⟩ := q4
            rw [cutR_some (s := mkB c0) k4] at h4
            obtain rfl : mkB n' = n := congrArg (·.1) h4
            obtain rfl : mkB p = pre := congrArg (·.2.1) h4
            obtain rfl : true = hyph := congrArg (·.2.2) h4
            rw [part_some k4]
            show (if metaOk none = false then (6 : Int) else if preK (some p) ≠ 0 then preK (some p) else numK a' b' n') = _
            rw [if_neg (by decide), preK_eq p, numK_sK]
            cases hp : (((kPre ((dots p).map mkB) : Nat) : Int) != 0)
            · rw [if_neg (by simpa using hp), val_no rfl (by rw [L_mk, hp]; rfl)]
            · rw [if_pos (by simpa using hp), val_pk rfl (by rw [L_mk, hp]; rfl), L_mk]
        | some q3 =>
          obtain ⟨c1, m⟩ := q3
          rw [cutR_some (s := mkB c0) k3] at h3
          obtain rfl : mkB c1 = rest := congrArg (·.1) h3
          obtain rfl : mkB m = mt := congrArg (·.2.1) h3
          obtain rfl : true = plus := congrArg (·.2.2) h3
          rw [part_some k3]
          show (if okMeta m = false then (6 : Int) else if preK (Gram.part 45 c1).2 ≠ 0 then preK (Gram.part 45 c1).2 else numK a' b' (Gram.part 45 c1).1) = _
          cases hom : okMeta m
          · rw [if_pos rfl, L_mk, val_six (by rw [hom]; rfl)]
          rw [if_neg (by decide), L_mk m, hom]
          cases k4 : cut 45 c1 with
          | none =>
            rw [cutR_none (s := mkB c1) k4] at h4
            obtain rfl : mkB c1 = n := congrArg (·.1) h4
            obtain rfl : false = hyph := congrArg (·.2.2) h4
            rw [part_none k4, val_no rfl rfl]
            exact numK_sK a' b' c1
          | some q4 =>
            obtain ⟨n', p⟩ := q4
            rw [cutR_some (s := mkB c1) k4] at h4
            obtain rfl : mkB n' = n := congrArg (·.1) h4
            obtain rfl : mkB p = pre := congrArg (·.2.1) h4
            obtain rfl : true = hyph := congrArg (·.2.2) h4
            rw [part_some k4]
            show (if preK (some p) ≠ 0 then preK (some p) else numK a' b' n') = _
            rw [preK_eq p, numK_sK]
            cases hp : (((kPre ((dots p).map mkB) : Nat) : Int) != 0)
            · rw [if_neg (by simpa using hp), val_no rfl (by rw [L_mk, hp]; rfl)]
            · rw [if_pos (by simpa using hp), val_pk rfl (by rw [L_mk, hp]; rfl), L_mk]
      rw [hv]
      exact hk
end Go.Proofs.YtmbdpkaplnjopaaDoor
