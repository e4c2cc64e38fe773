/-
  The program's ways to part a text, over lists.
-/
import Derived.Test.YtmbdpkaplnjopaaDoorSt
set_option linter.unusedVariables false
set_option linter.unusedSimpArgs false
namespace Go.Proofs.YtmbdpkaplnjopaaDoor
open Go Go.RowKit Go.Proofs.YtmbdpkaplnjopaaDoorW.PrintWords Go.Proofs.YtmbdpkaplnjopaaDoorW.PrintLast Go.Proofs.YtmbdpkaplnjopaaDoor.PFnSemverStrictKind Go.Proofs.YtmbdpkaplnjopaaDoor.Gram

def mkB (l : List UInt8) : ByteArray := ⟨l.toArray⟩
theorem L_mk (l : List UInt8) : L (mkB l) = l := rfl
theorem mk_L (s : ByteArray) : mkB (L s) = s := L_ext rfl
theorem mk_size (l : List UInt8) : (mkB l).size = l.length := by rw [← L_len, L_mk]
theorem drop_at {α : Type} (l : List α) (y : Int) (h0 : 0 ≤ y) (h1 : y.toNat < l.length) : l.drop y.toNat = l[y.toNat] :: l.drop (y + 1).toNat := by
  rw [List.drop_eq_getElem_cons h1, show (y + 1).toNat = y.toNat + 1 by omega]
/-- the first place of a byte -/
def fst (c : UInt8) : List UInt8 → Int → Int
  | [], _ => -1
  | x :: l, i => if x = c then i else fst c l (i + 1)
theorem fst_at (c : UInt8) (b : List UInt8) : ∀ (a : List UInt8) (i : Int), c ∉ a → fst c (a ++ c :: b) i = i + a.length
  | [], i, _ => by simp [fst]
  | x :: a, i, h => by
    have h1 : ¬ x = c := fun e => h (by rw [e]; exact List.mem_cons_self)
    simp only [List.cons_append, fst, if_neg h1, fst_at c b a (i + 1) (fun hm => h (List.mem_cons_of_mem _ hm)), List.length_cons]
    omega
theorem fst_none (c : UInt8) : ∀ (a : List UInt8) (i : Int), c ∉ a → fst c a i = -1
  | [], i, _ => rfl
  | x :: a, i, h => by
    have h1 : ¬ x = c := fun e => h (by rw [e]; exact List.mem_cons_self)
    simp only [fst, if_neg h1, fst_none c a (i + 1) (fun hm => h (List.mem_cons_of_mem _ hm))]
theorem index_loop (s : ByteArray) (c : UInt8) (hn : s.size ≤ 2147483647) : ∀ (k : Nat) (y : Int), 0 ≤ y → y ≤ s.size → (s.size : Int) < y + k → semver_zzIndex.l0 k s ⟨#[c]⟩ y = some (fst c ((L s).drop y.toNat) y)
  | 0, y, h0, h1, h2 => by omega
  | k + 1, y, h0, h1, h2 => by
    have e1 : (((⟨#[c]⟩ : ByteArray).size : Nat) : Int) = 1 := rfl
    rw [semver_zzIndex.l0, e1, wrap_next (n := 2147483648) h0 (by omega) (by omega)]
    by_cases h : y + 1 ≤ (s.size : Int)
    · have hl : y.toNat < (L s).length := by rw [L_len]; omega
      rw [if_pos h, if_pos h0, if_pos (by omega), Lib.extract_toList, toList_L, show (y + 1).toNat - y.toNat = 1 by omega, drop_at _ y h0 hl, fst]
      by_cases hc : (L s)[y.toNat] = c
      · rw [if_pos (by rw [hc]; rfl), if_pos hc]
      · rw [if_neg (fun h => hc (List.head_eq_of_cons_eq (show [(L s)[y.toNat]] = [c] from h))), if_neg hc]
        exact index_loop s c hn k (y + 1) (by omega) (by omega) (by omega)
    · rw [if_neg h, List.drop_eq_nil_of_le (by rw [L_len]; omega), fst]
theorem index_ok (s : ByteArray) (c : UInt8) (hn : s.size ≤ 2147483647) (k : Nat) (hk : s.size < k) : semver_zzIndex.f k s ⟨#[c]⟩ = some (fst c (L s) 0) := by
  unfold semver_zzIndex.f
  exact index_loop s c hn k 0 (by omega) (by omega) (by omega)
theorem contains_ok (s : ByteArray) (c : UInt8) (hn : s.size ≤ 2147483647) (k : Nat) (hk : s.size < k) : semver_zzContains.f k s ⟨#[c]⟩ = some (cut c (L s)).isSome := by
  unfold semver_zzContains.f
  rw [index_ok s c hn k hk, Option.bind_some]
  cases h : cut c (L s) with
  | none => rw [fst_none c _ 0 (cut_none.1 h)]; rfl
  | some q =>
    obtain ⟨e, hq⟩ := cut_some.1 (show cut c (L s) = some (q.1, q.2) from h)
    rw [e, fst_at c _ _ 0 hq]
    simp
/-- what a cut text's two sides are -/
theorem sides {s : ByteArray} {c : UInt8} {a b : List UInt8} (hn : s.size ≤ 2147483647) (h : cut c (L s) = some (a, b)) :
    fst c (L s) 0 = (a.length : Int) ∧ s.extract 0 ((a.length : Int)).toNat = mkB a ∧ s.extract ((wrap64 ((a.length : Int) + 1))).toNat s.size = mkB b ∧ s.size = a.length + 1 + b.length := by
  obtain ⟨e, hq⟩ := cut_some.1 h
  have hl : s.size = a.length + 1 + b.length := by rw [← L_len, e, List.length_append, List.length_cons]; omega
  refine ⟨by rw [e, fst_at c _ _ 0 hq]; omega, L_ext ?_, L_ext ?_, hl⟩
  · rw [L_mk, ← toList_L, Lib.extract_toList, show ((a.length : Int)).toNat - 0 = a.length by omega, List.drop_zero, show s.data.toList = a ++ c :: b from e, List.take_left]
  · rw [L_mk, ← toList_L, Lib.extract_toList, show wrap64 ((a.length : Int) + 1) = (a.length : Int) + 1 by unfold wrap64; omega, show s.data.toList = (a ++ [c]) ++ b by rw [List.append_assoc]; exact e, show ((a.length : Int) + 1).toNat = (a ++ [c]).length by rw [List.length_append]; rfl, List.drop_left, List.take_of_length_le (by rw [List.length_append]; simp only [List.length_cons, List.length_nil]; omega)]
theorem splitN_none {s : ByteArray} {c : UInt8} (n : Int) (acc : List ByteArray) (k : Nat) (hn : s.size ≤ 2147483647) (hk : s.size < k) (ha : acc.length ≤ 8) (h : cut c (L s) = none) : semver_zzSplitN.l0 (k + 1) s ⟨#[c]⟩ n acc = some (acc ++ [s]) := by
  rw [semver_zzSplitN.l0, index_ok s c hn k hk, Option.bind_some, fst_none c _ 0 (cut_none.1 h)]
  rw [if_pos (show (-1 : Int) < 0 by decide), if_pos (show acc.length < 8796093022208 by omega)]
  split <;> rfl
theorem splitN_full {s : ByteArray} {c : UInt8} (n : Int) (acc : List ByteArray) (k : Nat) (ha : acc.length ≤ 8) (h : ¬ (acc.length : Int) < wrap64 (n - 1)) : semver_zzSplitN.l0 (k + 1) s ⟨#[c]⟩ n acc = some (acc ++ [s]) := by
  rw [semver_zzSplitN.l0, if_neg h, if_pos (show acc.length < 8796093022208 by omega)]
theorem splitN_some {s : ByteArray} {c : UInt8} {a b : List UInt8} (n : Int) (acc : List ByteArray) (k : Nat) (hn : s.size ≤ 2147483647) (hk : s.size < k) (ha : acc.length ≤ 8) (hl : (acc.length : Int) < wrap64 (n - 1)) (h : cut c (L s) = some (a, b)) :
    semver_zzSplitN.l0 (k + 1) s ⟨#[c]⟩ n acc = semver_zzSplitN.l0 k (mkB b) ⟨#[c]⟩ n (acc ++ [mkB a]) := by
  obtain ⟨h1, h2, h3, h4⟩ := sides hn h
  have e1 : (((⟨#[c]⟩ : ByteArray).size : Nat) : Int) = 1 := rfl
  rw [semver_zzSplitN.l0, if_pos hl, index_ok s c hn k hk, Option.bind_some, h1, e1, if_neg (by omega), if_pos (by omega), if_pos (by omega), if_pos (show acc.length < 8796093022208 by omega), show wrap64 ((a.length : Int) + 1) = (a.length : Int) + 1 by unfold wrap64; omega, if_pos (by omega), if_pos (by omega)]
  rw [show wrap64 ((a.length : Int) + 1) = (a.length : Int) + 1 by unfold wrap64; omega] at h3
  rw [h2, h3]
theorem w21 : wrap64 ((2 : Int) - 1) = 1 := by unfold wrap64; omega
theorem w31 : wrap64 ((3 : Int) - 1) = 2 := by unfold wrap64; omega
theorem two_some {s : ByteArray} {c : UInt8} {a b : List UInt8} (hn : s.size ≤ 2147483647) (h : cut c (L s) = some (a, b)) : semver_zzSplitN.f (s.size + 3) s ⟨#[c]⟩ 2 = some [mkB a, mkB b] := by
  unfold semver_zzSplitN.f
  rw [splitN_some 2 [] (s.size + 2) hn (by omega) (by simp) (by rw [w21]; simp) h, splitN_full 2 _ (s.size + 1) (by simp) (by rw [w21]; simp)]
  rfl
theorem three_none {s : ByteArray} (hn : s.size ≤ 2147483647) (h : cut 46 (L s) = none) : semver_zzSplitN.f (s.size + 4) s ⟨#[46]⟩ 3 = some [s] := by
  unfold semver_zzSplitN.f
  rw [splitN_none 3 [] (s.size + 3) hn (by omega) (by decide) h]
  rfl
theorem three_one {s : ByteArray} {a r : List UInt8} (hn : s.size ≤ 2147483647) (h : cut 46 (L s) = some (a, r)) (h2 : cut 46 r = none) : semver_zzSplitN.f (s.size + 4) s ⟨#[46]⟩ 3 = some [mkB a, mkB r] := by
  have hz := (sides hn h).2.2.2
  unfold semver_zzSplitN.f
  rw [splitN_some 3 [] (s.size + 3) hn (by omega) (by simp) (by rw [w31]; simp) h, splitN_none 3 _ (s.size + 2) (by rw [mk_size]; omega) (by rw [mk_size]; omega) (by simp) (by rw [L_mk]; exact h2)]
  rfl
theorem three_two {s : ByteArray} {a r b c0 : List UInt8} (hn : s.size ≤ 2147483647) (h : cut 46 (L s) = some (a, r)) (h2 : cut 46 r = some (b, c0)) : semver_zzSplitN.f (s.size + 4) s ⟨#[46]⟩ 3 = some [mkB a, mkB b, mkB c0] := by
  have hz := (sides hn h).2.2.2
  unfold semver_zzSplitN.f
  rw [splitN_some 3 [] (s.size + 3) hn (by omega) (by simp) (by rw [w31]; simp) h, splitN_some 3 _ (s.size + 2) (by rw [mk_size]; omega) (by rw [mk_size]; omega) (by simp) (by rw [w31]; simp) (by rw [L_mk]; exact h2), splitN_full 3 _ (s.size + 1) (by simp) (by rw [w31]; simp)]
  rfl
/-- the identifiers, as the program parts them -/
theorem split_loop : ∀ (n : Nat) (s : ByteArray) (k : Nat) (acc : List ByteArray), s.size ≤ n → s.size ≤ 2147483647 → s.size + 2 ≤ k → acc.length + s.size ≤ 4294967296 → semver_zzSplit.l0 k s ⟨#[46]⟩ acc = some (acc ++ (dots (L s)).map mkB)
  | n, s, 0, acc, h0, hn, hk, ha => by omega
  | n, s, k + 1, acc, h0, hn, hk, ha => by
    have e1 : (((⟨#[46]⟩ : ByteArray).size : Nat) : Int) = 1 := rfl
    rw [semver_zzSplit.l0, index_ok s 46 hn k (by omega), Option.bind_some]
    cases hc : cut 46 (L s) with
    | none =>
      rw [fst_none 46 _ 0 (cut_none.1 hc), if_pos (by decide), if_pos (by omega), dots_none (cut_none.1 hc)]
      simp [mk_L]
    | some q =>
      obtain ⟨a, b⟩ := q
      obtain ⟨h1, h2, h3, h4⟩ := sides hn hc
      obtain ⟨e, hq⟩ := cut_some.1 hc
      have hw : wrap64 ((a.length : Int) + 1) = (a.length : Int) + 1 := by unfold wrap64; omega
      rw [hw] at h3
      match n, h0 with
      | 0, h0 => omega
      | n + 1, h0 =>
        rw [h1, e1, if_neg (by omega), if_pos (by omega), if_pos (by omega), if_pos (by omega), hw, if_pos (by omega), if_pos (by omega), h2, h3, split_loop n (mkB b) k (acc ++ [mkB a]) (by rw [mk_size]; omega) (by rw [mk_size]; omega) (by rw [mk_size]; omega) (by rw [mk_size, List.length_append]; simp only [List.length_cons, List.length_nil]; omega), e, dots_cut hq, L_mk]
        simp
theorem split_ok (s : ByteArray) (hn : s.size ≤ 2147483647) : semver_zzSplit.f (s.size + 2) s ⟨#[46]⟩ = some ((dots (L s)).map mkB) := by
  unfold semver_zzSplit.f
  rw [split_loop s.size s (s.size + 2) [] (Nat.le_refl _) hn (Nat.le_refl _) (by simp; omega)]
  rfl
theorem dots_len : ∀ l : List UInt8, (dots l).length ≤ l.length + 1
  | [] => by simp [dots]
  | x :: l => by
    have h := dots_len l
    unfold dots
    split
    · simp only [List.length_cons]; omega
    · split
      · simp
      · rename_i hd tl he; rw [he] at h; simp only [List.length_cons] at h ⊢; omega
theorem all_map (p : ByteArray → Bool) (q : List UInt8 → Bool) (h : ∀ l, p (mkB l) = q l) (ls : List (List UInt8)) : (ls.map mkB).all p = ls.all q := by
  rw [List.all_map]
  congr 1
  funext l
  exact h l
theorem metaB (l : List UInt8) : ((dots l).map mkB).all okM = okMeta l := all_map _ _ (fun l => by unfold okM; rw [L_mk]) _
theorem preB (l : List UInt8) : ((dots l).map mkB).all okP = okPre l := all_map _ _ (fun l => by unfold okP; rw [L_mk]) _
end Go.Proofs.YtmbdpkaplnjopaaDoor
