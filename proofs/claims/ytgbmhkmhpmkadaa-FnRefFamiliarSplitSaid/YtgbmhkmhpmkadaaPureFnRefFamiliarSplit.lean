/-
  A familiar name is split into the domain and the path that it was made of: the plain law.
-/
import Derived.Test.YtgbmhkmhpmkadaaPlainly
set_option linter.unusedVariables false
set_option linter.unusedSimpArgs false
namespace Go.Proofs.Ytgbmhkmhpmkadaa.Pure
open Go Go.RowKit Go.Proofs.Ytgbmhkmhpmkadaa Go.Proofs.Ytgbmhkmhpmkadaa.QW Go.Proofs.YtgbmhkmhpmkadaaW.PrintWords Go.Proofs.YtgbmhkmhpmkadaaW.PrintLast

def hubL : List UInt8 := [100, 111, 99, 107, 101, 114, 46, 105, 111]
def oldL : List UInt8 := [105, 110, 100, 101, 120, 46, 100, 111, 99, 107, 101, 114, 46, 105, 111]
def locL : List UInt8 := [108, 111, 99, 97, 108, 104, 111, 115, 116]
def sm (s : ByteArray) : ByteArray := strOfNums (lowL s s.size)
theorem fst_nn (c : UInt8) (l : List UInt8) (h : l.any (· == c) = true) : 0 ≤ fst c l 0 ∧ fst c l 0 ≤ l.length := by
  obtain ⟨a, b, e, hn⟩ := cut_at c l h
  rw [e, fst_at c b a 0 hn]
  simp only [List.length_append, List.length_cons]
  omega
theorem any_or (p q : UInt8 → Bool) : ∀ l : List UInt8, l.any (fun b => p b || q b) = (l.any p || l.any q)
  | [] => rfl
  | x :: l => by simp only [List.any_cons, any_or p q l]; cases p x <;> cases q x <;> cases l.any p <;> simp
theorem dots_or (s : ByteArray) : anyB isDot s = ((L s).any (· == 46) || (L s).any (· == 58)) := any_or _ _ _
/-- what the convention takes for a domain -/
def takesB (s : ByteArray) : Bool := !((L s).any (· == 47)) && (anyB isDot s || (decide (L s = locL) || ((sm s).toList != s.toList)))
theorem first_int (s : ByteArray) (hn : s.size ≤ 2147483647) (k : Nat) (hk : s.size < k) : spec_RefFirst.f k s 47 = some (fst 47 (L s) 0) ∧ spec_RefFirst.f k s 46 = some (fst 46 (L s) 0) ∧ spec_RefFirst.f k s 58 = some (fst 58 (L s) 0) :=
  ⟨first_ok s 47 hn k hk, first_ok s 46 hn k hk, first_ok s 58 hn k hk⟩
theorem takes_ok (s : ByteArray) (hn : s.size ≤ 2147483647) (k : Nat) (hk : s.size < k) : laws_refTakes.f k s = some (takesB s) := by
  obtain ⟨h47, h46, h58⟩ := first_int s hn k hk
  unfold laws_refTakes.f takesB
  rw [h47, Option.bind_some, dots_or]
  cases a47 : (L s).any (· == 47)
  · rw [fst_none 47 _ 0 a47, if_pos (by decide), h46, Option.bind_some]
    cases a46 : (L s).any (· == 46)
    · rw [fst_none 46 _ 0 a46, if_neg (by decide), h58, Option.bind_some]
      cases a58 : (L s).any (· == 58)
      · rw [fst_none 58 _ 0 a58, if_neg (by decide)]
        by_cases hl : s.toList = [108, 111, 99, 97, 108, 104, 111, 115, 116]
        · rw [if_pos hl, decide_eq_true (show L s = locL by rw [← toList_L]; exact hl)]; rfl
        · rw [if_neg hl, decide_eq_false (fun h => hl (by rw [toList_L]; exact h)), small_ok s hn k hk, Option.bind_some]; rfl
      · rw [if_pos (fst_nn 58 _ a58).1]; rfl
    · rw [if_pos (fst_nn 46 _ a46).1]; rfl
  · rw [if_neg (by have := (fst_nn 47 _ a47).1; omega)]; rfl
theorem plain_split {s : ByteArray} {a b : List UInt8} (h : plainB s = true) (e : L s = a ++ b) : (a.all fun b => decide (b.toNat < 128)) = true ∧ (b.all fun b => decide (b.toNat < 128)) = true := by
  unfold plainB at h
  rw [show s.data.toList = a ++ b from e, List.all_append, Bool.and_eq_true] at h
  exact h
theorem rune_ok (s : ByteArray) (hp : plainB s = true) : reference_zzContainsRune.f s 47 = some ((L s).any (· == 47)) := by
  unfold reference_zzContainsRune.f
  rw [if_pos ⟨hp, rfl⟩]
  rfl
theorem dots_ok (s : ByteArray) (hp : plainB s = true) : reference_zzContainsAny.f s ⟨#[46, 58]⟩ = some (anyB isDot s) := by
  unfold reference_zzContainsAny.f
  rw [if_pos ⟨hp, rfl⟩]
theorem lower_ok (s : ByteArray) (hp : plainB s = true) (hn : s.size ≤ 2147483647) : reference_zzLower.f s = some (sm s) := by
  unfold reference_zzLower.f
  rw [if_pos ⟨hp, hn⟩]
  rfl
theorem cut_none (k : Nat) (t : ByteArray) (hn : t.size ≤ 2147483647) (hk : t.size < k) (h : (L t).any (· == 47) = false) : reference_zzCut.f k t ⟨#[47]⟩ = some (t, ⟨#[]⟩, false) := by
  unfold reference_zzCut.f
  rw [index_ok t hn k hk, Option.bind_some, fst_none 47 _ 0 h, if_neg (by decide)]
theorem cut_some (k : Nat) (a b t : ByteArray) (hn : t.size ≤ 2147483647) (hk : t.size < k) (e : L t = L a ++ 47 :: L b) (ha : (L a).any (· == 47) = false) : reference_zzCut.f k t ⟨#[47]⟩ = some (a, b, true) := by
  have hl : t.size = a.size + 1 + b.size := by rw [← L_len, e, List.length_append, List.length_cons, L_len, L_len]; omega
  have e1 : (((⟨#[47]⟩ : ByteArray).size : Nat) : Int) = 1 := rfl
  unfold reference_zzCut.f
  rw [index_ok t hn k hk, Option.bind_some, e, fst_at 47 _ _ 0 ha, L_len, e1, show wrap64 ((0 : Int) + (a.size : Int) + 1) = (a.size : Int) + 1 by unfold wrap64; omega, if_pos (by omega), if_pos (by omega), if_pos (by omega), if_pos (by omega), if_pos (by omega)]
  have h1 : t.extract 0 ((0 : Int) + (a.size : Int)).toNat = a := L_ext (by
    rw [← toList_L, Lib.extract_toList, show ((0 : Int) + (a.size : Int)).toNat - 0 = (L a).length by rw [L_len]; omega, List.drop_zero, show t.data.toList = L a ++ 47 :: L b from e, List.take_left])
  have h2 : t.extract ((a.size : Int) + 1).toNat t.size = b := L_ext (by
    rw [← toList_L, Lib.extract_toList, show t.data.toList = (L a ++ [47]) ++ L b by rw [List.append_assoc]; exact e, show ((a.size : Int) + 1).toNat = (L a ++ [47]).length by rw [List.length_append, L_len]; rfl, List.drop_left, List.take_of_length_le (by rw [List.length_append, L_len, L_len]; simp only [List.length_cons, List.length_nil]; omega)])
  rw [h1, h2]
theorem split_none (k : Nat) (t : ByteArray) (hn : t.size ≤ 2147483647) (hk : t.size < k) (h : (L t).any (· == 47) = false) : reference_splitDockerDomain.f k t = some (⟨#[100, 111, 99, 107, 101, 114, 46, 105, 111]⟩, (⟨#[108, 105, 98, 114, 97, 114, 121, 47]⟩ : ByteArray) ++ t) := by
  unfold reference_splitDockerDomain.f
  rw [cut_none k t hn hk h, Option.bind_some, if_neg Bool.false_ne_true, if_pos (by omega)]
theorem old_dots {s : ByteArray} (h : s.toList = [105, 110, 100, 101, 120, 46, 100, 111, 99, 107, 101, 114, 46, 105, 111]) : anyB isDot s = true := by
  show (L s).any isDot = true
  rw [← toList_L, h]
  rfl
theorem split_taken (k : Nat) (a b t : ByteArray) (hn : t.size ≤ 2147483647) (hk : t.size < k) (e : L t = L a ++ 47 :: L b) (hp : plainB a = true) (hs : a.size ≤ 2147483647) (ht : takesB a = true) (hh : ¬ a.toList = [100, 111, 99, 107, 101, 114, 46, 105, 111]) (ho : ¬ a.toList = [105, 110, 100, 101, 120, 46, 100, 111, 99, 107, 101, 114, 46, 105, 111]) : reference_splitDockerDomain.f k t = some (a, b) := by
  unfold takesB at ht
  rw [Bool.and_eq_true, Bool.not_eq_true'] at ht
  obtain ⟨h47, hr⟩ := ht
  unfold reference_splitDockerDomain.f
  rw [cut_some k a b t hn hk e h47, Option.bind_some]
  simp only [if_true]
  by_cases hl : a.toList = [108, 111, 99, 97, 108, 104, 111, 115, 116]
  · rw [if_pos hl, if_neg hh]
  · rw [if_neg hl, if_neg ho, dots_ok a hp, Option.bind_some]
    cases hd : anyB isDot a
    · rw [if_neg (by decide), lower_ok a hp hs, Option.bind_some]
      rw [hd, decide_eq_false (fun h => hl (by rw [toList_L]; exact h)), Bool.false_or, Bool.false_or, bne_iff_ne] at hr
      rw [if_neg hr, if_neg hh]
    · rw [if_pos rfl, if_neg hh]
theorem split_left (k : Nat) (a b t : ByteArray) (hn : t.size ≤ 2147483647) (hk : t.size < k) (e : L t = L a ++ 47 :: L b) (ha : (L a).any (· == 47) = false) (hp : plainB a = true) (hpt : plainB t = true) (hs : a.size ≤ 2147483647) (ht : takesB a = false) : reference_splitDockerDomain.f k t = some (⟨#[100, 111, 99, 107, 101, 114, 46, 105, 111]⟩, t) := by
  unfold takesB at ht
  rw [ha, Bool.not_false, Bool.true_and, Bool.or_eq_false_iff, Bool.or_eq_false_iff] at ht
  obtain ⟨hd, hl, hr⟩ := ht
  have hl := of_decide_eq_false hl
  have h47 : (L t).any (· == 47) = true := by rw [e]; simp
  unfold reference_splitDockerDomain.f
  rw [cut_some k a b t hn hk e ha, Option.bind_some]
  simp only [if_true]
  rw [if_neg (fun h => hl (by rw [← toList_L]; exact h)), if_neg (fun h => by rw [old_dots h] at hd; cases hd), dots_ok a hp, Option.bind_some, hd, if_neg (by decide), lower_ok a hp hs, Option.bind_some, if_pos (by simpa using hr), rune_ok t hpt, Option.bind_some, h47, if_pos rfl]
def hubB : ByteArray := ⟨#[100, 111, 99, 107, 101, 114, 46, 105, 111]⟩
/-- the familiar path of the default domain -/
def famP (p : ByteArray) : ByteArray := if hasLib p = true then (if anyB (· == 47) (p.extract 8 p.size) = true then p else p.extract 8 p.size) else p
theorem fam_hub (p : ByteArray) : fam hubB p = (⟨#[]⟩, famP p) := by
  unfold fam famP
  rw [if_pos (by rw [toList_L]; rfl)]
theorem fam_far (d p : ByteArray) (h : ¬ d.toList = [100, 111, 99, 107, 101, 114, 46, 105, 111]) : fam d p = (d, p) := by
  unfold fam
  rw [if_neg (fun e => h (beq_iff_eq.1 e))]
theorem ext_size (p : ByteArray) (a b : Nat) : (p.extract a b).size ≤ p.size := by
  rw [← L_len, ← toList_L, Lib.extract_toList, List.length_take, List.length_drop, ← Lib.size_eq]
  omega
theorem specFam_ok (p : ByteArray) (hn : p.size ≤ 2147483647) (k : Nat) (hk : p.size < k) : spec_RefFamiliarize.f k hubB p = some (⟨#[]⟩, famP p) := by
  unfold spec_RefFamiliarize.f famP
  rw [if_pos (by rw [toList_L]; rfl)]
  by_cases h8 : (p.size : Int) ≥ 8
  · rw [if_pos h8, if_pos (by decide), if_pos h8]
    have hb : hasLib p = ((p.extract 0 8).toList == [108, 105, 98, 114, 97, 114, 121, 47]) := by
      unfold hasLib
      rw [decide_eq_true (show 8 ≤ p.size by omega), Bool.true_and]
    by_cases hl : (p.extract 0 8).toList = [108, 105, 98, 114, 97, 114, 121, 47]
    · have hs := ext_size p 8 p.size
      rw [if_pos hl, hb, if_pos (beq_iff_eq.2 hl), (first_int (p.extract 8 p.size) (by omega) k (by omega)).1, Option.bind_some]
      cases hc : (L (p.extract 8 p.size)).any (· == 47)
      · rw [fst_none 47 _ 0 hc, if_pos (by decide), if_neg (by show ¬ (L (p.extract 8 p.size)).any (· == 47) = true; rw [hc]; decide)]
      · rw [if_neg (by have := (fst_nn 47 _ hc).1; omega), if_pos (show anyB (· == 47) (p.extract 8 p.size) = true from hc)]
    · rw [if_neg hl, hb, if_neg (fun h => hl (beq_iff_eq.1 h))]
  · have hb : hasLib p = false := by
      unfold hasLib
      rw [decide_eq_false (show ¬ 8 ≤ p.size by omega), Bool.false_and]
    rw [if_neg h8, hb, if_neg (by decide)]
theorem famP_size (p : ByteArray) : (famP p).size ≤ p.size := by
  unfold famP
  have := ext_size p 8 p.size
  split
  · split <;> omega
  · exact Nat.le_refl _
/-- a path of the default domain that the law asks about -/
def hubPathB (p : ByteArray) : Bool := (L p).any (· == 47) && (!((L (famP p)).any (· == 47)) || !(takesB ((famP p).extract 0 (fst 47 (L (famP p)) 0).toNat)))
theorem hubPath_ok (p : ByteArray) (hn : p.size ≤ 2147483647) (k : Nat) (hk : p.size < k) : laws_refHubPath.f k p = some (hubPathB p) := by
  have hf := famP_size p
  unfold laws_refHubPath.f hubPathB
  rw [show spec_RefFamiliarize.f k ⟨#[100, 111, 99, 107, 101, 114, 46, 105, 111]⟩ p = some (⟨#[]⟩, famP p) from specFam_ok p hn k hk, Option.bind_some, (first_int (famP p) (by omega) k (by omega)).1, Option.bind_some, (first_int p hn k hk).1, Option.bind_some]
  cases h47 : (L p).any (· == 47)
  · rw [fst_none 47 _ 0 h47, if_neg (by decide), Bool.false_and]
  · rw [if_pos (fst_nn 47 _ h47).1, Bool.true_and]
    cases hq : (L (famP p)).any (· == 47)
    · rw [fst_none 47 _ 0 hq, if_pos (by decide)]; rfl
    · have hx := fst_nn 47 _ hq
      rw [L_len] at hx
      have he := ext_size (famP p) 0 (fst 47 (L (famP p)) 0).toNat
      rw [if_neg (by have := hx.1; omega), if_pos hx.1, if_pos hx.2, takes_ok ((famP p).extract 0 (fst 47 (L (famP p)) 0).toNat) (by omega) k (by omega), Option.bind_some]
      rfl
theorem lib_join (p : ByteArray) (h : hasLib p = true) : (⟨#[108, 105, 98, 114, 97, 114, 121, 47]⟩ : ByteArray) ++ p.extract 8 p.size = p := by
  unfold hasLib at h
  rw [Bool.and_eq_true, beq_iff_eq] at h
  have h8 := of_decide_eq_true h.1
  have h1 := h.2
  rw [Lib.extract_toList] at h1
  refine L_ext ?_
  show ((⟨#[108, 105, 98, 114, 97, 114, 121, 47]⟩ : ByteArray) ++ p.extract 8 p.size).data.toList = p.data.toList
  rw [ByteArray.data_append, Array.toList_append]
  have h2 : (p.extract 8 p.size).data.toList = p.data.toList.drop 8 := by
    rw [← Lib.toList_data, Lib.extract_toList, List.take_of_length_le (by rw [List.length_drop, ← Lib.size_eq]; exact Nat.le_refl _)]
  rw [h2, show (⟨#[108, 105, 98, 114, 97, 114, 121, 47]⟩ : ByteArray).data.toList = p.data.toList.take 8 from h1.symm, List.take_append_drop]
theorem plain_ext (p : ByteArray) (a b : Nat) (h : plainB p = true) : plainB (p.extract a b) = true := by
  unfold plainB
  rw [List.all_eq_true]
  intro x hx
  exact decide_eq_true (plain_of h x (mem_extract hx))
theorem famP_plain (p : ByteArray) (h : plainB p = true) : plainB (famP p) = true := by
  unfold famP
  split
  · split
    · exact h
    · exact plain_ext p _ _ h
  · exact h
theorem split_hub (k : Nat) (p : ByteArray) (hn : p.size ≤ 2147483647) (hk : p.size < k) (hp : plainB p = true) (hh : hubPathB p = true) : reference_splitDockerDomain.f k (famP p) = some (hubB, p) := by
  have hf := famP_size p
  unfold hubPathB at hh
  rw [Bool.and_eq_true] at hh
  obtain ⟨h47, hr⟩ := hh
  cases hq : (L (famP p)).any (· == 47)
  · have e : famP p = p.extract 8 p.size ∧ hasLib p = true := by
      by_cases hl : hasLib p = true
      · refine ⟨?_, hl⟩
        unfold famP at hq ⊢
        rw [if_pos hl] at hq ⊢
        by_cases hc : anyB (· == 47) (p.extract 8 p.size) = true
        · rw [if_pos hc, h47] at hq; cases hq
        · rw [if_neg hc]
      · unfold famP at hq
        rw [if_neg hl, h47] at hq; cases hq
    rw [split_none k (famP p) (by omega) (by omega) hq, e.1, lib_join p e.2]
    rfl
  · rw [hq, Bool.not_true, Bool.false_or, Bool.not_eq_true'] at hr
    have e : famP p = p := by
      unfold famP at hq ⊢
      by_cases hl : hasLib p = true
      · rw [if_pos hl] at hq ⊢
        by_cases hc : anyB (· == 47) (p.extract 8 p.size) = true
        · rw [if_pos hc]
        · rw [if_neg hc] at hq
          exact absurd hq hc
      · rw [if_neg hl]
    rw [e] at hr hq ⊢
    obtain ⟨a, b, el, ha⟩ := cut_at 47 _ hq
    rw [el, fst_at 47 b a 0 ha] at hr
    have e1 : p.extract 0 ((0 : Int) + (a.length : Int)).toNat = ⟨a.toArray⟩ := L_ext (by
      rw [← toList_L, Lib.extract_toList, show ((0 : Int) + (a.length : Int)).toNat - 0 = a.length by omega, List.drop_zero, show p.data.toList = a ++ 47 :: b from el, List.take_left])
    have hsz := ext_size p 0 ((0 : Int) + (a.length : Int)).toNat
    have hpe := plain_ext p 0 ((0 : Int) + (a.length : Int)).toNat hp
    rw [e1] at hr hsz hpe
    exact split_left k ⟨a.toArray⟩ ⟨b.toArray⟩ p hn hk el ha hpe hp (by omega) hr
theorem fam_ok (d p : ByteArray) (hp : plainB p = true) : impl_RefFamiliarize.f d p = some ((fam d p).1, (fam d p).2) := by
  unfold impl_RefFamiliarize.f reference_ZZFamiliarize.f
  rw [if_pos hp, Option.bind_some]
theorem implSplit_ok (k : Nat) (t a b : ByteArray) (h : reference_splitDockerDomain.f k t = some (a, b)) : impl_RefSplitDocker.f k t = some (a, b) := by
  unfold impl_RefSplitDocker.f reference_ZZSplitDocker.f
  rw [h, Option.bind_some, Option.bind_some]
theorem takes_ne {d : ByteArray} (h : takesB d = true) : ¬ d.toList = [] := by
  intro e
  have e1 : d = ⟨#[]⟩ := L_ext (by rw [← toList_L]; exact e)
  subst e1
  have e2 : sm ⟨#[]⟩ = ⟨#[]⟩ := rfl
  unfold takesB at h
  rw [e2, show anyB isDot ⟨#[]⟩ = false from rfl, decide_eq_false (show ¬ L ⟨#[]⟩ = locL by decide)] at h
  simp at h
theorem j1_true (k : Nat) (x0 x1 : ByteArray) : laws_FnRefFamiliarSplit.j1 (k + 1) x0 x1 true = some true := by
  rw [laws_FnRefFamiliarSplit.j1, if_pos rfl]
theorem j1_false (k : Nat) (hk : 65700 ≤ k) (d p : ByteArray) (hs : d.size + p.size ≤ 65536) (hd : plainB d = true) (hp : plainB p = true) (ht : takesB d = true) (ho : ¬ d.toList = [105, 110, 100, 101, 120, 46, 100, 111, 99, 107, 101, 114, 46, 105, 111]) (hh : d.toList = [100, 111, 99, 107, 101, 114, 46, 105, 111] → hubPathB p = true) : laws_FnRefFamiliarSplit.j1 (k + 1) d p false = some true := by
  rw [laws_FnRefFamiliarSplit.j1, if_neg Bool.false_ne_true, fam_ok d p hp, Option.bind_some]
  by_cases hu : d.toList = [100, 111, 99, 107, 101, 114, 46, 105, 111]
  · have e1 : d = hubB := L_ext (by rw [← toList_L]; exact hu)
    subst e1
    rw [fam_hub, if_pos (by rw [toList_L]), implSplit_ok k _ _ _ (split_hub k p (by omega) (by omega) hp (hh hu)), Option.bind_some, if_pos rfl]
    simp
  · rw [fam_far d p hu, if_neg (takes_ne ht), if_pos (by show d.size + 1 ≤ _; omega), if_pos (by rw [ByteArray.size_append]; show d.size + 1 + p.size ≤ _; omega)]
    have e : L (d ++ (⟨#[47]⟩ : ByteArray) ++ p) = L d ++ 47 :: L p := by
      show (d ++ (⟨#[47]⟩ : ByteArray) ++ p).data.toList = d.data.toList ++ 47 :: p.data.toList
      rw [ByteArray.data_append, ByteArray.data_append, Array.toList_append, Array.toList_append]
      simp
    have hz : (d ++ (⟨#[47]⟩ : ByteArray) ++ p).size = d.size + 1 + p.size := by rw [← L_len, e, List.length_append, List.length_cons, L_len, L_len]; omega
    rw [implSplit_ok k _ _ _ (split_taken k d p _ (by omega) (by omega) e hd (by omega) ht hu ho), Option.bind_some, if_pos rfl]
    simp
/-- the law -/
theorem FnRefFamiliarSplit : laws_FnRefFamiliarSplit.Pure := by
  intro d p _ _
  refine ⟨65702, ?_⟩
  unfold laws_FnRefFamiliarSplit.f
  have ht : laws_FnRefFamiliarSplit.j0 65702 d p true = some true := by
    show laws_FnRefFamiliarSplit.j0 (65700 + 1 + 1) d p true = some true
    rw [laws_FnRefFamiliarSplit.j0, if_pos rfl]
  by_cases h0 : (d.size : Int) > 2147483647
  · rw [if_pos h0]; exact ht
  · rw [if_neg h0]
    by_cases h1 : (p.size : Int) > 2147483647
    · rw [decide_eq_true h1]; exact ht
    · rw [decide_eq_false h1]
      show laws_FnRefFamiliarSplit.j0 (65700 + 1 + 1) d p false = some true
      rw [laws_FnRefFamiliarSplit.j0, if_neg Bool.false_ne_true, show wrap64 ((d.size : Int) + (p.size : Int)) = (d.size : Int) + (p.size : Int) by unfold wrap64; omega]
      by_cases hs : (d.size : Int) + (p.size : Int) > 65536
      · rw [if_pos hs]; exact j1_true _ _ _
      · rw [if_neg hs, plain_ok d (by omega) _ (by omega), Option.bind_some]
        cases hd : plainB d
        · rw [if_neg Bool.false_ne_true]; exact j1_true _ _ _
        · rw [if_pos rfl, plain_ok p (by omega) _ (by omega), Option.bind_some]
          cases hp : plainB p
          · rw [if_neg Bool.false_ne_true]; exact j1_true _ _ _
          · rw [if_pos rfl, takes_ok d (by omega) _ (by omega), Option.bind_some]
            cases hk : takesB d
            · rw [if_neg Bool.false_ne_true]; exact j1_true _ _ _
            · rw [if_pos rfl]
              by_cases ho : d.toList = [105, 110, 100, 101, 120, 46, 100, 111, 99, 107, 101, 114, 46, 105, 111]
              · rw [if_pos ho]; exact j1_true _ _ _
              · rw [if_neg ho]
                by_cases hu : d.toList = [100, 111, 99, 107, 101, 114, 46, 105, 111]
                · rw [if_pos hu, hubPath_ok p (by omega) _ (by omega), Option.bind_some]
                  cases hh : hubPathB p
                  · exact j1_true _ _ _
                  · exact j1_false _ (by omega) d p (by omega) hd hp hk ho (fun _ => hh)
                · rw [if_neg hu]
                  exact j1_false _ (by omega) d p (by omega) hd hp hk ho (fun h => absurd h hu)
end Go.Proofs.Ytgbmhkmhpmkadaa.Pure
