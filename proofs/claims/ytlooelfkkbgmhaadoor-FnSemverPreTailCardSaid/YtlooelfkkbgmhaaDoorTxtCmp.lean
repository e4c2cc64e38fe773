/-
  zzIndex, zzSplit and comparePrerelease as functions of lists of bytes.
-/
import Derived.Test.YtlooelfkkbgmhaaDoorTxtEv
import Derived.Test.YtlooelfkkbgmhaaDoorQAx2
namespace Go.Proofs.YtlooelfkkbgmhaaDoor
open Go Txt Go.RowKit QS Go.Proofs.YtlooelfkkbgmhaaDoorW.PrintWords Go.Proofs.YtlooelfkkbgmhaaDoorW.PrintLast

def dotB : ByteArray := ⟨#[46]⟩
theorem dot_size : (⟨#[46]⟩ : ByteArray).size = 1 := rfl
theorem dot_list : (⟨#[46]⟩ : ByteArray).toList = [46] := by rw [ByteArray.toList_eq]
theorem dot_nat (c : UInt8) : c.toNat = 46 ↔ c = 46 := ⟨fun h => UInt8.toNat_inj.1 (by rw [h]; rfl), fun h => by rw [h]; rfl⟩

theorem take_one (l : List UInt8) (i : Nat) (h : i < l.length) : (l.take (i + 1)).drop i = [l[i]] := by
  rw [piece_next l i i (Nat.le_refl _) h]
  have : (l.take i).drop i = [] := by rw [List.drop_eq_nil_iff, List.length_take]; omega
  rw [this]; rfl

theorem index_loop (a : ByteArray) (hs : a.size ≤ 281474976710656) (d : Nat) : ∀ i : Nat, i + d = a.size →
    ∃ r, Ev (fun k => semver_zzIndex.l0 k a (⟨#[46]⟩ : ByteArray) (i : Int)) r ∧ ((r = -1 ∧ ∀ c ∈ a.toList.drop i, ¬ c.toNat = 46) ∨ ∃ p q, a.toList.drop i = p ++ 46 :: q ∧ r = ((i + p.length : Nat) : Int) ∧ ∀ c ∈ p, ¬ c.toNat = 46) := by
  induction d with
  | zero =>
    intro i hi
    have e : a.toList.drop i = [] := List.drop_eq_nil_of_le (by rw [len_size]; omega)
    refine ⟨-1, Ev.step (f := fun _ => some _) (fun k => ?_) (Ev.now _), .inl ⟨rfl, ?_⟩⟩
    · simp only [semver_zzIndex.l0]
      rw [dot_size, wr _ (by omega) (by omega), if_neg (by omega)]
    · rw [e]; intro c hc; cases hc
  | succ d ih =>
    intro i hi
    have hlt : i < a.size := by omega
    have hll : i < a.toList.length := by rw [len_size]; exact hlt
    have hw : wrap64 ((i : Int) + ((1 : Nat) : Int)) = ((i + 1 : Nat) : Int) := by rw [wr _ (by omega) (by omega)]; rfl
    have hx : (a.extract i (i + 1)).toList = [a.toList[i]'hll] := by rw [extract_list, take_one _ _ hll]
    rw [drop_at a i hlt]
    by_cases hd : a.toList[i]'hll = 46
    · refine ⟨(i : Int), Ev.step (f := fun _ => some (i : Int)) (fun k => ?_) (Ev.now _), .inr ⟨[], a.toList.drop (i + 1), ?_, by simp, by simp⟩⟩
      · simp only [semver_zzIndex.l0]
        rw [dot_size, hw, if_pos (by omega), if_pos (by omega), if_pos (by omega), Int.toNat_natCast, Int.toNat_natCast, hx, dot_list, if_pos (by rw [hd])]
      · rw [hd]; rfl
    · obtain ⟨r, hr, h⟩ := ih (i + 1) (by omega)
      refine ⟨r, Ev.step (fun k => ?_) hr, ?_⟩
      · simp only [semver_zzIndex.l0]
        rw [dot_size, hw, if_pos (by omega), if_pos (by omega), if_pos (by omega), Int.toNat_natCast, Int.toNat_natCast, hx, dot_list, if_neg (by simpa using hd), wr_succ i a.size hlt (by omega)]
      · rcases h with ⟨rfl, h⟩ | ⟨p, q, h1, h2, h3⟩
        · refine .inl ⟨rfl, ?_⟩
          intro c hc
          rcases List.mem_cons.1 hc with rfl | hc
          · exact fun e => hd ((dot_nat _).1 e)
          · exact h c hc
        · refine .inr ⟨(a.toList[i]'hll) :: p, q, ?_, ?_, ?_⟩
          · rw [h1]; rfl
          · rw [h2]; simp only [List.length_cons]; omega
          · intro c hc
            rcases List.mem_cons.1 hc with rfl | hc
            · exact fun e => hd ((dot_nat _).1 e)
            · exact h3 c hc

theorem split_loop (n : Nat) : ∀ (a : ByteArray) (acc : List ByteArray), a.size < n → a.size ≤ 281474976710656 → acc.length + a.size < 8796093022208 →
    ∃ L, Ev (fun k => semver_zzSplit.l0 k a (⟨#[46]⟩ : ByteArray) acc) L ∧ L.map (·.toList) = acc.map (·.toList) ++ split a.toList := by
  induction n with
  | zero => intro a acc hn; omega
  | succ n ih =>
    intro a acc hn hs hacc
    obtain ⟨r, hr, h⟩ := index_loop a hs a.size 0 (by omega)
    rw [List.drop_zero] at h
    rcases h with ⟨rfl, h⟩ | ⟨p, q, h1, h2, h3⟩
    · refine ⟨acc ++ [a], Ev.step (fun k => ?_) (Ev.bind (f := fun k t103 => (if t103 < 0 then (if acc.length < 8796093022208 then (some (acc ++ [a])) else (none)) else (if 0 ≤ t103 then (if t103 ≤ (a.size : Int) then (if acc.length < 8796093022208 then (if 0 ≤ (wrap64 (t103 + ((1 : Nat) : Int))) then (if (wrap64 (t103 + ((1 : Nat) : Int))) ≤ (a.size : Int) then (semver_zzSplit.l0 k (a.extract ((wrap64 (t103 + ((1 : Nat) : Int))) : Int).toNat a.size) (⟨#[46]⟩ : ByteArray) (acc ++ [a.extract 0 (t103 : Int).toNat])) else (none)) else (none)) else (none)) else (none)) else (none)))) hr ?_), ?_⟩
      · simp only [semver_zzSplit.l0]
        rw [dot_size]; rfl
      · refine Ev.congr (fun k => ?_) (Ev.now _)
        rw [if_pos (by decide), if_pos (by omega)]
      · rw [List.map_append, split_one _ h]; rfl
    · have hlen : a.size = p.length + (q.length + 1) := by rw [← len_size, h1]; simp
      rw [Nat.zero_add] at h2
      subst h2
      have e0 : (a.extract 0 p.length).toList = p := by rw [extract_list, h1]; simp
      have e1 : (a.extract (p.length + 1) a.size).toList = q := by
        rw [extract_list, ← len_size, List.take_length, h1]
        simp
      have z1 : (a.extract (p.length + 1) a.size).size = q.length := by rw [← len_size, e1]
      have hw : wrap64 ((p.length : Int) + ((1 : Nat) : Int)) = ((p.length + 1 : Nat) : Int) := by rw [wr _ (by omega) (by omega)]; rfl
      obtain ⟨L, hL, hm⟩ := ih (a.extract (p.length + 1) a.size) (acc ++ [a.extract 0 p.length]) (by omega) (by omega) (by simp; omega)
      refine ⟨L, Ev.step (fun k => ?_) (Ev.bind (f := fun k t103 => (if t103 < 0 then (if acc.length < 8796093022208 then (some (acc ++ [a])) else (none)) else (if 0 ≤ t103 then (if t103 ≤ (a.size : Int) then (if acc.length < 8796093022208 then (if 0 ≤ (wrap64 (t103 + ((1 : Nat) : Int))) then (if (wrap64 (t103 + ((1 : Nat) : Int))) ≤ (a.size : Int) then (semver_zzSplit.l0 k (a.extract ((wrap64 (t103 + ((1 : Nat) : Int))) : Int).toNat a.size) (⟨#[46]⟩ : ByteArray) (acc ++ [a.extract 0 (t103 : Int).toNat])) else (none)) else (none)) else (none)) else (none)) else (none)))) hr ?_), ?_⟩
      · simp only [semver_zzSplit.l0]
        rw [dot_size]; rfl
      · refine Ev.congr (fun k => ?_) hL
        rw [if_neg (by omega), if_pos (by omega), if_pos (by omega), if_pos (by omega), hw, if_pos (by omega), if_pos (by omega), Int.toNat_natCast, Int.toNat_natCast]
      · rw [hm, e1, List.map_append, h1]
        have : split (p ++ 46 :: q) = split p ++ split q := split_dot p q
        rw [this, split_one p h3]
        simp [e0]

theorem ev_split (a : ByteArray) (hs : a.size ≤ 2147483647) : ∃ L, Ev (fun k => semver_zzSplit.f k a (⟨#[46]⟩ : ByteArray)) L ∧ L.map (·.toList) = split a.toList := by
  obtain ⟨L, h1, h2⟩ := split_loop (a.size + 1) a [] (by omega) (by omega) (by simp; omega)
  exact ⟨L, h1, h2⟩

/-- comparing two rows of identifiers as the code does -/
def preS : List (List UInt8) → List (List UInt8) → Int
  | [], [] => 0
  | [], b :: y => if partF [] b = 0 then preS [] y else partF [] b
  | a :: x, [] => if partF a [] = 0 then preS x [] else partF a []
  | a :: x, b :: y => if partF a b = 0 then preS x y else partF a b

theorem implPart_any (a b : ByteArray) (ha : a.size ≤ 281474976710656) (hb : b.size ≤ 281474976710656) : semver_comparePrePart.f a b = some (partF a.toList b.toList) := by
  unfold semver_comparePrePart.f
  rw [if_pos ⟨ha, hb⟩]

theorem empty_list : (⟨#[]⟩ : ByteArray).toList = [] := by rw [ByteArray.toList_eq]
theorem mapd (L : List ByteArray) (i : Nat) (h : i < L.length) : (L.map (·.toList)).drop i = L[i].toList :: (L.map (·.toList)).drop (i + 1) := by
  rw [List.drop_eq_getElem_cons (by simpa using h), List.getElem_map]
theorem mapn (L : List ByteArray) (i : Nat) (h : ¬ i < L.length) : (L.map (·.toList)).drop i = [] := by
  rw [List.drop_eq_nil_iff, List.length_map]; omega

theorem cmp_loop (A B : List ByteArray) (hA : ∀ x ∈ A, x.size ≤ 2147483647) (hB : ∀ x ∈ B, x.size ≤ 2147483647) (hnA : A.length ≤ 4294967296) (hnB : B.length ≤ 4294967296) (m : Nat) (hm : m = A.length ∨ m = B.length) (hma : A.length ≤ m) (hmb : B.length ≤ m) (d : Nat) : ∀ i : Nat, i + d = m →
    Ev (fun k => semver_comparePrerelease.l0 k A B (A.length : Int) (B.length : Int) (m : Int) (i : Int)) (preS ((A.map (·.toList)).drop i) ((B.map (·.toList)).drop i)) := by
  induction d with
  | zero =>
    intro i hi
    rw [mapn A i (by omega), mapn B i (by omega), preS]
    refine Ev.step (f := fun _ => some 0) (fun k => ?_) (Ev.now _)
    simp only [semver_comparePrerelease.l0]
    rw [if_neg (by omega)]
  | succ d ih =>
    intro i hi
    have hw : wrap64 ((i : Int) + 1) = ((i + 1 : Nat) : Int) := wr_succ i m (by omega) (by omega)
    have hn := ih (i + 1) (by omega)
    have second : ∀ (x : ByteArray), x.size ≤ 2147483647 →
        Ev (fun k => semver_comparePrerelease.j2 k A B (A.length : Int) (B.length : Int) (m : Int) (i : Int) x)
          (if h : i < B.length then (if partF x.toList B[i].toList = 0 then preS ((A.map (·.toList)).drop (i + 1)) ((B.map (·.toList)).drop (i + 1)) else partF x.toList B[i].toList)
           else (if partF x.toList [] = 0 then preS ((A.map (·.toList)).drop (i + 1)) ((B.map (·.toList)).drop (i + 1)) else partF x.toList [])) := by
      intro x hx
      by_cases hb : i < B.length
      · rw [dif_pos hb]
        have hbs := hB _ (List.getElem_mem hb)
        by_cases hz : partF x.toList B[i].toList = 0
        · rw [if_pos hz]
          refine Ev.step (fun k => ?_) hn
          simp only [semver_comparePrerelease.j2]
          rw [if_pos (by omega), if_pos (by omega), if_pos (by omega), rdOf_get B i hb, implPart_any _ _ (by omega) (by omega), Option.bind_some, if_pos hz, hw]
        · rw [if_neg hz]
          refine Ev.step (f := fun _ => some _) (fun k => ?_) (Ev.now _)
          simp only [semver_comparePrerelease.j2]
          rw [if_pos (by omega), if_pos (by omega), if_pos (by omega), rdOf_get B i hb, implPart_any _ _ (by omega) (by omega), Option.bind_some, if_neg hz]
      · rw [dif_neg hb]
        have he : semver_comparePrePart.f x (⟨#[]⟩ : ByteArray) = some (partF x.toList []) := by rw [implPart_any _ _ (by omega) (by decide), empty_list]
        by_cases hz : partF x.toList [] = 0
        · rw [if_pos hz]
          refine Ev.step (fun k => ?_) hn
          simp only [semver_comparePrerelease.j2]
          rw [if_neg (by omega), he, Option.bind_some, if_pos hz, hw]
        · rw [if_neg hz]
          refine Ev.step (f := fun _ => some _) (fun k => ?_) (Ev.now _)
          simp only [semver_comparePrerelease.j2]
          rw [if_neg (by omega), he, Option.bind_some, if_neg hz]
    by_cases ha : i < A.length
    · have h2 := second A[i] (hA _ (List.getElem_mem ha))
      have e : preS ((A.map (·.toList)).drop i) ((B.map (·.toList)).drop i) = (if h : i < B.length then (if partF A[i].toList B[i].toList = 0 then preS ((A.map (·.toList)).drop (i + 1)) ((B.map (·.toList)).drop (i + 1)) else partF A[i].toList B[i].toList)
           else (if partF A[i].toList [] = 0 then preS ((A.map (·.toList)).drop (i + 1)) ((B.map (·.toList)).drop (i + 1)) else partF A[i].toList [])) := by
        rw [mapd A i ha]
        by_cases hb : i < B.length
        · rw [mapd B i hb, dif_pos hb, preS]
        · rw [mapn B i hb, dif_neg hb, mapn B (i + 1) (by omega), preS]
      rw [e]
      refine Ev.step (fun k => ?_) h2
      simp only [semver_comparePrerelease.l0]
      rw [if_pos (by omega), if_pos (by omega), if_pos (by omega), if_pos (by omega), rdOf_get A i ha]
    · have hb : i < B.length := by omega
      have h2 := second (⟨#[]⟩ : ByteArray) (by decide)
      rw [dif_pos hb, empty_list] at h2
      have e : preS ((A.map (·.toList)).drop i) ((B.map (·.toList)).drop i) = (if partF [] B[i].toList = 0 then preS ((A.map (·.toList)).drop (i + 1)) ((B.map (·.toList)).drop (i + 1)) else partF [] B[i].toList) := by
        rw [mapn A i ha, mapd B i hb, mapn A (i + 1) (by omega), preS]
      rw [e]
      refine Ev.step (fun k => ?_) h2
      simp only [semver_comparePrerelease.l0]
      rw [if_pos (by omega), if_neg (by omega)]

theorem ev_cmpPre (a b : ByteArray) (ha : a.size ≤ 2147483647) (hb : b.size ≤ 2147483647) : Ev (fun k => semver_comparePrerelease.f k a b) (preS (split a.toList) (split b.toList)) := by
  obtain ⟨A, hA, mA⟩ := ev_split a ha
  obtain ⟨B, hB, mB⟩ := ev_split b hb
  obtain ⟨zA, cA⟩ := idents_sizes ha mA
  obtain ⟨zB, cB⟩ := idents_sizes hb mB
  refine Ev.bind hA (Ev.bind hB ?_)
  rw [← mA, ← mB]
  by_cases h : (B.length : Int) > (A.length : Int)
  · refine Ev.congr (f := fun k => semver_comparePrerelease.j0 k A B (A.length : Int) (B.length : Int) (B.length : Int)) (fun k => by rw [if_pos h]) ?_
    refine Ev.step (f := fun k => semver_comparePrerelease.l0 k A B (A.length : Int) (B.length : Int) (B.length : Int) 0) (fun k => by simp only [semver_comparePrerelease.j0]) ?_
    exact cmp_loop A B zA zB cA cB B.length (.inr rfl) (by omega) (by omega) B.length 0 (by omega)
  · refine Ev.congr (f := fun k => semver_comparePrerelease.j0 k A B (A.length : Int) (B.length : Int) (A.length : Int)) (fun k => by rw [if_neg h]) ?_
    refine Ev.step (f := fun k => semver_comparePrerelease.l0 k A B (A.length : Int) (B.length : Int) (A.length : Int) 0) (fun k => by simp only [semver_comparePrerelease.j0]) ?_
    exact cmp_loop A B zA zB cA cB A.length (.inl rfl) (by omega) (by omega) A.length 0 (by omega)

theorem ev_implPre (a b : ByteArray) (ha : a.size ≤ 2147483647) (hb : b.size ≤ 2147483647) : Ev (fun k => impl_ComparePre.f k a b) (preS (split a.toList) (split b.toList)) := by
  unfold impl_ComparePre.f semver_ZZComparePrerelease.f
  exact Ev.bind (Ev.bind (ev_cmpPre a b ha hb) (Ev.now _)) (Ev.now _)

end Go.Proofs.YtlooelfkkbgmhaaDoor
