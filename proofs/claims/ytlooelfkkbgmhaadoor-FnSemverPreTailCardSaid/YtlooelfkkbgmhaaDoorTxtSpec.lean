/-
  What the reference's functions over texts come to, as functions of lists of bytes.
-/
import Derived.Test.YtlooelfkkbgmhaaDoorTxt
import Derived.Lib.Strings
import Derived.Test.YtlooelfkkbgmhaaDoorQSx6
import Derived.Test.YtlooelfkkbgmhaaDoorQSx7
namespace Go.Proofs.YtlooelfkkbgmhaaDoor
open Go Txt Go.RowKit QS Go.Proofs.YtlooelfkkbgmhaaDoorW.PrintWords Go.Proofs.YtlooelfkkbgmhaaDoorW.PrintLast

theorem wr (n : Int) (h0 : 0 ≤ n) (h1 : n ≤ 9223372036854775807) : wrap64 n = n := IntWalk.wrap64_in n ⟨by omega, h1⟩
theorem wr_succ (i n : Nat) (h : i < n) (hn : n ≤ 9223372036854775807) : wrap64 ((i : Int) + 1) = ((i + 1 : Nat) : Int) := by rw [wr _ (by omega) (by omega)]; rfl

theorem len_size (a : ByteArray) : a.toList.length = a.size := by rw [ByteArray.toList_eq]; rfl

theorem bt_get (a : ByteArray) (i : Nat) (h : i < a.size) : bt a (i : Int) = (((a.toList[i]'(by rw [len_size]; exact h)).toNat : Nat) : Int) := by
  unfold bt
  rw [dif_pos (show (i : Int).toNat < a.size by simpa using h)]
  congr 2
  simp only [ByteArray.toList_eq]
  rfl

theorem drop_at (a : ByteArray) (i : Nat) (h : i < a.size) : a.toList.drop i = (a.toList[i]'(by rw [len_size]; exact h)) :: a.toList.drop (i + 1) :=
  List.drop_eq_getElem_cons _

theorem isDigit_eq (c : UInt8) : spec_isDigit.f (c.toNat : Int) = some (dig c) := by
  unfold spec_isDigit.f dig
  by_cases h : 48 ≤ c.toNat
  · rw [if_pos (by omega), decide_eq_true h, Bool.true_and]
    congr 1
    rw [Bool.eq_iff_iff]; simp; omega
  · rw [if_neg (by omega), decide_eq_false h, Bool.false_and]

theorem isIdent_eq (c : UInt8) : spec_isIdent.f (c.toNat : Int) = some (idn c) := by
  unfold spec_isIdent.f idn
  rw [isDigit_eq, Option.bind_some]
  by_cases hd : dig c = true
  · rw [if_pos hd, hd]; simp
  · rw [if_neg hd]
    have hd' : dig c = false := by simpa using hd
    rw [hd', Bool.false_or]
    have e45 : ((c.toNat : Int) == 45) = decide (c.toNat = 45) := by rw [Bool.eq_iff_iff]; simp; omega
    rw [e45]
    by_cases h1 : (65 : Int) ≤ c.toNat <;> by_cases h2 : (c.toNat : Int) ≤ 90 <;> by_cases h3 : (97 : Int) ≤ c.toNat <;> by_cases h4 : (c.toNat : Int) ≤ 122 <;> simp [h1, h2, h3, h4] <;> omega

theorem digits_loop (a : ByteArray) (hs : a.size ≤ 9223372036854775807) (d : Nat) : ∀ i : Nat, i + d = a.size →
    Ev (fun k => spec_Digits.l0 k a (i : Int)) ((a.toList.drop i).all dig && !a.toList.isEmpty) := by
  induction d with
  | zero =>
    intro i hi
    have e : a.toList.drop i = [] := List.drop_eq_nil_of_le (by rw [len_size]; omega)
    rw [e]
    refine Ev.step (f := fun _ => some _) (fun k => ?_) (Ev.now _)
    simp only [spec_Digits.l0]
    rw [if_neg (by omega)]
    cases a.toList <;> rfl
  | succ d ih =>
    intro i hi
    have hlt : i < a.size := by omega
    rw [drop_at a i hlt, List.all_cons]
    by_cases hd : dig (a.toList[i]'(by rw [len_size]; exact hlt)) = true
    · refine Ev.step (f := fun k => spec_Digits.l0 k a ((i + 1 : Nat) : Int)) (fun k => ?_) ?_
      · simp only [spec_Digits.l0]
        rw [if_pos (by omega), if_pos (by omega), bt_get a i hlt, isDigit_eq, Option.bind_some, if_pos hd, wr_succ i a.size hlt hs]
      · rw [hd, Bool.true_and]; exact ih (i + 1) (by omega)
    · refine Ev.step (f := fun _ => some false) (fun k => ?_) ?_
      · simp only [spec_Digits.l0]
        rw [if_pos (by omega), if_pos (by omega), bt_get a i hlt, isDigit_eq, Option.bind_some, if_neg hd]
      · have : dig (a.toList[i]'(by rw [len_size]; exact hlt)) = false := by simpa using hd
        rw [this, Bool.false_and, Bool.false_and]; exact Ev.now _

theorem ev_digits (a : ByteArray) (hs : a.size ≤ 9223372036854775807) : Ev (fun k => spec_Digits.f k a) (digitsB a.toList) := digits_loop a hs a.size 0 (by omega)

theorem ident_loop (a : ByteArray) (hs : a.size ≤ 9223372036854775807) (d : Nat) : ∀ i : Nat, i + d = a.size →
    Ev (fun k => spec_ValidIdent.l0 k a (i : Int)) ((a.toList.drop i).all idn && !a.toList.isEmpty) := by
  induction d with
  | zero =>
    intro i hi
    have e : a.toList.drop i = [] := List.drop_eq_nil_of_le (by rw [len_size]; omega)
    rw [e]
    refine Ev.step (f := fun _ => some _) (fun k => ?_) (Ev.now _)
    simp only [spec_ValidIdent.l0]
    rw [if_neg (by omega)]
    cases a.toList <;> rfl
  | succ d ih =>
    intro i hi
    have hlt : i < a.size := by omega
    rw [drop_at a i hlt, List.all_cons]
    by_cases hd : idn (a.toList[i]'(by rw [len_size]; exact hlt)) = true
    · refine Ev.step (f := fun k => spec_ValidIdent.l0 k a ((i + 1 : Nat) : Int)) (fun k => ?_) ?_
      · simp only [spec_ValidIdent.l0]
        rw [if_pos (by omega), if_pos (by omega), bt_get a i hlt, isIdent_eq, Option.bind_some, if_pos hd, wr_succ i a.size hlt hs]
      · rw [hd, Bool.true_and]; exact ih (i + 1) (by omega)
    · refine Ev.step (f := fun _ => some false) (fun k => ?_) ?_
      · simp only [spec_ValidIdent.l0]
        rw [if_pos (by omega), if_pos (by omega), bt_get a i hlt, isIdent_eq, Option.bind_some, if_neg hd]
      · have : idn (a.toList[i]'(by rw [len_size]; exact hlt)) = false := by simpa using hd
        rw [this, Bool.false_and, Bool.false_and]; exact Ev.now _

theorem ev_ident (a : ByteArray) (hs : a.size ≤ 9223372036854775807) : Ev (fun k => spec_ValidIdent.f k a) (identB a.toList) := ident_loop a hs a.size 0 (by omega)


theorem extract_list (a : ByteArray) (f t : Nat) : (a.extract f t).toList = (a.toList.take t).drop f := by
  rw [ByteArray.toList_eq, ByteArray.toList_eq, Lib.extract_data, List.drop_take]

theorem piece_next (l : List UInt8) (f i : Nat) (hf : f ≤ i) (h : i < l.length) : (l.take (i + 1)).drop f = (l.take i).drop f ++ [l[i]] := by
  rw [List.take_succ_eq_append_getElem h, List.drop_append_of_le_length (by rw [List.length_take]; omega)]

theorem idents_loop (a : ByteArray) (hs : a.size ≤ 2147483647) (d : Nat) : ∀ (i f : Nat) (acc : List ByteArray), i + d = a.size → f ≤ i → acc.length ≤ i →
    ∃ L, Ev (fun k => spec_Identifiers.l0 k a acc (f : Int) (i : Int)) L ∧ L.map (·.toList) = acc.map (·.toList) ++ glue ((a.toList.take i).drop f) (split (a.toList.drop i)) := by
  induction d with
  | zero =>
    intro i f acc hi hf hacc
    have e : a.toList.drop i = [] := List.drop_eq_nil_of_le (by rw [len_size]; omega)
    refine ⟨acc ++ [a.extract f a.size], Ev.step (f := fun _ => some _) (fun k => ?_) (Ev.now _), ?_⟩
    · simp only [spec_Identifiers.l0]
      rw [if_neg (by omega), if_pos (by omega), if_pos (by omega), if_pos (by omega)]
      simp
    · rw [e]
      have : i = a.size := by omega
      subst this
      simp [split, glue, extract_list]
  | succ d ih =>
    intro i f acc hi hf hacc
    have hlt : i < a.size := by omega
    have hll : i < a.toList.length := by rw [len_size]; exact hlt
    have hn := wr_succ i a.size hlt (by omega)
    rw [drop_at a i hlt]
    by_cases hd : (a.toList[i]'hll).toNat = 46
    · obtain ⟨L, hL, hm⟩ := ih (i + 1) (i + 1) (acc ++ [a.extract f i]) (by omega) (by omega) (by simp; omega)
      refine ⟨L, Ev.step (fun k => ?_) hL, ?_⟩
      · simp only [spec_Identifiers.l0]
        rw [if_pos (by omega), if_pos (by omega), bt_get a i hlt, if_pos (by omega), if_pos (by omega), if_pos (by omega), if_pos (by omega), if_pos (by omega), hn]
        simp
      · rw [hm]
        rw [split_at _ _ hd]
        have : ((a.toList.take (i + 1)).drop (i + 1)) = [] := by rw [List.drop_eq_nil_iff]; simp; omega
        rw [this, glue_nil _ (split_ne _)]
        simp only [List.map_append, List.map_cons, List.map_nil, extract_list, glue, List.append_nil, List.append_assoc, List.cons_append, List.nil_append]
    · obtain ⟨L, hL, hm⟩ := ih (i + 1) f acc (by omega) (by omega) (by omega)
      refine ⟨L, Ev.step (fun k => ?_) hL, ?_⟩
      · simp only [spec_Identifiers.l0]
        rw [if_pos (by omega), if_pos (by omega), bt_get a i hlt, if_neg (by omega), hn]
      · rw [hm, split_other _ _ hd, piece_next a.toList f i hf hll, glue_glue]

theorem ev_idents (a : ByteArray) (hs : a.size ≤ 2147483647) : ∃ L, Ev (fun k => spec_Identifiers.f k a) L ∧ L.map (·.toList) = split a.toList := by
  obtain ⟨L, h1, h2⟩ := idents_loop a hs a.size 0 0 [] (by omega) (by omega) (by simp)
  refine ⟨L, h1, ?_⟩
  rw [h2]
  simp [glue_nil _ (split_ne _)]

theorem glue_len (p : List UInt8) (L : List (List UInt8)) (n : Nat) (h : ∀ x ∈ L, x.length ≤ n) : ∀ x ∈ glue p L, x.length ≤ p.length + n := by
  cases L with
  | nil => intro x hx; simp [glue] at hx; subst hx; omega
  | cons y ys =>
    intro x hx
    simp only [glue, List.mem_cons] at hx
    rcases hx with rfl | hx
    · have := h y (by simp); simp; omega
    · have := h x (by simp [hx]); omega

theorem split_len (l : List UInt8) : ∀ x ∈ split l, x.length ≤ l.length := by
  induction l with
  | nil => intro x hx; simp [split] at hx; subst hx; simp
  | cons c r ih =>
    by_cases h : c.toNat = 46
    · intro x hx
      rw [split_at c r h] at hx
      simp only [List.mem_cons] at hx
      rcases hx with rfl | hx
      · simp
      · have := ih x hx; simp; omega
    · rw [split_other c r h]
      intro x hx
      have := glue_len [c] (split r) r.length ih x hx
      simp at this ⊢
      omega

theorem split_count (l : List UInt8) : (split l).length ≤ l.length + 1 := by
  induction l with
  | nil => simp [split]
  | cons c r ih =>
    by_cases h : c.toNat = 46
    · rw [split_at c r h]; simp; omega
    · rw [split_other c r h]
      have h2 := split_ne r
      cases hs : split r with
      | nil => exact absurd hs h2
      | cons x xs => rw [hs] at ih; simp [glue] at ih ⊢; omega

theorem rdOf_get (L : List ByteArray) (j : Nat) (h : j < L.length) : rdOf ByteArray.empty L (j : Int) = L[j] := by
  unfold rdOf
  rw [List.getD_eq_getElem?_getD, Int.toNat_natCast, List.getElem?_eq_getElem h, Option.getD_some]

theorem head_get (a : ByteArray) (h : 0 < a.size) : (bt a 0 = 48) ↔ a.toList.head? = some 48 := by
  have hl : 0 < a.toList.length := by rw [len_size]; exact h
  have e := bt_get a 0 h
  rw [show ((0 : Nat) : Int) = 0 from rfl] at e
  rw [e]
  have e2 : a.toList.head? = some (a.toList[0]'hl) := by
    rw [List.head?_eq_getElem?, List.getElem?_eq_getElem hl]
  rw [e2, Option.some.injEq]
  constructor
  · intro h; exact UInt8.toNat_inj.1 (by simpa using Int.ofNat.inj h)
  · intro h; rw [h]; rfl

theorem pre_loop (L : List ByteArray) (hL : ∀ x ∈ L, x.size ≤ 2147483647) (hn : L.length ≤ 4294967296) (d : Nat) : ∀ j : Nat, j + d = L.length →
    Ev (fun k => spec_ValidPre.l0 k L (L.length : Int) (j : Int)) ((L.drop j).all fun x => okId x.toList) := by
  induction d with
  | zero =>
    intro j hj
    rw [List.drop_eq_nil_of_le (by omega)]
    refine Ev.step (f := fun _ => some true) (fun k => ?_) (Ev.now _)
    simp only [spec_ValidPre.l0]
    rw [if_neg (by omega)]
  | succ d ih =>
    intro j hj
    have hlt : j < L.length := by omega
    have hx := hL _ (List.getElem_mem hlt)
    rw [List.drop_eq_getElem_cons hlt, List.all_cons]
    have hnext := ih (j + 1) (by omega)
    have hw : wrap64 ((j : Int) + 1) = ((j + 1 : Nat) : Int) := wr_succ j L.length hlt (by omega)
    refine Ev.step (f := fun k => (spec_ValidIdent.f k L[j]).bind fun t115 => (if t115 = true then ((spec_Digits.f k L[j]).bind fun t116 => (if t116 = true then (if (L[j].size : Int) > 1 then (if 0 < (L[j].size : Int) then (if (bt L[j] 0) = 48 then (some false) else (spec_ValidPre.l0 k L (L.length : Int) ((j + 1 : Nat) : Int))) else (none)) else (spec_ValidPre.l0 k L (L.length : Int) ((j + 1 : Nat) : Int))) else (spec_ValidPre.l0 k L (L.length : Int) ((j + 1 : Nat) : Int)))) else (some false))) (fun k => ?_) ?_
    · simp only [spec_ValidPre.l0]
      rw [if_pos (by omega), if_pos (by omega), if_pos (by omega), rdOf_get L j hlt, hw]
    refine Ev.bind (ev_ident L[j] (by omega)) ?_
    by_cases hi : identB L[j].toList = true
    · simp only [hi, if_true]
      refine Ev.bind (ev_digits L[j] (by omega)) ?_
      by_cases hd : digitsB L[j].toList = true
      · simp only [hd, if_true]
        by_cases h1 : (L[j].size : Int) > 1
        · by_cases h2 : bt L[j] 0 = 48
          · refine Ev.congr (f := fun _ => some false) (fun k => ?_) ?_
            · rw [if_pos h1, if_pos (by omega), if_pos h2]
            · have : okId L[j].toList = false := by
                unfold okId
                rw [hi, hd, decide_eq_true (show 1 < L[j].toList.length by rw [len_size]; omega), decide_eq_true ((head_get _ (by omega)).1 h2)]; rfl
              rw [this, Bool.false_and]; exact Ev.now _
          · refine Ev.congr (fun k => ?_) (r := _) (f := fun k => spec_ValidPre.l0 k L (L.length : Int) ((j + 1 : Nat) : Int)) ?_
            · rw [if_pos h1, if_pos (by omega), if_neg h2]
            · have : okId L[j].toList = true := by
                unfold okId
                rw [hi, hd, decide_eq_false (fun h => h2 ((head_get _ (by omega)).2 h))]; simp
              rw [this, Bool.true_and]; exact hnext
        · refine Ev.congr (fun k => ?_) (r := _) (f := fun k => spec_ValidPre.l0 k L (L.length : Int) ((j + 1 : Nat) : Int)) ?_
          · rw [if_neg h1]
          · have : okId L[j].toList = true := by
              unfold okId
              rw [hi, hd, decide_eq_false (show ¬ 1 < L[j].toList.length by rw [len_size]; omega)]; simp
            rw [this, Bool.true_and]; exact hnext
      · have hd' : digitsB L[j].toList = false := by simpa using hd
        simp only [hd']
        have : okId L[j].toList = true := by unfold okId; rw [hi, hd']; rfl
        rw [this, Bool.true_and]
        simpa using hnext
    · have hi' : identB L[j].toList = false := by simpa using hi
      have : okId L[j].toList = false := by unfold okId; rw [hi']; rfl
      rw [this, Bool.false_and]
      simp only [hi']
      exact Ev.now _

theorem small_loop (L : List ByteArray) (hL : ∀ x ∈ L, x.size ≤ 2147483647) (hn : L.length ≤ 4294967296) (d : Nat) : ∀ j : Nat, j + d = L.length →
    Ev (fun k => spec_SmallPre.l0 k L (L.length : Int) (j : Int)) ((L.drop j).all fun x => smId x.toList) := by
  induction d with
  | zero =>
    intro j hj
    rw [List.drop_eq_nil_of_le (by omega)]
    refine Ev.step (f := fun _ => some true) (fun k => ?_) (Ev.now _)
    simp only [spec_SmallPre.l0]
    rw [if_neg (by omega)]
  | succ d ih =>
    intro j hj
    have hlt : j < L.length := by omega
    have hx := hL _ (List.getElem_mem hlt)
    rw [List.drop_eq_getElem_cons hlt, List.all_cons]
    have hnext := ih (j + 1) (by omega)
    have hw : wrap64 ((j : Int) + 1) = ((j + 1 : Nat) : Int) := wr_succ j L.length hlt (by omega)
    refine Ev.step (f := fun k => (spec_Digits.f k L[j]).bind fun t116 => (if t116 = true then (if (L[j].size : Int) > 19 then (some false) else (spec_SmallPre.l0 k L (L.length : Int) ((j + 1 : Nat) : Int))) else (spec_SmallPre.l0 k L (L.length : Int) ((j + 1 : Nat) : Int)))) (fun k => ?_) ?_
    · simp only [spec_SmallPre.l0]
      rw [if_pos (by omega), if_pos (by omega), if_pos (by omega), rdOf_get L j hlt, hw]
    refine Ev.bind (ev_digits L[j] (by omega)) ?_
    by_cases hd : digitsB L[j].toList = true
    · simp only [hd, if_true]
      by_cases h1 : (L[j].size : Int) > 19
      · have : smId L[j].toList = false := by unfold smId; rw [hd, decide_eq_true (show 19 < L[j].toList.length by rw [len_size]; omega)]; rfl
        rw [this, Bool.false_and]
        refine Ev.congr (f := fun _ => some false) (fun k => ?_) (Ev.now _)
        rw [if_pos h1]
      · have : smId L[j].toList = true := by unfold smId; rw [hd, decide_eq_false (show ¬ 19 < L[j].toList.length by rw [len_size]; omega)]; rfl
        rw [this, Bool.true_and]
        refine Ev.congr (fun k => ?_) hnext
        rw [if_neg h1]
    · have hd' : digitsB L[j].toList = false := by simpa using hd
      have : smId L[j].toList = true := by unfold smId; rw [hd']; rfl
      rw [this, Bool.true_and]
      simp only [hd']
      simpa using hnext

theorem all_map (L : List ByteArray) (f : List UInt8 → Bool) : (L.all fun x => f x.toList) = (L.map (·.toList)).all f := by rw [List.all_map]; rfl

theorem idents_sizes {a : ByteArray} {L : List ByteArray} (hs : a.size ≤ 2147483647) (h : L.map (·.toList) = split a.toList) : (∀ x ∈ L, x.size ≤ 2147483647) ∧ L.length ≤ 4294967296 := by
  constructor
  · intro x hx
    have : x.toList ∈ split a.toList := by rw [← h]; exact List.mem_map_of_mem hx
    have := split_len _ _ this
    rw [len_size, len_size] at this
    omega
  · have h2 := split_count a.toList
    rw [← h, List.length_map, len_size] at h2
    omega

theorem ev_validPre (a : ByteArray) (hs : a.size ≤ 2147483647) : Ev (fun k => spec_ValidPre.f k a) (validPreB a.toList) := by
  obtain ⟨L, h1, h2⟩ := ev_idents a hs
  obtain ⟨hz, hc⟩ := idents_sizes hs h2
  refine Ev.bind h1 ?_
  have := pre_loop L hz hc L.length 0 (by omega)
  rw [List.drop_zero, all_map, h2] at this
  exact this

theorem ev_smallPre (a : ByteArray) (hs : a.size ≤ 2147483647) : Ev (fun k => spec_SmallPre.f k a) (smallPreB a.toList) := by
  obtain ⟨L, h1, h2⟩ := ev_idents a hs
  obtain ⟨hz, hc⟩ := idents_sizes hs h2
  refine Ev.bind h1 ?_
  have := small_loop L hz hc L.length 0 (by omega)
  rw [List.drop_zero, all_map, h2] at this
  exact this

end Go.Proofs.YtlooelfkkbgmhaaDoor
