/-
  The specification's ways to part a text, over lists.
-/
import Derived.Test.YtmbdpkaplnjopaaDoorSnv
import Derived.Test.YtmbdpkaplnjopaaDoorQGx3
import Derived.Test.YtmbdpkaplnjopaaDoorQGx4
set_option linter.unusedVariables false
set_option linter.unusedSimpArgs false
namespace Go.Proofs.YtmbdpkaplnjopaaDoor
open Go Go.RowKit Go.Proofs.YtmbdpkaplnjopaaDoorW.PrintWords Go.Proofs.YtmbdpkaplnjopaaDoorW.PrintLast Go.Proofs.YtmbdpkaplnjopaaDoor.Gram Go.Proofs.YtmbdpkaplnjopaaDoor.QG

theorem bt_get (s : ByteArray) (y : Int) (h : y.toNat < (L s).length) : bt s y = (((L s)[y.toNat]).toNat : Int) := by
  unfold bt
  rw [dif_pos (by rw [← L_len]; exact h)]
  rfl
theorem byte_eq {x c : UInt8} : ((x.toNat : Int) = (c.toNat : Int)) ↔ x = c := ⟨fun h => UInt8.toNat.inj (by exact_mod_cast h), fun h => by rw [h]⟩
theorem digB (b : UInt8) : spec_isDigit.f (b.toNat : Int) = some (isD b) := by
  have h : ∀ n : Fin 256, spec_isDigit.f (n.val : Int) = some (isD (UInt8.ofNat n.val)) := by decide +kernel
  have := h ⟨b.toNat, b.toNat_lt⟩
  simpa using this
theorem idB (b : UInt8) : spec_isIdent.f (b.toNat : Int) = some (isId b) := by
  have h : ∀ n : Fin 256, spec_isIdent.f (n.val : Int) = some (isId (UInt8.ofNat n.val)) := by decide +kernel
  have := h ⟨b.toNat, b.toNat_lt⟩
  simpa using this
/-- a text cut, with its answers -/
def cutR (c : UInt8) (s : ByteArray) : ByteArray × ByteArray × Bool := match cut c (L s) with | some (a, b) => (mkB a, mkB b, true) | none => (s, ⟨#[]⟩, false)
theorem cutAt_loop (s : ByteArray) (c : UInt8) (hn : s.size ≤ 2147483647) : ∀ (k : Nat) (y : Int), 0 ≤ y → y ≤ s.size → (s.size : Int) < y + k → c ∉ (L s).take y.toNat → spec_cutAt.l0 k s (c.toNat : Int) y = some (cutR c s)
  | 0, y, h0, h1, h2, hq => by omega
  | k + 1, y, h0, h1, h2, hq => by
    rw [spec_cutAt.l0]
    by_cases h : y < (s.size : Int)
    · have hl : y.toNat < (L s).length := by rw [L_len]; omega
      have hw : wrap64 (y + 1) = y + 1 := wrap_next h0 h (by omega)
      rw [if_pos h, if_pos h0, bt_get s y hl, hw]
      by_cases hc : (L s)[y.toNat] = c
      · have hcut : cut c (L s) = some ((L s).take y.toNat, (L s).drop (y.toNat + 1)) := cut_some.2 ⟨by rw [← hc, ← List.drop_eq_getElem_cons hl, List.take_append_drop], hq⟩
        obtain ⟨g1, g2, g3, g4⟩ := sides hn hcut
        have hty : ((L s).take y.toNat).length = y.toNat := by rw [List.length_take]; omega
        rw [if_pos (byte_eq.2 hc), if_pos (by omega), if_pos (by omega), if_pos (by omega)]
        unfold cutR
        rw [hcut]
        rw [hty] at g2 g3
        rw [show (y.toNat : Int) = y by omega] at g2 g3
        rw [hw] at g3
        rw [g2, g3]
      · rw [if_neg (fun h => hc (byte_eq.1 h))]
        refine cutAt_loop s c hn k (y + 1) (by omega) (by omega) (by omega) ?_
        rw [show (y + 1).toNat = y.toNat + 1 by omega, List.take_succ_eq_append_getElem hl]
        intro hm
        rcases List.mem_append.1 hm with hm | hm
        · exact hq hm
        · exact hc (List.mem_singleton.1 hm).symm
    · rw [if_neg h]
      have hno : c ∉ L s := by rw [List.take_of_length_le (by rw [L_len]; omega)] at hq; exact hq
      unfold cutR
      rw [cut_none.2 hno]
theorem cutAt_ok (s : ByteArray) (c : UInt8) (hn : s.size ≤ 2147483647) (k : Nat) (hk : s.size < k) : spec_cutAt.f k s (c.toNat : Int) = some (cutR c s) := by
  unfold spec_cutAt.f
  exact cutAt_loop s c hn k 0 (by omega) (by omega) (by omega) (by simp)
theorem ext_mk (s : ByteArray) (a b : Nat) : s.extract a b = mkB (((L s).drop a).take (b - a)) := L_ext (by rw [L_mk, ← toList_L, Lib.extract_toList])
theorem ids_loop (s : ByteArray) (hn : s.size ≤ 2147483647) : ∀ (k : Nat) (acc : List ByteArray) (fr y : Int), 0 ≤ fr → fr ≤ y → y ≤ s.size → (s.size : Int) < y + k → acc.length ≤ y.toNat → (46 : UInt8) ∉ ((L s).drop fr.toNat).take (y.toNat - fr.toNat) → spec_Identifiers.l0 k s acc fr y = some (acc ++ (dots ((L s).drop fr.toNat)).map mkB)
  | 0, acc, fr, y, h0, h1, h2, h3, ha, hq => by omega
  | k + 1, acc, fr, y, h0, h1, h2, h3, ha, hq => by
    rw [spec_Identifiers.l0]
    by_cases h : y < (s.size : Int)
    · have hl : y.toNat < (L s).length := by rw [L_len]; omega
      have hw : wrap64 (y + 1) = y + 1 := wrap_next (by omega) h (by omega)
      rw [if_pos h, if_pos (by omega), bt_get s y hl, hw]
      have hsp : (L s).drop fr.toNat = ((L s).drop fr.toNat).take (y.toNat - fr.toNat) ++ (L s).drop y.toNat := by
        conv => lhs; rw [← List.take_append_drop (y.toNat - fr.toNat) ((L s).drop fr.toNat)]
        rw [List.drop_drop, show fr.toNat + (y.toNat - fr.toNat) = y.toNat by omega]
      by_cases hc : (L s)[y.toNat] = 46
      · rw [if_pos (show (((L s)[y.toNat]).toNat : Int) = 46 from byte_eq.2 hc), if_pos h0, if_pos h1, if_pos (by omega), if_pos (by omega)]
        rw [ids_loop s hn k (acc ++ [s.extract fr.toNat y.toNat]) (y + 1) (y + 1) (by omega) (Int.le_refl _) (by omega) (by omega) (by rw [List.length_append]; simp only [List.length_cons, List.length_nil]; omega) (by simp)]
        have hd : dots ((L s).drop fr.toNat) = ((L s).drop fr.toNat).take (y.toNat - fr.toNat) :: dots ((L s).drop (y + 1).toNat) := by
          conv => lhs; rw [hsp, List.drop_eq_getElem_cons hl, hc]
          rw [dots_cut hq, show (y + 1).toNat = y.toNat + 1 by omega]
        rw [hd, ext_mk]
        simp
      · rw [if_neg (show ¬ (((L s)[y.toNat]).toNat : Int) = 46 from fun h => hc (byte_eq.1 h))]
        refine ids_loop s hn k acc fr (y + 1) h0 (by omega) (by omega) (by omega) (by omega) ?_
        rw [show (y + 1).toNat - fr.toNat = (y.toNat - fr.toNat) + 1 by omega, List.take_succ_eq_append_getElem (by rw [List.length_drop]; omega)]
        intro hm
        rcases List.mem_append.1 hm with hm | hm
        · exact hq hm
        · refine hc ?_
          have := (List.mem_singleton.1 hm).symm
          rw [List.getElem_drop] at this
          rw [← this]
          congr 1
          omega
    · rw [if_neg h, if_pos h0, if_pos (by omega), if_pos (by omega)]
      have hall : ((L s).drop fr.toNat).take (y.toNat - fr.toNat) = (L s).drop fr.toNat := List.take_of_length_le (by rw [List.length_drop, L_len]; omega)
      rw [hall] at hq
      rw [dots_none hq, ext_mk, List.take_of_length_le (by rw [List.length_drop, L_len]; omega)]
      rfl
theorem ids_ok (s : ByteArray) (hn : s.size ≤ 2147483647) (k : Nat) (hk : s.size < k) : spec_Identifiers.f k s = some ((dots (L s)).map mkB) := by
  unfold spec_Identifiers.f
  have := ids_loop s hn k [] 0 0 (by omega) (by omega) (by omega) (by omega) (by simp) (by simp)
  simpa using this
theorem bne_empty (s : ByteArray) : (s.toList != ([] : List UInt8)) = !(L s).isEmpty := by rw [toList_L]; cases L s <;> rfl
theorem vid_loop (s : ByteArray) (hn : s.size ≤ 2147483647) : ∀ (k : Nat) (y : Int), 0 ≤ y → y ≤ s.size → (s.size : Int) < y + k → spec_ValidIdent.l0 k s y = some (((L s).drop y.toNat).all isId && !(L s).isEmpty)
  | 0, y, h0, h1, h2 => by omega
  | k + 1, y, h0, h1, h2 => by
    rw [spec_ValidIdent.l0]
    by_cases h : y < (s.size : Int)
    · have hl : y.toNat < (L s).length := by rw [L_len]; omega
      rw [if_pos h, if_pos h0, bt_get s y hl, idB, Option.bind_some, drop_at _ y h0 hl, List.all_cons]
      cases hc : isId (L s)[y.toNat]
      · rw [if_neg Bool.false_ne_true]; rfl
      · rw [if_pos rfl, wrap_next h0 h (by omega), Bool.true_and]
        exact vid_loop s hn k (y + 1) (by omega) (by omega) (by omega)
    · rw [if_neg h, List.drop_eq_nil_of_le (by rw [L_len]; omega), bne_empty]
      rfl
theorem vid_ok (s : ByteArray) (hn : s.size ≤ 2147483647) (k : Nat) (hk : s.size < k) : spec_ValidIdent.f k s = some (okM s) := by
  unfold spec_ValidIdent.f
  rw [vid_loop s hn k 0 (by omega) (by omega) (by omega)]
  unfold okM okId
  rw [Bool.and_comm]
  rfl
theorem dig_loop (s : ByteArray) (hn : s.size ≤ 2147483647) : ∀ (k : Nat) (y : Int), 0 ≤ y → y ≤ s.size → (s.size : Int) < y + k → spec_Digits.l0 k s y = some (((L s).drop y.toNat).all isD && !(L s).isEmpty)
  | 0, y, h0, h1, h2 => by omega
  | k + 1, y, h0, h1, h2 => by
    rw [spec_Digits.l0]
    by_cases h : y < (s.size : Int)
    · have hl : y.toNat < (L s).length := by rw [L_len]; omega
      rw [if_pos h, if_pos h0, bt_get s y hl, digB, Option.bind_some, drop_at _ y h0 hl, List.all_cons]
      cases hc : isD (L s)[y.toNat]
      · rw [if_neg Bool.false_ne_true]; rfl
      · rw [if_pos rfl, wrap_next h0 h (by omega), Bool.true_and]
        exact dig_loop s hn k (y + 1) (by omega) (by omega) (by omega)
    · rw [if_neg h, List.drop_eq_nil_of_le (by rw [L_len]; omega), bne_empty]
      rfl
theorem dig_ok (s : ByteArray) (hn : s.size ≤ 2147483647) (k : Nat) (hk : s.size < k) : spec_Digits.f k s = some ((L s).all isD && !(L s).isEmpty) := by
  unfold spec_Digits.f
  exact dig_loop s hn k 0 (by omega) (by omega) (by omega)
theorem vm_loop (ids : List ByteArray) (m : Nat) (hm : ∀ t ∈ ids, t.size ≤ m) (hn : m ≤ 2147483647) (hl : ids.length ≤ 2147483647) : ∀ (k : Nat) (y : Int), 0 ≤ y → y ≤ ids.length → (ids.length : Int) + m + 1 < y + k → spec_ValidMeta.l0 k ids ids.length y = some ((ids.drop y.toNat).all okM)
  | 0, y, h0, h1, h2 => by omega
  | k + 1, y, h0, h1, h2 => by
    rw [spec_ValidMeta.l0]
    by_cases h : y < (ids.length : Int)
    · have hlt : y.toNat < ids.length := by omega
      have hg : rdOf ByteArray.empty ids y = ids[y.toNat] := by
        unfold rdOf; rw [List.getD_eq_getElem?_getD, List.getElem?_eq_getElem hlt]; rfl
      have hsz := hm _ (List.getElem_mem hlt)
      rw [if_pos h, if_pos h0, if_pos h, hg, vid_ok _ (by omega) k (by omega), Option.bind_some, drop_at _ y h0 hlt, List.all_cons]
      cases hc : okM ids[y.toNat]
      · rw [if_neg Bool.false_ne_true]; rfl
      · rw [if_pos rfl, wrap_next h0 h (by omega), Bool.true_and]
        exact vm_loop ids m hm hn hl k (y + 1) (by omega) (by omega) (by omega)
    · rw [if_neg h, List.drop_eq_nil_of_le (by omega)]
      rfl
theorem dots_mem : ∀ {l : List UInt8} {t : List UInt8}, t ∈ dots l → t.length ≤ l.length
  | [], t, h => by simp only [dots, List.mem_singleton] at h; rw [h]; exact Nat.le_refl _
  | x :: l, t, h => by
    unfold dots at h
    split at h
    · rcases List.mem_cons.1 h with h | h
      · rw [h]; exact Nat.zero_le _
      · exact Nat.le_trans (dots_mem h) (Nat.le_succ _)
    · split at h
      · rw [List.mem_singleton.1 h]; simp only [List.length_cons, List.length_nil]; omega
      · rename_i hd tl he
        rcases List.mem_cons.1 h with h | h
        · rw [h]; simp only [List.length_cons]
          have := dots_mem (l := l) (t := hd) (by rw [he]; exact List.mem_cons_self)
          omega
        · exact Nat.le_trans (dots_mem (by rw [he]; exact List.mem_cons_of_mem _ h)) (Nat.le_succ _)
theorem dots_sizes (l : List UInt8) (m : Nat) (h : l.length ≤ m) : ∀ t ∈ (dots l).map mkB, t.size ≤ m := by
  intro t ht
  obtain ⟨u, hu, rfl⟩ := List.mem_map.1 ht
  rw [mk_size]
  exact Nat.le_trans (dots_mem hu) h
theorem vm_ok (l : List UInt8) (hn : l.length ≤ 1000) (k : Nat) (hk : 5000 ≤ k) : spec_ValidMeta.f k (mkB l) = some (okMeta l) := by
  unfold spec_ValidMeta.f
  have hd := dots_len l
  rw [ids_ok _ (by rw [mk_size]; omega) k (by rw [mk_size]; omega), Option.bind_some, L_mk, vm_loop _ 1000 (dots_sizes l 1000 hn) (by decide) (by rw [List.length_map]; omega) k 0 (by omega) (by omega) (by rw [List.length_map]; omega)]
  rw [show ((0 : Int)).toNat = 0 from rfl, List.drop_zero, metaB]
def endR : Lib.NumEnd Nat → Int × Bool
  | .ok u => ((u : Int), true)
  | _ => (0, false)
theorem num_loop (s : ByteArray) (hn : s.size ≤ 2147483647) : ∀ (k : Nat) (y : Int) (acc : Nat), 0 ≤ y → y ≤ s.size → (s.size : Int) < y + k → acc < 18446744073709551616 → ((L s).drop y.toNat).all isD = true → spec_Number.l0 k s (acc : Int) y = some (endR (Lib.parseUintM (2 ^ 64 - 1) acc ((L s).drop y.toNat)))
  | 0, y, acc, h0, h1, h2, ha, hd => by omega
  | k + 1, y, acc, h0, h1, h2, ha, hd => by
    rw [spec_Number.l0]
    by_cases h : y < (s.size : Int)
    · have hl : y.toNat < (L s).length := by rw [L_len]; omega
      rw [drop_at _ y h0 hl, List.all_cons, Bool.and_eq_true] at hd
      have hc := hd.1
      unfold isD at hc
      rw [Bool.and_eq_true] at hc
      have c1 := of_decide_eq_true hc.1
      have c2 := of_decide_eq_true hc.2
      rw [if_pos h, if_pos h0, bt_get s y hl, drop_at _ y h0 hl, Lib.parseUintM]
      generalize (L s)[y.toNat].toNat = c at c1 c2
      rw [if_pos (show 48 ≤ c ∧ c ≤ 57 from ⟨c1, c2⟩), show ((c : Int) - 48) % 256 = ((c - 48 : Nat) : Int) by omega]
      by_cases h1' : 1844674407370955162 ≤ acc
      · rw [if_pos h1', if_pos (by omega)]; rfl
      · rw [if_neg h1']
        by_cases h2' : 2 ^ 64 - 1 < acc * 10 + (c - 48)
        · rw [if_pos h2', if_pos (by omega)]; rfl
        · rw [if_neg h2', if_neg (by omega), wrap_next h0 h (by omega)]
          have he : IntKind.u64.wrap (IntKind.u64.wrap ((acc : Int) * 10) + ((c - 48 : Nat) : Int)) = ((acc * 10 + (c - 48) : Nat) : Int) := by
            rw [IntKind.wrap_u64, IntKind.wrap_u64]; omega
          rw [he]
          exact num_loop s hn k (y + 1) _ (by omega) (by omega) (by omega) (by omega) hd.2
    · rw [if_neg h, List.drop_eq_nil_of_le (by rw [L_len]; omega), Lib.parseUintM]
      rfl
theorem parseM_bad : ∀ (l : List UInt8) (M acc : Nat), l.all isD = false → ∀ u, Lib.parseUintM M acc l ≠ .ok u
  | [], M, acc, h, u => by simp at h
  | c :: l, M, acc, h, u => by
    rw [Lib.parseUintM]
    by_cases hc : 48 ≤ c.toNat ∧ c.toNat ≤ 57
    · rw [if_pos hc]
      have hd : isD c = true := by unfold isD; rw [decide_eq_true hc.1, decide_eq_true hc.2]; rfl
      rw [List.all_cons, hd, Bool.true_and] at h
      split
      · intro e; cases e
      · split
        · intro e; cases e
        · exact parseM_bad l M _ h u
    · rw [if_neg hc]; intro e; cases e
theorem num_ok (s : ByteArray) (hn : s.size ≤ 2147483647) (k : Nat) (hk : s.size < k) : spec_Number.f k s = some (endR (Lib.parseUintB 64 (L s))) := by
  unfold spec_Number.f Lib.parseUintB
  rw [dig_ok s hn k hk, Option.bind_some]
  by_cases he : L s = []
  · rw [if_pos he, he]; rfl
  · have hne : (L s).isEmpty = false := by cases hl : L s with | nil => exact absurd hl he | cons a b => rfl
    rw [if_neg he, hne, Bool.not_false, Bool.and_true]
    cases hd : (L s).all isD
    · rw [if_neg Bool.false_ne_true]
      have hb := parseM_bad (L s) (2 ^ 64 - 1) 0 hd
      cases hp : Lib.parseUintM (2 ^ 64 - 1) 0 (L s) with
      | ok u => exact absurd hp (hb u)
      | «syntax» => rfl
      | range => rfl
    · rw [if_pos rfl]
      exact num_loop s hn k 0 0 (by omega) (by omega) (by omega) (by omega) (by simpa using hd)
/-- a part's number, in both ways -/
theorem kPre_cons_ok {t : ByteArray} {ids : List ByteArray} (h : okP t = true) : kPre (t :: ids) = kPre ids := by unfold kPre; rw [List.find?_cons, h]; rfl
theorem kPre_cons_bad {t : ByteArray} {ids : List ByteArray} (h : okP t = false) : kPre (t :: ids) = if !(L t).isEmpty && (L t).all isD then 4 else 5 := by unfold kPre; rw [List.find?_cons, h]; rfl
theorem pk_loop (ids : List ByteArray) (m : Nat) (hm : ∀ t ∈ ids, t.size ≤ m) (hn : m ≤ 2147483647) (hl : ids.length ≤ 2147483647) : ∀ (k : Nat) (y : Nat), y ≤ ids.length → 2 * ids.length + m + 5 < 2 * y + k → spec_PreKind.l0 k ids ids.length (y : Int) = some ((kPre (ids.drop y) : Nat) : Int)
  | 0, y, h1, h2 => by omega
  | 1, y, h1, h2 => by omega
  | k + 2, y, h1, h2 => by
    rw [spec_PreKind.l0]
    by_cases h : y < ids.length
    · have ih := pk_loop ids m hm hn hl k (y + 1) (by omega) (by omega)
      obtain ⟨t, ht⟩ : ∃ t, t = rdOf ByteArray.empty ids (y : Int) := ⟨_, rfl⟩
      have hd : ids.drop y = t :: ids.drop (y + 1) := by
        rw [List.drop_eq_getElem_cons h, ht]
        unfold rdOf
        rw [Int.toNat_natCast, List.getD_eq_getElem?_getD, List.getElem?_eq_getElem h]
        rfl
      have hts : t.size ≤ m := hm t (by rw [← List.take_append_drop y ids, hd]; simp)
      have hw : wrap64 ((y : Int) + 1) = ((y + 1 : Nat) : Int) := by unfold wrap64; omega
      rw [if_pos (by omega), if_pos (by omega), if_pos (by omega), ← ht, dig_ok t (by omega) (k + 1) (by omega), Option.bind_some]
      have jv : ∀ b : Bool, b = false → spec_PreKind.j1 (k + 1) t ids ids.length (y : Int) b = if okM t = true then some ((kPre (ids.drop (y + 1)) : Nat) : Int) else some 5 := fun b hb => by
        rw [hb, spec_PreKind.j1, if_neg (by decide), vid_ok t (by omega) k (by omega), Option.bind_some, hw, ih]
      have jt : spec_PreKind.j1 (k + 1) t ids ids.length (y : Int) true = some 4 := by rw [spec_PreKind.j1, if_pos rfl]
      have hle := lead_L t
      rw [hd]
      by_cases hD : ((L t).all isD && !(L t).isEmpty) = true
      · rw [if_pos hD]
        rw [Bool.and_eq_true] at hD
        have hM : okM t = true := by
          unfold okM okId
          rw [isD_isId hD.1, hD.2]
          rfl
        by_cases h1' : (t.size : Int) > 1
        · rw [if_pos h1', if_pos (by omega)]
          by_cases h48 : (bt t 0 == 48) = true
          · have hO : okP t = false := by
              unfold okP
              rw [hle, decide_eq_true (by omega), h48, hD.1]
              simp
            rw [h48, jt, kPre_cons_bad hO, if_pos (by rw [hD.1, hD.2]; rfl)]
            rfl
          · have h48' : (bt t 0 == 48) = false := by cases hb : (bt t 0 == 48) <;> simp_all
            have hO : okP t = true := by
              unfold okP
              rw [show okId (L t) = true from hM, hle, h48']
              simp
            rw [jv _ h48', if_pos hM, kPre_cons_ok hO]
        · have hO : okP t = true := by
            unfold okP
            rw [show okId (L t) = true from hM, hle, decide_eq_false (by omega)]
            simp
          rw [if_neg h1', jv _ rfl, if_pos hM, kPre_cons_ok hO]
      · rw [if_neg hD, jv _ rfl]
        by_cases hM : okM t = true
        · have hne : (L t).isEmpty = false := by
            unfold okM okId at hM
            rw [Bool.and_eq_true] at hM
            cases he : (L t).isEmpty
            · rfl
            · rw [he] at hM; exact absurd hM.1 (by decide)
          have hDD : (L t).all isD = false := by
            cases hx : (L t).all isD
            · rfl
            · rw [hx, hne] at hD; exact absurd rfl hD
          have hO : okP t = true := by
            unfold okP
            rw [show okId (L t) = true from hM, hDD]
            rfl
          rw [if_pos hM, kPre_cons_ok hO]
        · have hO : okP t = false := by
            unfold okP
            have h3 : okId (L t) = false := by cases hx : okId (L t) <;> simp_all [okM]
            rw [h3]
            rfl
          have hC : (!(L t).isEmpty && (L t).all isD) = false := by
            cases hx : (!(L t).isEmpty && (L t).all isD)
            · rfl
            · rw [Bool.and_comm] at hx; exact absurd hx hD
          rw [if_neg hM, kPre_cons_bad hO, hC]
          rfl
    · rw [if_neg (by omega), List.drop_eq_nil_of_le (by omega)]
      rfl
theorem pk_ok (l : List UInt8) (hn : l.length ≤ 1000) (k : Nat) (hk : 9000 ≤ k) : spec_PreKind.f k (mkB l) = some ((kPre ((dots l).map mkB) : Nat) : Int) := by
  unfold spec_PreKind.f
  have hd := dots_len l
  have h0 := pk_loop ((dots l).map mkB) 1000 (dots_sizes l 1000 hn) (by decide) (by rw [List.length_map]; omega) k 0 (by omega) (by rw [List.length_map]; omega)
  rw [List.drop_zero] at h0
  rw [ids_ok _ (by rw [mk_size]; omega) k (by rw [mk_size]; omega), Option.bind_some, L_mk]
  exact h0
/-- what a number's bytes say -/
def nkV (t : ByteArray) : Int := if goodN t = true then 0 else if (L t).all isD = true then 4 else 3
theorem nk_ok (t : ByteArray) (hn : t.size ≤ 2147483647) (k : Nat) (hk : t.size < k) : spec_NumberKind.f k t = some (nkV t) := by
  unfold spec_NumberKind.f nkV goodN
  have hle := lead_L t
  rw [toList_L]
  by_cases he : L t = []
  · rw [if_pos he]
    have h1 : ((L t).all isD && !lead (L t)) = true := by rw [he]; rfl
    rw [if_pos h1]
  · rw [if_neg he, dig_ok t hn k hk, Option.bind_some]
    have hne : (L t).isEmpty = false := by cases hx : L t with | nil => exact absurd hx he | cons a b => rfl
    rw [hne]
    by_cases hD : (L t).all isD = true
    · rw [hD, if_pos rfl]
      by_cases h1 : (t.size : Int) > 1
      · rw [if_pos h1, if_pos (show 0 < (t.size : Int) by omega), hle, decide_eq_true (show 1 < (t.size : Int) by omega)]
        by_cases h48 : bt t 0 = 48
        · rw [if_pos h48, h48]
          rfl
        · rw [if_neg h48, beq_eq_false_iff_ne.2 h48]
          rfl
      · rw [if_neg h1, hle, decide_eq_false (by omega)]
        rfl
    · have hD' : (L t).all isD = false := by cases hx : (L t).all isD <;> simp_all
      rw [hD', if_neg (by decide)]
      rfl
end Go.Proofs.YtmbdpkaplnjopaaDoor
