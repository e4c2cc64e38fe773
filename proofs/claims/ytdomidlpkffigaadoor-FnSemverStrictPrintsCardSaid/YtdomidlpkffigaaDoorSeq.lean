/-
  The specification's ways to part a text, over lists.
-/
import Derived.Test.YtdomidlpkffigaaDoorSnv
import Derived.Test.YtdomidlpkffigaaDoorQGx3
set_option linter.unusedVariables false
set_option linter.unusedSimpArgs false
namespace Go.Proofs.YtdomidlpkffigaaDoor
open Go Go.RowKit Go.Proofs.YtdomidlpkffigaaDoorW.PrintWords Go.Proofs.YtdomidlpkffigaaDoorW.PrintLast Go.Proofs.YtdomidlpkffigaaDoor.Gram Go.Proofs.YtdomidlpkffigaaDoor.QG

theorem bt_get (s : ByteArray) (y : Int) (h : y.toNat < (L s).length) : bt s y = (((L s)[y.toNat]).toNat : Int) := by
  unfold bt
  rw [dif_pos (by rw [← L_len]; exact h)]
  rfl
theorem byte_eq {x c : UInt8} : ((x.toNat : Int) = (c.toNat : Int)) ↔ x = c := ⟨fun h => UInt8.toNat.inj (by exact_mod_cast h), fun h => by rw [h]⟩
theorem digB (b : UInt8) : spec_isDigit.f (b.toNat : Int) = some (isD b) := by
  have h : ∀ n : Fin 256, spec_isDigit.f (n.val : Int) = some (isD (UInt8.ofNat n.val)) := by decide +kernel
  have := h ⟨b.toNat, b.toNat_lt⟩
  simpa using this
theorem idB (b : UInt8) : spec_isIdent.f (b.toNat : Int) = some (isId b) := by
  have h : ∀ n : Fin 256, spec_isIdent.f (n.val : Int) = some (isId (UInt8.ofNat n.val)) := by decide +kernel
  have := h ⟨b.toNat, b.toNat_lt⟩
  simpa using this
/-- a text cut, with its answers -/
def cutR (c : UInt8) (s : ByteArray) : ByteArray × ByteArray × Bool := match cut c (L s) with | some (a, b) => (mkB a, mkB b, true) | none => (s, ⟨#[]⟩, false)
theorem cutAt_loop (s : ByteArray) (c : UInt8) (hn : s.size ≤ 2147483647) : ∀ (k : Nat) (y : Int), 0 ≤ y → y ≤ s.size → (s.size : Int) < y + k → c ∉ (L s).take y.toNat → spec_cutAt.l0 k s (c.toNat : Int) y = some (cutR c s)
  | 0, y, h0, h1, h2, hq => by omega
  | k + 1, y, h0, h1, h2, hq => by
    rw [spec_cutAt.l0]
    by_cases h : y < (s.size : Int)
    · have hl : y.toNat < (L s).length := by rw [L_len]; omega
      have hw : wrap64 (y + 1) = y + 1 := wrap_next h0 h (by omega)
      rw [if_pos h, if_pos h0, bt_get s y hl, hw]
      by_cases hc : (L s)[y.toNat] = c
      · have hcut : cut c (L s) = some ((L s).take y.toNat, (L s).drop (y.toNat + 1)) := cut_some.2 ⟨by rw [← hc, ← List.drop_eq_getElem_cons hl, List.take_append_drop], hq⟩
        obtain ⟨g1, g2, g3, g4⟩ := sides hn hcut
        have hty : ((L s).take y.toNat).length = y.toNat := by rw [List.length_take]; omega
        rw [if_pos (byte_eq.2 hc), if_pos (by omega), if_pos (by omega), if_pos (by omega)]
        unfold cutR
        rw [hcut]
        rw [hty] at g2 g3
        rw [show (y.toNat : Int) = y by omega] at g2 g3
        rw [hw] at g3
        rw [g2, g3]
      · rw [if_neg (fun h => hc (byte_eq.1 h))]
        refine cutAt_loop s c hn k (y + 1) (by omega) (by omega) (by omega) ?_
        rw [show (y + 1).toNat = y.toNat + 1 by omega, List.take_succ_eq_append_getElem hl]
        intro hm
        rcases List.mem_append.1 hm with hm | hm
        · exact hq hm
        · exact hc (List.mem_singleton.1 hm).symm
    · rw [if_neg h]
      have hno : c ∉ L s := by rw [List.take_of_length_le (by rw [L_len]; omega)] at hq; exact hq
      unfold cutR
      rw [cut_none.2 hno]
theorem cutAt_ok (s : ByteArray) (c : UInt8) (hn : s.size ≤ 2147483647) (k : Nat) (hk : s.size < k) : spec_cutAt.f k s (c.toNat : Int) = some (cutR c s) := by
  unfold spec_cutAt.f
  exact cutAt_loop s c hn k 0 (by omega) (by omega) (by omega) (by simp)
theorem ext_mk (s : ByteArray) (a b : Nat) : s.extract a b = mkB (((L s).drop a).take (b - a)) := L_ext (by rw [L_mk, ← toList_L, Lib.extract_toList])
theorem ids_loop (s : ByteArray) (hn : s.size ≤ 2147483647) : ∀ (k : Nat) (acc : List ByteArray) (fr y : Int), 0 ≤ fr → fr ≤ y → y ≤ s.size → (s.size : Int) < y + k → acc.length ≤ y.toNat → (46 : UInt8) ∉ ((L s).drop fr.toNat).take (y.toNat - fr.toNat) → spec_Identifiers.l0 k s acc fr y = some (acc ++ (dots ((L s).drop fr.toNat)).map mkB)
  | 0, acc, fr, y, h0, h1, h2, h3, ha, hq => by omega
  | k + 1, acc, fr, y, h0, h1, h2, h3, ha, hq => by
    rw [spec_Identifiers.l0]
    by_cases h : y < (s.size : Int)
    · have hl : y.toNat < (L s).length := by rw [L_len]; omega
      have hw : wrap64 (y + 1) = y + 1 := wrap_next (by omega) h (by omega)
      rw [if_pos h, if_pos (by omega), bt_get s y hl, hw]
      have hsp : (L s).drop fr.toNat = ((L s).drop fr.toNat).take (y.toNat - fr.toNat) ++ (L s).drop y.toNat := by
        conv => lhs; rw [← List.take_append_drop (y.toNat - fr.toNat) ((L s).drop fr.toNat)]
        rw [List.drop_drop, show fr.toNat + (y.toNat - fr.toNat) = y.toNat by omega]
      by_cases hc : (L s)[y.toNat] = 46
      · rw [if_pos (show (((L s)[y.toNat]).toNat : Int) = 46 from byte_eq.2 hc), if_pos h0, if_pos h1, if_pos (by omega), if_pos (by omega)]
        rw [ids_loop s hn k (acc ++ [s.extract fr.toNat y.toNat]) (y + 1) (y + 1) (by omega) (Int.le_refl _) (by omega) (by omega) (by rw [List.length_append]; simp only [List.length_cons, List.length_nil]; omega) (by simp)]
        have hd : dots ((L s).drop fr.toNat) = ((L s).drop fr.toNat).take (y.toNat - fr.toNat) :: dots ((L s).drop (y + 1).toNat) := by
          conv => lhs; rw [hsp, List.drop_eq_getElem_cons hl, hc]
          rw [dots_cut hq, show (y + 1).toNat = y.toNat + 1 by omega]
        rw [hd, ext_mk]
        simp
      · rw [if_neg (show ¬ (((L s)[y.toNat]).toNat : Int) = 46 from fun h => hc (byte_eq.1 h))]
        refine ids_loop s hn k acc fr (y + 1) h0 (by omega) (by omega) (by omega) (by omega) ?_
        rw [show (y + 1).toNat - fr.toNat = (y.toNat - fr.toNat) + 1 by omega, List.take_succ_eq_append_getElem (by rw [List.length_drop]; omega)]
        intro hm
        rcases List.mem_append.1 hm with hm | hm
        · exact hq hm
        · refine hc ?_
          have := (List.mem_singleton.1 hm).symm
          rw [List.getElem_drop] at this
          rw [← this]
          congr 1
          omega
    · rw [if_neg h, if_pos h0, if_pos (by omega), if_pos (by omega)]
      have hall : ((L s).drop fr.toNat).take (y.toNat - fr.toNat) = (L s).drop fr.toNat := List.take_of_length_le (by rw [List.length_drop, L_len]; omega)
      rw [hall] at hq
      rw [dots_none hq, ext_mk, List.take_of_length_le (by rw [List.length_drop, L_len]; omega)]
      rfl
theorem ids_ok (s : ByteArray) (hn : s.size ≤ 2147483647) (k : Nat) (hk : s.size < k) : spec_Identifiers.f k s = some ((dots (L s)).map mkB) := by
  unfold spec_Identifiers.f
  have := ids_loop s hn k [] 0 0 (by omega) (by omega) (by omega) (by omega) (by simp) (by simp)
  simpa using this
theorem bne_empty (s : ByteArray) : (s.toList != ([] : List UInt8)) = !(L s).isEmpty := by rw [toList_L]; cases L s <;> rfl
theorem vid_loop (s : ByteArray) (hn : s.size ≤ 2147483647) : ∀ (k : Nat) (y : Int), 0 ≤ y → y ≤ s.size → (s.size : Int) < y + k → spec_ValidIdent.l0 k s y = some (((L s).drop y.toNat).all isId && !(L s).isEmpty)
  | 0, y, h0, h1, h2 => by omega
  | k + 1, y, h0, h1, h2 => by
    rw [spec_ValidIdent.l0]
    by_cases h : y < (s.size : Int)
    · have hl : y.toNat < (L s).length := by rw [L_len]; omega
      rw [if_pos h, if_pos h0, bt_get s y hl, idB, Option.bind_some, drop_at _ y h0 hl, List.all_cons]
      cases hc : isId (L s)[y.toNat]
      · rw [if_neg Bool.false_ne_true]; rfl
      · rw [if_pos rfl, wrap_next h0 h (by omega), Bool.true_and]
        exact vid_loop s hn k (y + 1) (by omega) (by omega) (by omega)
    · rw [if_neg h, List.drop_eq_nil_of_le (by rw [L_len]; omega), bne_empty]
      rfl
theorem vid_ok (s : ByteArray) (hn : s.size ≤ 2147483647) (k : Nat) (hk : s.size < k) : spec_ValidIdent.f k s = some (okM s) := by
  unfold spec_ValidIdent.f
  rw [vid_loop s hn k 0 (by omega) (by omega) (by omega)]
  unfold okM okId
  rw [Bool.and_comm]
  rfl
theorem dig_loop (s : ByteArray) (hn : s.size ≤ 2147483647) : ∀ (k : Nat) (y : Int), 0 ≤ y → y ≤ s.size → (s.size : Int) < y + k → spec_Digits.l0 k s y = some (((L s).drop y.toNat).all isD && !(L s).isEmpty)
  | 0, y, h0, h1, h2 => by omega
  | k + 1, y, h0, h1, h2 => by
    rw [spec_Digits.l0]
    by_cases h : y < (s.size : Int)
    · have hl : y.toNat < (L s).length := by rw [L_len]; omega
      rw [if_pos h, if_pos h0, bt_get s y hl, digB, Option.bind_some, drop_at _ y h0 hl, List.all_cons]
      cases hc : isD (L s)[y.toNat]
      · rw [if_neg Bool.false_ne_true]; rfl
      · rw [if_pos rfl, wrap_next h0 h (by omega), Bool.true_and]
        exact dig_loop s hn k (y + 1) (by omega) (by omega) (by omega)
    · rw [if_neg h, List.drop_eq_nil_of_le (by rw [L_len]; omega), bne_empty]
      rfl
theorem dig_ok (s : ByteArray) (hn : s.size ≤ 2147483647) (k : Nat) (hk : s.size < k) : spec_Digits.f k s = some ((L s).all isD && !(L s).isEmpty) := by
  unfold spec_Digits.f
  exact dig_loop s hn k 0 (by omega) (by omega) (by omega)
theorem vm_loop (ids : List ByteArray) (m : Nat) (hm : ∀ t ∈ ids, t.size ≤ m) (hn : m ≤ 2147483647) (hl : ids.length ≤ 2147483647) : ∀ (k : Nat) (y : Int), 0 ≤ y → y ≤ ids.length → (ids.length : Int) + m + 1 < y + k → spec_ValidMeta.l0 k ids ids.length y = some ((ids.drop y.toNat).all okM)
  | 0, y, h0, h1, h2 => by omega
  | k + 1, y, h0, h1, h2 => by
    rw [spec_ValidMeta.l0]
    by_cases h : y < (ids.length : Int)
    · have hlt : y.toNat < ids.length := by omega
      have hg : rdOf ByteArray.empty ids y = ids[y.toNat] := by
        unfold rdOf; rw [List.getD_eq_getElem?_getD, List.getElem?_eq_getElem hlt]; rfl
      have hsz := hm _ (List.getElem_mem hlt)
      rw [if_pos h, if_pos h0, if_pos h, hg, vid_ok _ (by omega) k (by omega), Option.bind_some, drop_at _ y h0 hlt, List.all_cons]
      cases hc : okM ids[y.toNat]
      · rw [if_neg Bool.false_ne_true]; rfl
      · rw [if_pos rfl, wrap_next h0 h (by omega), Bool.true_and]
        exact vm_loop ids m hm hn hl k (y + 1) (by omega) (by omega) (by omega)
    · rw [if_neg h, List.drop_eq_nil_of_le (by omega)]
      rfl
theorem vp_loop (ids : List ByteArray) (m : Nat) (hm : ∀ t ∈ ids, t.size ≤ m) (hn : m ≤ 2147483647) (hl : ids.length ≤ 2147483647) : ∀ (k : Nat) (y : Int), 0 ≤ y → y ≤ ids.length → (ids.length : Int) + m + 1 < y + k → spec_ValidPre.l0 k ids ids.length y = some ((ids.drop y.toNat).all okP)
  | 0, y, h0, h1, h2 => by omega
  | k + 1, y, h0, h1, h2 => by
    rw [spec_ValidPre.l0]
    by_cases h : y < (ids.length : Int)
    · have hlt : y.toNat < ids.length := by omega
      have hg : rdOf ByteArray.empty ids y = ids[y.toNat] := by
        unfold rdOf; rw [List.getD_eq_getElem?_getD, List.getElem?_eq_getElem hlt]; rfl
      have hsz := hm _ (List.getElem_mem hlt)
      have ih := vp_loop ids m hm hn hl k (y + 1) (by omega) (by omega) (by omega)
      have hle := lead_L ids[y.toNat]
      rw [if_pos h, if_pos h0, if_pos h, hg, vid_ok _ (by omega) k (by omega), Option.bind_some, drop_at _ y h0 hlt, List.all_cons, wrap_next h0 h (by omega)]
      unfold okM
      cases hc : okId (L ids[y.toNat])
      · rw [if_neg Bool.false_ne_true, show okP ids[y.toNat] = false by unfold okP; rw [hc]; rfl]; rfl
      · rw [if_pos rfl, dig_ok _ (by omega) k (by omega), Option.bind_some]
        have hne : (L ids[y.toNat]).isEmpty = false := by
          unfold okId at hc
          rw [Bool.and_eq_true, Bool.not_eq_true'] at hc
          exact hc.1
        rw [hne, Bool.not_false, Bool.and_true]
        cases hd : (L ids[y.toNat]).all isD
        · rw [if_neg Bool.false_ne_true, ih, show okP ids[y.toNat] = true by unfold okP; rw [hc, hd]; rfl, Bool.true_and]
        · rw [if_pos rfl]
          by_cases h1 : (ids[y.toNat].size : Int) > 1
          · rw [if_pos h1, if_pos (by omega)]
            by_cases h48 : bt ids[y.toNat] 0 = 48
            · rw [if_pos h48, show okP ids[y.toNat] = false by unfold okP; rw [hc, hd, hle, decide_eq_true h1, beq_iff_eq.2 h48]; rfl]; rfl
            · rw [if_neg h48, ih, show okP ids[y.toNat] = true by unfold okP; rw [hc, hd, hle, beq_eq_false_iff_ne.2 h48, Bool.and_false]; rfl, Bool.true_and]
          · rw [if_neg h1, ih, show okP ids[y.toNat] = true by unfold okP; rw [hc, hd, hle, decide_eq_false h1]; rfl, Bool.true_and]
    · rw [if_neg h, List.drop_eq_nil_of_le (by omega)]
      rfl
theorem dots_mem : ∀ {l : List UInt8} {t : List UInt8}, t ∈ dots l → t.length ≤ l.length
  | [], t, h => by simp only [dots, List.mem_singleton] at h; rw [h]; exact Nat.le_refl _
  | x :: l, t, h => by
    unfold dots at h
    split at h
    · rcases List.mem_cons.1 h with h | h
      · rw [h]; exact Nat.zero_le _
      · exact Nat.le_trans (dots_mem h) (Nat.le_succ _)
    · split at h
      · rw [List.mem_singleton.1 h]; simp only [List.length_cons, List.length_nil]; omega
      · rename_i hd tl he
        rcases List.mem_cons.1 h with h | h
        · rw [h]; simp only [List.length_cons]
          have := dots_mem (l := l) (t := hd) (by rw [he]; exact List.mem_cons_self)
          omega
        · exact Nat.le_trans (dots_mem (by rw [he]; exact List.mem_cons_of_mem _ h)) (Nat.le_succ _)
theorem dots_sizes (l : List UInt8) (m : Nat) (h : l.length ≤ m) : ∀ t ∈ (dots l).map mkB, t.size ≤ m := by
  intro t ht
  obtain ⟨u, hu, rfl⟩ := List.mem_map.1 ht
  rw [mk_size]
  exact Nat.le_trans (dots_mem hu) h
theorem vm_ok (l : List UInt8) (hn : l.length ≤ 1000) (k : Nat) (hk : 5000 ≤ k) : spec_ValidMeta.f k (mkB l) = some (okMeta l) := by
  unfold spec_ValidMeta.f
  have hd := dots_len l
  rw [ids_ok _ (by rw [mk_size]; omega) k (by rw [mk_size]; omega), Option.bind_some, L_mk, vm_loop _ 1000 (dots_sizes l 1000 hn) (by decide) (by rw [List.length_map]; omega) k 0 (by omega) (by omega) (by rw [List.length_map]; omega)]
  rw [show ((0 : Int)).toNat = 0 from rfl, List.drop_zero, metaB]
theorem vp_ok (l : List UInt8) (hn : l.length ≤ 1000) (k : Nat) (hk : 5000 ≤ k) : spec_ValidPre.f k (mkB l) = some (okPre l) := by
  unfold spec_ValidPre.f
  have hd := dots_len l
  rw [ids_ok _ (by rw [mk_size]; omega) k (by rw [mk_size]; omega), Option.bind_some, L_mk, vp_loop _ 1000 (dots_sizes l 1000 hn) (by decide) (by rw [List.length_map]; omega) k 0 (by omega) (by omega) (by rw [List.length_map]; omega)]
  rw [show ((0 : Int)).toNat = 0 from rfl, List.drop_zero, preB]
end Go.Proofs.YtdomidlpkffigaaDoor
