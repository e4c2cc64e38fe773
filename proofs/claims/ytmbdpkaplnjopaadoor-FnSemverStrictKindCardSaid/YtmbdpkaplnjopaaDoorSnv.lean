/-
  StrictNewVersion in one contract.
-/
import Derived.Test.YtmbdpkaplnjopaaDoorStr
import Derived.Test.YtmbdpkaplnjopaaDoorEqs
set_option linter.unusedVariables false
set_option linter.unusedSimpArgs false
namespace Go.Proofs.YtmbdpkaplnjopaaDoor
open Go Go.RowKit Go.Proofs.YtmbdpkaplnjopaaDoorW.PrintWords Go.Proofs.YtmbdpkaplnjopaaDoorW.PrintLast Go.Proofs.YtmbdpkaplnjopaaDoor.PFnSemverStrictKind Go.Proofs.YtmbdpkaplnjopaaDoor.Gram
set_option maxHeartbeats 8000000 in
set_option maxRecDepth 100000 in
theorem strict_e0 (E : Nat → Addr) (s : ByteArray) (hz : ((s.size : Int) == 0) = true) (w : World) (hG : GlobS E w) :
    Calls Tryd.prog 7 #[.string s] w (PostE E 0 w) := by
  have HG := Aside0.mk hG
  clear hG
  go_enter Tryd.func7, Tryd.ntmps7
  go_upto_region 2 with fail
  have gg := HG.out 0 (by decide)
  first | go_region_held3 (fun W => W.cell? ⟨0, 0, none⟩ = some (.iface 86 (.pointer (some (E 0)))) ∧ Hid (Below w.heap.size w W)) (first | assumption | exact ⟨cell_on (bl_drew (Below.refl _ _)) gg, Lib.hid (bl_drew (Below.refl _ _))⟩ | fail) (first | fail) | fail
  rename_i hH
  have HBZ := Lib.hid hH.2.out
  clear hH gg
  go_wp2_with fail
  go_ret2
  exact ⟨rfl, HBZ.out⟩
set_option maxHeartbeats 8000000 in
set_option maxRecDepth 100000 in
theorem strict_e1 (E : Nat → Addr) (s : ByteArray) (hz : ((s.size : Int) == 0) = false) (hl : decide (256 < (s.size : Int)) = true) (w : World) (hG : GlobS E w) :
    Calls Tryd.prog 7 #[.string s] w (PostE E 1 w) := by
  have HG := Aside0.mk hG
  clear hG
  go_enter Tryd.func7, Tryd.ntmps7
  go_upto_region 4 with fail
  have gg := HG.out 1 (by decide)
  first | go_region_held3 (fun W => W.cell? ⟨1, 0, none⟩ = some (.iface 86 (.pointer (some (E 1)))) ∧ Hid (Below w.heap.size w W)) (first | assumption | exact ⟨cell_on (bl_drew (Below.refl _ _)) gg, Lib.hid (bl_drew (Below.refl _ _))⟩ | fail) (first | fail) | fail
  rename_i hH
  have HBZ := Lib.hid hH.2.out
  clear hH gg
  go_wp2_with fail
  go_ret2
  exact ⟨rfl, HBZ.out⟩
set_option maxHeartbeats 8000000 in
set_option maxRecDepth 100000 in
theorem strict_e2 (E : Nat → Addr) (s : ByteArray) (r : List ByteArray) (ks : Nat) (hz : ((s.size : Int) == 0) = false) (hl : decide (256 < (s.size : Int)) = false) (hspl : semver_zzSplitN.f ks s ⟨#[46]⟩ 3 = some r) (hr3 : r.length ≠ 3) (w : World) (hG : GlobS E w) :
    Calls Tryd.prog 7 #[.string s] w (PostE E 2 w) := by
  have HG := Aside0.mk hG
  clear hG
  have HSPL := Aside0.mk hspl
  clear hspl
  have hne : ((r.length : Int) != 3) = true := bne_iff_ne.2 (by omega)
  clear hr3
  go_enter Tryd.func7, Tryd.ntmps7
  go_upto_region 7 with (go_at_call 15; (with_reducible refine (semver_zzSplitN.calls ks s ⟨#[46]⟩ 3 r _ HSPL.out).mono ?_); rintro e w1 ⟨v, rfl, hR, hb⟩; obtain ⟨A, cap, e1, -, -⟩ := Kd.R_reads hR; subst e1; have HB1 := Aside0.mk hb; clear hR hb)
  have gg := globS_below HG.out HB1.out 2 (by decide)
  first | go_region_held3 (fun W => W.cell? ⟨2, 0, none⟩ = some (.iface 86 (.pointer (some (E 2)))) ∧ Hid (Below w.heap.size w W)) (first | assumption | exact ⟨cell_on (bl_drew (Below.refl _ _)) gg, Lib.hid (bl_drew (HB1.out))⟩ | fail) (first | fail) | fail
  rename_i hH
  have HBZ := Lib.hid hH.2.out
  clear hH gg
  go_wp2_with fail
  go_ret2
  exact ⟨rfl, HBZ.out⟩
/-- the kinds, by the sentinels' numbers -/
def kOf : Nat → Int
  | 0 => 1 | 1 => 2 | 2 => 7 | 3 => 3 | 4 => 4 | 5 => 5 | 6 => 6 | _ => 10
/-- what is wrong with three numbers -/
def numK (a b c : BL) : Int := match kNum (mkB a) (mkB b) (mkB c) with
  | some g => kOf g
  | none => if (numV (mkB a)).isSome && ((numV (mkB b)).isSome && (numV (mkB c)).isSome) then 0 else 10
def metaOk : Option BL → Bool
  | none => true
  | some m => okMeta m
def preK : Option BL → Int
  | none => 0
  | some p => if okPre p = true then 0 else kOf (kPre ((dots p).map mkB))
/-- what is wrong with a text that is read strictly -/
def outL (l : BL) : Int :=
  if l.length = 0 then 1 else if 256 < l.length then 2 else match cut 46 l with
  | none => 7
  | some (a, r) => match cut 46 r with
    | none => 7
    | some (b, c0) => if metaOk (Gram.part 43 c0).2 = false then 6 else if preK (Gram.part 45 (Gram.part 43 c0).1).2 ≠ 0 then preK (Gram.part 45 (Gram.part 43 c0).1).2 else numK a b (Gram.part 45 (Gram.part 43 c0).1).1
theorem kPre_two (ps : List ByteArray) (h : ps.all okP = false) : kPre ps = 4 ∨ kPre ps = 5 := by
  unfold kPre
  cases hf : ps.find? (fun t => !okP t) with
  | none =>
    rw [List.find?_eq_none] at hf
    have h1 : ps.all okP = true := List.all_eq_true.2 fun t ht => by
      have h2 := hf t ht
      cases h3 : okP t
      · rw [h3] at h2; exact absurd rfl h2
      · rfl
    rw [h1] at h; cases h
  | some t =>
    show (if _ then 4 else 5) = 4 ∨ (if _ then 4 else 5) = 5
    split
    · exact Or.inl rfl
    · exact Or.inr rfl
theorem kNum_two {a b c : ByteArray} {g : Nat} (h : kNum a b c = some g) : g = 3 ∨ g = 4 := by
  unfold kNum at h
  split at h
  · injection h with h1
    split at h1 <;> omega
  · cases h
/-- the contract -/
def Post9 (E : Nat → Addr) (s : ByteArray) (w : World) (e : Ending) (w' : World) : Prop :=
  (outL (L s) = 0 ∧ ∃ V, e = .returned (.tuple #[.pointer (some ⟨V, 0, none⟩), .nilIface]) ∧ Below w.heap.size w w') ∨
  (∃ g, g < 7 ∧ outL (L s) = kOf g ∧ e = .returned (.tuple #[.pointer none, .iface 86 (.pointer (some (E g)))]) ∧ Below w.heap.size w w') ∨
  (outL (L s) = 10 ∧ ∃ N, e = .returned (.tuple #[.pointer none, .iface 67 (.pointer (some ⟨N, 0, none⟩))]) ∧ NumErr E N w' ∧ Below w.heap.size w w')
theorem post9_e {E : Nat → Addr} {s : ByteArray} {w w' : World} {e : Ending} (g : Nat) (hg : g < 7) (h : outL (L s) = kOf g) (hp : PostE E g w e w') : Post9 E s w e w' := Or.inr (Or.inl ⟨g, hg, h, hp.1, hp.2⟩)
theorem post9_n {E : Nat → Addr} {s : ByteArray} {w w' : World} {e : Ending} {a b c : BL} {pre mt : ByteArray} (h : outL (L s) = numK a b c) (hp : PostN E w (mkB a) (mkB b) (mkB c) pre mt e w') : Post9 E s w e w' := by
  rcases hp with ⟨u0, u1, u2, g, V, h0, h1, h2, he, hs⟩ | ⟨g, hg, he, hb⟩ | ⟨hk, hn, N, he, hE, hb⟩
  · refine Or.inl ⟨?_, V, he, hs.hb⟩
    rw [h]
    unfold numK
    have hgood : ∀ {t : ByteArray} {u : Nat}, numV t = some u → goodN t = true := fun {t u} ht => by
      cases hg : goodN t
      · rw [numV_bad hg] at ht; cases ht
      · rfl
    rw [kNum_none (hgood h0) (hgood h1) (hgood h2), h0, h1, h2]
    rfl
  · refine Or.inr (Or.inl ⟨g, ?_, ?_, he, hb⟩)
    · rcases kNum_two hg with h1 | h1 <;> omega
    · rw [h]; unfold numK; rw [hg]
  · refine Or.inr (Or.inr ⟨?_, N, he, hE, hb⟩)
    rw [h]
    unfold numK
    rw [hk]
    rcases hn with hn | hn | hn
    · rw [hn]; rfl
    · rw [hn]; cases numV (mkB a) <;> rfl
    · rw [hn]; cases numV (mkB a) <;> cases numV (mkB b) <;> rfl
theorem outL_parts {l a r b c0 : BL} (hl : ¬ (l.length = 0 ∨ 256 < l.length)) (h1 : cut 46 l = some (a, r)) (h2 : cut 46 r = some (b, c0)) : outL l = if metaOk (Gram.part 43 c0).2 = false then 6 else if preK (Gram.part 45 (Gram.part 43 c0).1).2 ≠ 0 then preK (Gram.part 45 (Gram.part 43 c0).1).2 else numK a b (Gram.part 45 (Gram.part 43 c0).1).1 := by
  unfold outL
  rw [if_neg (fun h => hl (Or.inl h)), if_neg (fun h => hl (Or.inr h)), h1]
  simp only [h2]
theorem preK_ok {p : BL} (h : okPre p = true) : preK (some p) = 0 := by
  show (if okPre p = true then (0 : Int) else _) = 0
  rw [if_pos h]
theorem preK_bad {p : BL} (h : okPre p = false) : preK (some p) = kOf (kPre ((dots p).map mkB)) := by
  show (if okPre p = true then (0 : Int) else _) = _
  rw [if_neg (by rw [h]; decide)]
theorem outL_num {l a r b c0 c1 c : BL} {mt pre : Option BL} (hl : ¬ (l.length = 0 ∨ 256 < l.length)) (h1 : cut 46 l = some (a, r)) (h2 : cut 46 r = some (b, c0)) (h3 : Gram.part 43 c0 = (c1, mt)) (h4 : Gram.part 45 c1 = (c, pre)) (hm : metaOk mt = true) (hp : preK pre = 0) : outL l = numK a b c := by
  rw [outL_parts hl h1 h2, h3]
  simp only [h4]
  rw [if_neg (by rw [hm]; decide), if_neg (fun h => h hp)]
theorem outL_pre {l a r b c0 c1 c : BL} {mt pre : Option BL} (hl : ¬ (l.length = 0 ∨ 256 < l.length)) (h1 : cut 46 l = some (a, r)) (h2 : cut 46 r = some (b, c0)) (h3 : Gram.part 43 c0 = (c1, mt)) (h4 : Gram.part 45 c1 = (c, pre)) (hm : metaOk mt = true) (hp : preK pre ≠ 0) : outL l = preK pre := by
  rw [outL_parts hl h1 h2, h3]
  simp only [h4]
  rw [if_neg (by rw [hm]; decide), if_pos hp]
theorem outL_meta {l a r b c0 c1 : BL} {mt : Option BL} (hl : ¬ (l.length = 0 ∨ 256 < l.length)) (h1 : cut 46 l = some (a, r)) (h2 : cut 46 r = some (b, c0)) (h3 : Gram.part 43 c0 = (c1, mt)) (hm : metaOk mt = false) : outL l = 6 := by
  rw [outL_parts hl h1 h2, h3]
  exact if_pos hm
theorem preK_ne {p : BL} (h : ((dots p).map mkB).all okP = false) : kOf (kPre ((dots p).map mkB)) ≠ 0 := by rcases kPre_two _ h with h1 | h1 <;> rw [h1] <;> decide
theorem part_none {c : UInt8} {l : BL} (h : cut c l = none) : Gram.part c l = (l, none) := by unfold Gram.part; rw [h]
theorem part_some {c : UInt8} {l a b : BL} (h : cut c l = some (a, b)) : Gram.part c l = (a, some b) := by unfold Gram.part; rw [h]
theorem has_mk (c : UInt8) (l : BL) (hl : l.length ≤ 256) : semver_zzContains.f 300 (mkB l) ⟨#[c]⟩ = some (cut c l).isSome := by
  rw [contains_ok (mkB l) c (by rw [mk_size]; omega) 300 (by rw [mk_size]; omega), L_mk]
theorem two_mk {c : UInt8} {l a b : BL} (hl : l.length ≤ 256) (h : cut c l = some (a, b)) : semver_zzSplitN.f (l.length + 3) (mkB l) ⟨#[c]⟩ 2 = some [mkB a, mkB b] := by
  have := two_some (s := mkB l) (c := c) (a := a) (b := b) (by rw [mk_size]; omega) (by rw [L_mk]; exact h)
  rw [mk_size] at this
  exact this
theorem cut_le {c : UInt8} {l a b : BL} (h : cut c l = some (a, b)) : a.length + b.length < l.length := by
  rw [(cut_some.1 h).1, List.length_append, List.length_cons]; omega
theorem spl_mk (l : BL) (hl : l.length ≤ 256) : semver_zzSplit.f (l.length + 2) (mkB l) ⟨#[46]⟩ = some ((dots l).map mkB) := by
  have := split_ok (mkB l) (by rw [mk_size]; omega)
  rw [mk_size, L_mk] at this
  exact this
theorem strict9 (E : Nat → Addr) (s : ByteArray) (w : World) (hG : GlobS E w) (hE : GlobE E w) : Calls Tryd.prog 7 #[.string s] w (Post9 E s w) := by
  by_cases hz : s.size = 0
  · refine (strict_e0 E s (beq_iff_eq.2 (by omega)) w hG).mono fun e w' h => post9_e 0 (by decide) ?_ h
    unfold outL
    rw [if_pos (by rw [L_len]; exact hz)]
    rfl
  have hz' : ((s.size : Int) == 0) = false := beq_eq_false_iff_ne.2 (by omega)
  by_cases hl : 256 < s.size
  · refine (strict_e1 E s hz' (decide_eq_true (by omega)) w hG).mono fun e w' h => post9_e 1 (by decide) ?_ h
    unfold outL
    rw [if_neg (by rw [L_len]; exact hz), if_pos (by rw [L_len]; exact hl)]
    rfl
  have hl' : decide (256 < (s.size : Int)) = false := decide_eq_false (by omega)
  have hll : ¬ ((L s).length = 0 ∨ 256 < (L s).length) := by rw [L_len]; omega
  cases h1 : cut 46 (L s) with
  | none =>
    refine (strict_e2 E s [s] _ hz' hl' (three_none (by omega) h1) (by simp) w hG).mono fun e w' h => post9_e 2 (by decide) ?_ h
    unfold outL
    rw [if_neg (fun h => hll (Or.inl h)), if_neg (fun h => hll (Or.inr h)), h1]
    rfl
  | some q =>
    obtain ⟨a, r⟩ := q
    have hs1 := cut_le h1
    rw [L_len] at hs1
    cases h2 : cut 46 r with
    | none =>
      refine (strict_e2 E s [mkB a, mkB r] _ hz' hl' (three_one (by omega) h1 h2) (by simp) w hG).mono fun e w' h => post9_e 2 (by decide) ?_ h
      unfold outL
      rw [if_neg (fun h => hll (Or.inl h)), if_neg (fun h => hll (Or.inr h)), h1]
      simp only [h2]
      rfl
    | some q2 =>
      obtain ⟨b, c0⟩ := q2
      have hs2 := cut_le h2
      have hspl := three_two (s := s) (by omega) h1 h2
      have sz : ∀ t : BL, t.length ≤ 256 → (mkB t).size ≤ 281474976710656 := fun t ht => by rw [mk_size]; omega
      have dl : ∀ t : BL, t.length ≤ 256 → ((dots t).map mkB).length ≤ 2147483647 := fun t ht => by rw [List.length_map]; have := dots_len t; omega
      cases h3 : cut 43 c0 with
      | none =>
        have hc3 := has_mk 43 c0 (by omega)
        rw [h3] at hc3
        cases h4 : cut 45 c0 with
        | none =>
          have hc4 := has_mk 45 c0 (by omega)
          rw [h4] at hc4
          exact (strict_t00 E s (mkB a) (mkB b) (mkB c0) _ _ _ hz' hl' hspl hc3 hc4 ⟨sz a (by omega), sz b (by omega), sz c0 (by omega)⟩ w hG hE).mono fun e w' h => post9_n (outL_num hll h1 h2 (part_none h3) (part_none h4) rfl rfl) h
        | some q4 =>
          obtain ⟨c, p⟩ := q4
          have hc4 := has_mk 45 c0 (by omega)
          rw [h4] at hc4
          have hs4 := cut_le h4
          cases hok : okPre p
          · exact (strict_e4 E s (mkB a) (mkB b) (mkB c0) (mkB c) (mkB p) _ _ _ _ _ _ hz' hl' hspl hc3 hc4 (two_mk (by omega) h4) (spl_mk p (by omega)) (dl p (by omega)) ((preB p).trans hok) w hG hE).mono fun e w' h => post9_e _ (by rcases kPre_two _ ((preB p).trans hok) with hk | hk <;> omega) ((outL_pre hll h1 h2 (part_none h3) (part_some h4) rfl (by rw [preK_bad hok]; exact preK_ne ((preB p).trans hok))).trans (preK_bad hok)) h
          · exact (strict_t01 E s (mkB a) (mkB b) (mkB c0) (mkB c) (mkB p) _ _ _ _ _ _ hz' hl' hspl hc3 hc4 (two_mk (by omega) h4) (spl_mk p (by omega)) (dl p (by omega)) ((preB p).trans hok) ⟨sz a (by omega), sz b (by omega), sz c (by omega)⟩ w hG hE).mono fun e w' h => post9_n (outL_num hll h1 h2 (part_none h3) (part_some h4) rfl (preK_ok hok)) h
      | some q3 =>
        obtain ⟨c1, m⟩ := q3
        have hc3 := has_mk 43 c0 (by omega)
        rw [h3] at hc3
        have hs3 := cut_le h3
        cases hom : okMeta m
        · exact (strict_e3 E s (mkB a) (mkB b) (mkB c0) (mkB c1) (mkB m) _ _ _ _ _ hz' hl' hspl hc3 (two_mk (by omega) h3) (spl_mk m (by omega)) (dl m (by omega)) ((metaB m).trans hom) w hG hE).mono fun e w' h => post9_e 6 (by decide) (outL_meta hll h1 h2 (part_some h3) hom) h
        · cases h4 : cut 45 c1 with
          | none =>
            have hc4 := has_mk 45 c1 (by omega)
            rw [h4] at hc4
            exact (strict_t10 E s (mkB a) (mkB b) (mkB c0) (mkB c1) (mkB m) _ _ _ _ _ _ hz' hl' hspl hc3 (two_mk (by omega) h3) (spl_mk m (by omega)) (dl m (by omega)) ((metaB m).trans hom) hc4 ⟨sz a (by omega), sz b (by omega), sz c1 (by omega)⟩ w hG hE).mono fun e w' h => post9_n (outL_num hll h1 h2 (part_some h3) (part_none h4) hom rfl) h
          | some q4 =>
            obtain ⟨c, p⟩ := q4
            have hc4 := has_mk 45 c1 (by omega)
            rw [h4] at hc4
            have hs4 := cut_le h4
            cases hok : okPre p
            · exact (strict_e5 E s (mkB a) (mkB b) (mkB c0) (mkB c1) (mkB m) (mkB c) (mkB p) _ _ _ _ _ _ _ _ _ hz' hl' hspl hc3 (two_mk (by omega) h3) (spl_mk m (by omega)) (dl m (by omega)) ((metaB m).trans hom) hc4 (two_mk (by omega) h4) (spl_mk p (by omega)) (dl p (by omega)) ((preB p).trans hok) w hG hE).mono fun e w' h => post9_e _ (by rcases kPre_two _ ((preB p).trans hok) with hk | hk <;> omega) ((outL_pre hll h1 h2 (part_some h3) (part_some h4) hom (by rw [preK_bad hok]; exact preK_ne ((preB p).trans hok))).trans (preK_bad hok)) h
            · exact (strict_t11 E s (mkB a) (mkB b) (mkB c0) (mkB c1) (mkB m) (mkB c) (mkB p) _ _ _ _ _ _ _ _ _ hz' hl' hspl hc3 (two_mk (by omega) h3) (spl_mk m (by omega)) (dl m (by omega)) ((metaB m).trans hom) hc4 (two_mk (by omega) h4) (spl_mk p (by omega)) (dl p (by omega)) ((preB p).trans hok) ⟨sz a (by omega), sz b (by omega), sz c (by omega)⟩ w hG hE).mono fun e w' h => post9_n (outL_num hll h1 h2 (part_some h3) (part_some h4) hom (preK_ok hok)) h
end Go.Proofs.YtmbdpkaplnjopaaDoor
