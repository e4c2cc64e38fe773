/-
  StrictNewVersion in one contract.
-/
import Derived.Test.YtdomidlpkffigaaDoorStr
import Derived.Test.YtdomidlpkffigaaDoorEqs
set_option linter.unusedVariables false
set_option linter.unusedSimpArgs false
namespace Go.Proofs.YtdomidlpkffigaaDoor
open Go Go.RowKit Go.Proofs.YtdomidlpkffigaaDoorW.PrintWords Go.Proofs.YtdomidlpkffigaaDoorW.PrintLast Go.Proofs.YtdomidlpkffigaaDoor.PFnSemverStrictPrints Go.Proofs.YtdomidlpkffigaaDoor.Gram
set_option maxHeartbeats 8000000 in
set_option maxRecDepth 100000 in
theorem strict_e0 (s : ByteArray) (hz : ((s.size : Int) == 0) = true) (w : World) (hG : GlobS w) :
    Calls Tryd.prog 9 #[.string s] w (PostE w) := by
  have HG := Aside0.mk hG
  clear hG
  go_enter Tryd.func9, Tryd.ntmps9
  go_upto_region 2 with fail
  obtain ⟨tt, pp, gg⟩ := HG.out 0 (by decide)
  first | go_region_held3 (fun W => W.cell? ⟨0, 0, none⟩ = some (.iface tt pp) ∧ Hid (Below w.heap.size w W)) (first | assumption | exact ⟨cell_on (bl_drew (Below.refl _ _)) gg, Lib.hid (bl_drew (Below.refl _ _))⟩ | fail) (first | fail) | fail
  rename_i hH
  have HBZ := Lib.hid hH.2.out
  clear hH gg
  go_wp2_with fail
  go_ret2
  exact ⟨⟨tt, pp, rfl⟩, HBZ.out⟩
set_option maxHeartbeats 8000000 in
set_option maxRecDepth 100000 in
theorem strict_e1 (s : ByteArray) (hz : ((s.size : Int) == 0) = false) (hl : decide (256 < (s.size : Int)) = true) (w : World) (hG : GlobS w) :
    Calls Tryd.prog 9 #[.string s] w (PostE w) := by
  have HG := Aside0.mk hG
  clear hG
  go_enter Tryd.func9, Tryd.ntmps9
  go_upto_region 4 with fail
  obtain ⟨tt, pp, gg⟩ := HG.out 1 (by decide)
  first | go_region_held3 (fun W => W.cell? ⟨1, 0, none⟩ = some (.iface tt pp) ∧ Hid (Below w.heap.size w W)) (first | assumption | exact ⟨cell_on (bl_drew (Below.refl _ _)) gg, Lib.hid (bl_drew (Below.refl _ _))⟩ | fail) (first | fail) | fail
  rename_i hH
  have HBZ := Lib.hid hH.2.out
  clear hH gg
  go_wp2_with fail
  go_ret2
  exact ⟨⟨tt, pp, rfl⟩, HBZ.out⟩
set_option maxHeartbeats 8000000 in
set_option maxRecDepth 100000 in
theorem strict_e2 (s : ByteArray) (r : List ByteArray) (ks : Nat) (hz : ((s.size : Int) == 0) = false) (hl : decide (256 < (s.size : Int)) = false) (hspl : semver_zzSplitN.f ks s ⟨#[46]⟩ 3 = some r) (hr3 : r.length ≠ 3) (w : World) (hG : GlobS w) :
    Calls Tryd.prog 9 #[.string s] w (PostE w) := by
  have HG := Aside0.mk hG
  clear hG
  have HSPL := Aside0.mk hspl
  clear hspl
  have hne : ((r.length : Int) != 3) = true := bne_iff_ne.2 (by omega)
  clear hr3
  go_enter Tryd.func9, Tryd.ntmps9
  go_upto_region 7 with (go_at_call 14; (with_reducible refine (semver_zzSplitN.calls ks s ⟨#[46]⟩ 3 r _ HSPL.out).mono ?_); rintro e w1 ⟨v, rfl, hR, hb⟩; obtain ⟨A, cap, e1, -, -⟩ := Kd.R_reads hR; subst e1; have HB1 := Aside0.mk hb; clear hR hb)
  obtain ⟨tt, pp, gg⟩ := globS_below HG.out HB1.out 2 (by decide)
  first | go_region_held3 (fun W => W.cell? ⟨2, 0, none⟩ = some (.iface tt pp) ∧ Hid (Below w.heap.size w W)) (first | assumption | exact ⟨cell_on (bl_drew (Below.refl _ _)) gg, Lib.hid (bl_drew (HB1.out))⟩ | fail) (first | fail) | fail
  rename_i hH
  have HBZ := Lib.hid hH.2.out
  clear hH gg
  go_wp2_with fail
  go_ret2
  exact ⟨⟨tt, pp, rfl⟩, HBZ.out⟩
/-- the parts' numbers joined -/
def comb (a b c : BL) (pre mt : Option BL) : Option (Nat × Nat × Nat × BL × BL) :=
  match numV (mkB a), numV (mkB b), numV (mkB c) with
  | some u0, some u1, some u2 => some (u0, u1, u2, pre.getD [], mt.getD [])
  | _, _, _ => none
/-- what is read strictly out of a text -/
def strictL (l : BL) : Option (Nat × Nat × Nat × BL × BL) :=
  if l.length = 0 ∨ 256 < l.length then none else match byDots l with | none => none | some (a, b, c, pre, mt) => comb a b c pre mt
theorem goodN_isD {t : BL} {u : Nat} (h : numV (mkB t) = some u) : t.all isD = true := by
  unfold numV at h
  split at h
  · rename_i hg
    unfold goodN at hg
    rw [Bool.and_eq_true] at hg
    exact hg.1
  · cases h
theorem strictL_eq {l a r b c0 c1 c : BL} {pre mt : Option BL} (hl : ¬ (l.length = 0 ∨ 256 < l.length)) (h1 : cut 46 l = some (a, r)) (h2 : cut 46 r = some (b, c0)) (h3 : Gram.part 43 c0 = (c1, mt)) (h4 : Gram.part 45 c1 = (c, pre)) (hm : ∀ m, mt = some m → okMeta m = true) (hp : ∀ p, pre = some p → okPre p = true) : strictL l = comb a b c pre mt := by
  unfold strictL
  rw [if_neg hl]
  unfold byDots
  rw [h1]
  simp only [h2, h3, h4]
  by_cases hd : a.all isD = true ∧ b.all isD = true ∧ c.all isD = true
  · rw [if_pos ⟨hm, hp, hd⟩]
  · rw [if_neg (fun h => hd h.2.2)]
    unfold comb
    cases ha : numV (mkB a) with
    | none => rfl
    | some u0 => cases hb : numV (mkB b) with
      | none => rfl
      | some u1 => cases hc : numV (mkB c) with
        | none => rfl
        | some u2 => exact absurd ⟨goodN_isD ha, goodN_isD hb, goodN_isD hc⟩ hd
theorem strictL_none {l a r b c0 : BL} (h1 : cut 46 l = some (a, r)) (h2 : cut 46 r = some (b, c0)) (h : ¬ ((∀ m, (Gram.part 43 c0).2 = some m → okMeta m = true) ∧ (∀ p, (Gram.part 45 (Gram.part 43 c0).1).2 = some p → okPre p = true))) : strictL l = none := by
  unfold strictL
  split
  · rfl
  · unfold byDots
    rw [h1]
    simp only [h2]
    rw [if_neg (fun h5 => h ⟨h5.1, h5.2.1⟩)]
/-- the contract -/
def Post9 (s : ByteArray) (w : World) (e : Ending) (w' : World) : Prop :=
  (∃ (u0 u1 u2 g V : Nat) (pre mt : BL) (a b c : ByteArray), strictL (L s) = some (u0, u1, u2, pre, mt) ∧ e = .returned (.tuple #[.pointer (some ⟨V, 0, none⟩), .nilIface]) ∧ ST w g V a b c u0 u1 u2 (mkB pre) (mkB mt) w') ∨
  (strictL (L s) = none ∧ PostE w e w')
theorem post9_n {s : ByteArray} {w w' : World} {e : Ending} {a b c : BL} {pre mt : Option BL} (h : strictL (L s) = comb a b c pre mt) (hp : PostN w (mkB a) (mkB b) (mkB c) (mkB (pre.getD [])) (mkB (mt.getD [])) e w') : Post9 s w e w' := by
  rcases hp with ⟨u0, u1, u2, g, V, h0, h1, h2, he, hs⟩ | ⟨hn, he, hb⟩
  · exact Or.inl ⟨u0, u1, u2, g, V, _, _, _, _, _, by rw [h]; unfold comb; rw [h0, h1, h2], he, hs⟩
  · refine Or.inr ⟨?_, he, hb⟩
    rw [h]
    unfold comb
    rcases hn with hn | hn | hn
    · rw [hn]
    · rw [hn]; cases numV (mkB a) <;> rfl
    · rw [hn]; cases numV (mkB a) <;> cases numV (mkB b) <;> rfl
theorem part_none {c : UInt8} {l : BL} (h : cut c l = none) : Gram.part c l = (l, none) := by unfold Gram.part; rw [h]
theorem part_some {c : UInt8} {l a b : BL} (h : cut c l = some (a, b)) : Gram.part c l = (a, some b) := by unfold Gram.part; rw [h]
theorem has_mk (c : UInt8) (l : BL) (hl : l.length ≤ 256) : semver_zzContains.f 300 (mkB l) ⟨#[c]⟩ = some (cut c l).isSome := by
  rw [contains_ok (mkB l) c (by rw [mk_size]; omega) 300 (by rw [mk_size]; omega), L_mk]
theorem two_mk {c : UInt8} {l a b : BL} (hl : l.length ≤ 256) (h : cut c l = some (a, b)) : semver_zzSplitN.f (l.length + 3) (mkB l) ⟨#[c]⟩ 2 = some [mkB a, mkB b] := by
  have := two_some (s := mkB l) (c := c) (a := a) (b := b) (by rw [mk_size]; omega) (by rw [L_mk]; exact h)
  rw [mk_size] at this
  exact this
theorem cut_le {c : UInt8} {l a b : BL} (h : cut c l = some (a, b)) : a.length + b.length < l.length := by
  rw [(cut_some.1 h).1, List.length_append, List.length_cons]; omega
theorem spl_mk (l : BL) (hl : l.length ≤ 256) : semver_zzSplit.f (l.length + 2) (mkB l) ⟨#[46]⟩ = some ((dots l).map mkB) := by
  have := split_ok (mkB l) (by rw [mk_size]; omega)
  rw [mk_size, L_mk] at this
  exact this
theorem strict9 (s : ByteArray) (w : World) (hG : GlobS w) (hE : GlobE w) : Calls Tryd.prog 9 #[.string s] w (Post9 s w) := by
  by_cases hz : s.size = 0
  · refine (strict_e0 s (beq_iff_eq.2 (by omega)) w hG).mono fun e w' h => Or.inr ⟨?_, h⟩
    unfold strictL
    rw [if_pos (Or.inl (by rw [L_len]; exact hz))]
  have hz' : ((s.size : Int) == 0) = false := beq_eq_false_iff_ne.2 (by omega)
  by_cases hl : 256 < s.size
  · refine (strict_e1 s hz' (decide_eq_true (by omega)) w hG).mono fun e w' h => Or.inr ⟨?_, h⟩
    unfold strictL
    rw [if_pos (Or.inr (by rw [L_len]; exact hl))]
  have hl' : decide (256 < (s.size : Int)) = false := decide_eq_false (by omega)
  have hll : ¬ ((L s).length = 0 ∨ 256 < (L s).length) := by rw [L_len]; omega
  cases h1 : cut 46 (L s) with
  | none =>
    refine (strict_e2 s [s] _ hz' hl' (three_none (by omega) h1) (by simp) w hG).mono fun e w' h => Or.inr ⟨?_, h⟩
    unfold strictL byDots
    rw [if_neg hll, h1]
  | some q =>
    obtain ⟨a, r⟩ := q
    have hs1 := cut_le h1
    rw [L_len] at hs1
    cases h2 : cut 46 r with
    | none =>
      refine (strict_e2 s [mkB a, mkB r] _ hz' hl' (three_one (by omega) h1 h2) (by simp) w hG).mono fun e w' h => Or.inr ⟨?_, h⟩
      unfold strictL byDots
      rw [if_neg hll, h1]
      simp only [h2]
    | some q2 =>
      obtain ⟨b, c0⟩ := q2
      have hs2 := cut_le h2
      have hspl := three_two (s := s) (by omega) h1 h2
      have sz : ∀ t : BL, t.length ≤ 256 → (mkB t).size ≤ 281474976710656 := fun t ht => by rw [mk_size]; omega
      have dl : ∀ t : BL, t.length ≤ 256 → ((dots t).map mkB).length ≤ 2147483647 := fun t ht => by rw [List.length_map]; have := dots_len t; omega
      cases h3 : cut 43 c0 with
      | none =>
        have hc3 := has_mk 43 c0 (by omega)
        rw [h3] at hc3
        cases h4 : cut 45 c0 with
        | none =>
          have hc4 := has_mk 45 c0 (by omega)
          rw [h4] at hc4
          exact (strict_t00 s (mkB a) (mkB b) (mkB c0) _ _ _ hz' hl' hspl hc3 hc4 ⟨sz a (by omega), sz b (by omega), sz c0 (by omega)⟩ w hG hE).mono fun e w' h => post9_n (strictL_eq hll h1 h2 (part_none h3) (part_none h4) (fun m hm => by cases hm) (fun m hm => by cases hm)) h
        | some q4 =>
          obtain ⟨c, p⟩ := q4
          have hc4 := has_mk 45 c0 (by omega)
          rw [h4] at hc4
          have hs4 := cut_le h4
          cases hok : okPre p
          · exact (strict_e4 s (mkB a) (mkB b) (mkB c0) (mkB c) (mkB p) _ _ _ _ _ _ hz' hl' hspl hc3 hc4 (two_mk (by omega) h4) (spl_mk p (by omega)) (dl p (by omega)) ((preB p).trans hok) w hG hE).mono fun e w' h => Or.inr ⟨strictL_none h1 h2 (by rw [part_none h3, part_some h4]; intro hh; have := hh.2 p rfl; rw [hok] at this; cases this), h⟩
          · exact (strict_t01 s (mkB a) (mkB b) (mkB c0) (mkB c) (mkB p) _ _ _ _ _ _ hz' hl' hspl hc3 hc4 (two_mk (by omega) h4) (spl_mk p (by omega)) (dl p (by omega)) ((preB p).trans hok) ⟨sz a (by omega), sz b (by omega), sz c (by omega)⟩ w hG hE).mono fun e w' h => post9_n (strictL_eq hll h1 h2 (part_none h3) (part_some h4) (fun m hm => by cases hm) (fun m hm => by cases hm; exact hok)) h
      | some q3 =>
        obtain ⟨c1, m⟩ := q3
        have hc3 := has_mk 43 c0 (by omega)
        rw [h3] at hc3
        have hs3 := cut_le h3
        cases hom : okMeta m
        · exact (strict_e3 s (mkB a) (mkB b) (mkB c0) (mkB c1) (mkB m) _ _ _ _ _ hz' hl' hspl hc3 (two_mk (by omega) h3) (spl_mk m (by omega)) (dl m (by omega)) ((metaB m).trans hom) w hG hE).mono fun e w' h => Or.inr ⟨strictL_none h1 h2 (by rw [part_some h3]; intro hh; have := hh.1 m rfl; rw [hom] at this; cases this), h⟩
        · cases h4 : cut 45 c1 with
          | none =>
            have hc4 := has_mk 45 c1 (by omega)
            rw [h4] at hc4
            exact (strict_t10 s (mkB a) (mkB b) (mkB c0) (mkB c1) (mkB m) _ _ _ _ _ _ hz' hl' hspl hc3 (two_mk (by omega) h3) (spl_mk m (by omega)) (dl m (by omega)) ((metaB m).trans hom) hc4 ⟨sz a (by omega), sz b (by omega), sz c1 (by omega)⟩ w hG hE).mono fun e w' h => post9_n (strictL_eq hll h1 h2 (part_some h3) (part_none h4) (fun m hm => by cases hm; exact hom) (fun m hm => by cases hm)) h
          | some q4 =>
            obtain ⟨c, p⟩ := q4
            have hc4 := has_mk 45 c1 (by omega)
            rw [h4] at hc4
            have hs4 := cut_le h4
            cases hok : okPre p
            · exact (strict_e5 s (mkB a) (mkB b) (mkB c0) (mkB c1) (mkB m) (mkB c) (mkB p) _ _ _ _ _ _ _ _ _ hz' hl' hspl hc3 (two_mk (by omega) h3) (spl_mk m (by omega)) (dl m (by omega)) ((metaB m).trans hom) hc4 (two_mk (by omega) h4) (spl_mk p (by omega)) (dl p (by omega)) ((preB p).trans hok) w hG hE).mono fun e w' h => Or.inr ⟨strictL_none h1 h2 (by rw [part_some h3, part_some h4]; intro hh; have := hh.2 p rfl; rw [hok] at this; cases this), h⟩
            · exact (strict_t11 s (mkB a) (mkB b) (mkB c0) (mkB c1) (mkB m) (mkB c) (mkB p) _ _ _ _ _ _ _ _ _ hz' hl' hspl hc3 (two_mk (by omega) h3) (spl_mk m (by omega)) (dl m (by omega)) ((metaB m).trans hom) hc4 (two_mk (by omega) h4) (spl_mk p (by omega)) (dl p (by omega)) ((preB p).trans hok) ⟨sz a (by omega), sz b (by omega), sz c (by omega)⟩ w hG hE).mono fun e w' h => post9_n (strictL_eq hll h1 h2 (part_some h3) (part_some h4) (fun m hm => by cases hm; exact hom) (fun m hm => by cases hm; exact hok)) h
end Go.Proofs.YtdomidlpkffigaaDoor
