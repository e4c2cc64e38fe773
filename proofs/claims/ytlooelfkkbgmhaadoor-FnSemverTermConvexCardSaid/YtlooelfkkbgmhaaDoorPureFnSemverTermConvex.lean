/-
  laws.FnSemverTermConvex: what its calls answer, and that it returns true.
-/
import Derived.Test.YtlooelfkkbgmhaaDoorCvW
import Derived.Test.YtlooelfkkbgmhaaDoorCvx
set_option linter.unusedVariables false
set_option linter.unusedSimpArgs false
namespace Go.Proofs.YtlooelfkkbgmhaaDoor.fnSemverTermConvex
open Go.RowKit Go.Proofs.YtlooelfkkbgmhaaDoorW.PrintWords Go.Proofs.YtlooelfkkbgmhaaDoor.QS
def wf36 (x : S36) : Prop := ((Lit.int .i64 x.f0).wf = true) ∧ ((Lit.int .i64 x.f1).wf = true) ∧ ((Lit.int .u64 x.f2).wf = true) ∧ ((Lit.int .u64 x.f3).wf = true) ∧ ((Lit.int .u64 x.f4).wf = true) ∧ (x.f5.size ≤ maxLen)
def wf24 (x : S24) : Prop := ((Lit.int .u64 x.f0).wf = true) ∧ ((Lit.int .u64 x.f1).wf = true) ∧ ((Lit.int .u64 x.f2).wf = true) ∧ (x.f3.size ≤ maxLen) ∧ (x.f4.size ≤ maxLen)
end Go.Proofs.YtlooelfkkbgmhaaDoor.fnSemverTermConvex
namespace Go.Proofs.YtlooelfkkbgmhaaDoor.Pure
open Go Txt Go.RowKit Go.Proofs.YtlooelfkkbgmhaaDoor.QS Go.Proofs.YtlooelfkkbgmhaaDoorW.PrintWords Go.Proofs.YtlooelfkkbgmhaaDoorW.PrintLast Go.Proofs.YtlooelfkkbgmhaaDoor.fnSemverTermConvex

theorem own_says (op t0 t1 t2 r : Int) (s : ByteArray) (md dd pd : Bool) (h0 : 0 ≤ op) (h8 : op < 8) (h1 : op ≠ 1) : opB op 0 t0 t1 t2 t0 t1 t2 r s s md dd pd = (op != 2 && op != 3) := by
  have h : op = 0 ∨ op = 2 ∨ op = 3 ∨ op = 4 ∨ op = 5 ∨ op = 6 ∨ op = 7 := by omega
  rcases h with rfl | rfl | rfl | rfl | rfl | rfl | rfl <;> cases md <;> cases dd <;> cases pd <;> simp [opB, teB, tiB, gtB, ltB, geB, leB, caB] <;> grind

theorem opB_convex (op x y z a b c a1 b1 c1 a2 b2 c2 t0 t1 t2 r r' r'' : Int) (s s' s'' ts : ByteArray) (md dd pd : Bool) (o0 : 0 ≤ op) (o8 : op < 8) (o1 : op ≠ 1)
    (h : x ≤ y) (h' : y ≤ z) (q : a < a1 ∨ (a = a1 ∧ (b < b1 ∨ (b = b1 ∧ c ≤ c1)))) (q' : a1 < a2 ∨ (a1 = a2 ∧ (b1 < b2 ∨ (b1 = b2 ∧ c1 ≤ c2))))
    (x3 : x = -1 ∨ x = 0 ∨ x = 1) (y3 : y = -1 ∨ y = 0 ∨ y = 1) (z3 : z = -1 ∨ z = 0 ∨ z = 1)
    (n0 : 0 ≤ a) (n1 : 0 ≤ b) (m0 : 0 ≤ t0) (m1 : 0 ≤ t1) (k0 : 0 ≤ a1) (k1 : 0 ≤ b1) (l0 : 0 ≤ a2) (l1 : 0 ≤ b2)
    (hx : opB op x a b c t0 t1 t2 r s ts md dd pd = true) (hz : opB op z a2 b2 c2 t0 t1 t2 r'' s'' ts md dd pd = true) : opB op y a1 b1 c1 t0 t1 t2 r' s' ts md dd pd = true := by
  have h : op = 0 ∨ op = 2 ∨ op = 3 ∨ op = 4 ∨ op = 5 ∨ op = 6 ∨ op = 7 := by omega
  rcases h with rfl | rfl | rfl | rfl | rfl | rfl | rfl
  · exact te_convex x y z a b c a1 b1 c1 a2 b2 c2 t0 t1 t2 md dd pd (by assumption) h' q q' x3 y3 z3 hx hz
  · exact gt_convex x y z a b c a1 b1 c1 a2 b2 c2 t0 t1 md dd pd (by assumption) h' q q' x3 y3 z3 hx
  · exact lt_convex x y z (by assumption) h' hz
  · exact ge_convex x y z (by assumption) h' hx
  · exact le_convex x y z a b c a1 b1 c1 a2 b2 c2 t0 t1 md dd (by assumption) h' q q' x3 y3 z3 hz
  · exact ti_convex x y z a b c a1 b1 c1 a2 b2 c2 t0 t1 t2 md pd (by assumption) h' q q' x3 y3 z3 hx hz
  · exact ca_convex x y z a b c a1 b1 c1 a2 b2 c2 t0 t1 t2 md pd (by assumption) h' q q' x3 y3 z3 n0 n1 m0 m1 k0 k1 l0 l1 hx hz

theorem says_opB (n : Nat) (op gv t0 t1 t2 : Int) (ts : ByteArray) (a b c : Int) (s m : ByteArray) (r : Int) (hn : semver_comparePrerelease.f n s ts = some r) (h0 : 0 ≤ op) (h8 : op < 8) (hg : 0 ≤ gv ∧ gv ≤ 3) :
    impl_TermHolds.f n op gv t0 t1 t2 ts a b c s m true = some (opB op (cmpF a b c t0 t1 t2 s ts r) a b c t0 t1 t2 r s ts (gv == 1) (decide (gv < 3)) (gv == 2)) := by
  unfold impl_TermHolds.f
  rw [if_pos ⟨hg.1, hg.2, h0, h8⟩, hn]
  simp [gate]

theorem FnSemverTermConvex (x0 : S36) (x1 : S24) (x2 : S24) (x3 : S24) (w0 : wf36 x0) (w1 : wf24 x1) (w2 : wf24 x2) (w3 : wf24 x3) (w : World) (hG : GlobE w) :
    Calls Tryd.prog 11 #[.agg #[.int .i64 x0.f0, .int .i64 x0.f1, .int .u64 x0.f2, .int .u64 x0.f3, .int .u64 x0.f4, .string x0.f5], .agg #[.int .u64 x1.f0, .int .u64 x1.f1, .int .u64 x1.f2, .string x1.f3, .string x1.f4], .agg #[.int .u64 x2.f0, .int .u64 x2.f1, .int .u64 x2.f2, .string x2.f3, .string x2.f4], .agg #[.int .u64 x3.f0, .int .u64 x3.f1, .int .u64 x3.f2, .string x3.f3, .string x3.f4]] w fun e w' => e = .returned (.bool true) ∧ Below w.heap.size w w' := by
  obtain ⟨op, gv, t0, t1, t2, ts⟩ := x0
  obtain ⟨a, b, c, s, m⟩ := x1
  obtain ⟨a1, b1, c1, s1, m1⟩ := x2
  obtain ⟨a2, b2, c2, s2, m2⟩ := x3
  obtain ⟨-, -, u0, u1, u2, -⟩ := w0
  obtain ⟨v0, v1, v2, -, -⟩ := w1
  obtain ⟨v3, v4, v5, -, -⟩ := w2
  obtain ⟨v6, v7, v8, -, -⟩ := w3
  replace u0 := wf_u64 u0
  replace u1 := wf_u64 u1
  replace u2 := wf_u64 u2
  replace v0 := wf_u64 v0
  replace v1 := wf_u64 v1
  replace v2 := wf_u64 v2
  replace v3 := wf_u64 v3
  replace v4 := wf_u64 v4
  replace v5 := wf_u64 v5
  replace v6 := wf_u64 v6
  replace v7 := wf_u64 v7
  replace v8 := wf_u64 v8
  simp only at u0 u1 u2 v0 v1 v2 v3 v4 v5 v6 v7 v8
  have f0 : laws_zzFits13.f op gv t0 t1 t2 ts = some (decide (ts.size ≤ 2147483647)) := by
    unfold laws_zzFits13.f
    by_cases h : ts.size ≤ 2147483647
    · rw [if_neg (by omega), decide_eq_true h]
    · rw [if_pos (by omega), decide_eq_false h]
  have f1 := fits_eq a b c s m
  have f2 := fits_eq a1 b1 c1 s1 m1
  have f3 := fits_eq a2 b2 c2 s2 m2
  cases hx : (!((decide (ts.size ≤ 2147483647)) && ((decide (s.size ≤ 2147483647 ∧ m.size ≤ 2147483647)) && ((decide (s1.size ≤ 2147483647 ∧ m1.size ≤ 2147483647)) && (decide (s2.size ≤ 2147483647 ∧ m2.size ≤ 2147483647)))))) with
  | true => exact cv_0 0 op gv t0 t1 t2 ts a b c s m a1 b1 c1 s1 m1 a2 b2 c2 s2 m2 w hG _ _ _ _ f0 f1 f2 f3 hx
  | false =>
  have g : ts.size ≤ 2147483647 ∧ (s.size ≤ 2147483647 ∧ m.size ≤ 2147483647) ∧ (s1.size ≤ 2147483647 ∧ m1.size ≤ 2147483647) ∧ (s2.size ≤ 2147483647 ∧ m2.size ≤ 2147483647) := by simpa using hx
  obtain ⟨g0, g1, g2, g3⟩ := g
  obtain ⟨y0, ⟨K0, e0⟩, hy0⟩ := ev_goodTerm op gv t0 t1 t2 ts g0
  obtain ⟨K1, e1⟩ := ev_svGood [(⟨a, b, c, s, m⟩ : S24), (⟨a1, b1, c1, s1, m1⟩ : S24), (⟨a2, b2, c2, s2, m2⟩ : S24)] (by intro x hx; simp at hx; rcases hx with rfl | rfl | rfl; exact g1; exact g2; exact g3) (by simp)
  obtain ⟨K2, e2⟩ := ev_specC a b c a1 b1 c1 s m s1 m1 g1.1 g2.1
  obtain ⟨K3, e3⟩ := ev_specC a1 b1 c1 a2 b2 c2 s1 m1 s2 m2 g2.1 g3.1
  obtain ⟨K4, e4⟩ := ev_cmpPre ts ts g0 g0
  obtain ⟨K5, e5⟩ := ev_cmpPre s ts g1.1 g0
  obtain ⟨K6, e6⟩ := ev_cmpPre s1 ts g2.1 g0
  obtain ⟨K7, e7⟩ := ev_cmpPre s2 ts g3.1 g0
  generalize hn : K0 + K1 + K2 + K3 + K4 + K5 + K6 + K7 = n
  replace e0 := e0 n (by omega)
  replace e1 := e1 n (by omega)
  replace e2 := e2 n (by omega)
  replace e3 := e3 n (by omega)
  replace e4 := e4 n (by omega)
  replace e5 := e5 n (by omega)
  replace e6 := e6 n (by omega)
  replace e7 := e7 n (by omega)
  rw [decide_eq_true g0] at f0
  rw [decide_eq_true g1] at f1
  rw [decide_eq_true g2] at f2
  rw [decide_eq_true g3] at f3
  refine cv_1 n op gv t0 t1 t2 ts a b c s m a1 b1 c1 s1 m1 a2 b2 c2 s2 m2 w hG f0 f1 f2 f3 y0 _ _ _ _ rfl e0 e1 e2 e3 ?_
  intro hU
  have hU' : y0 = true ∧ op ≠ 1 ∧ ([(⟨a, b, c, s, m⟩ : S24), (⟨a1, b1, c1, s1, m1⟩ : S24), (⟨a2, b2, c2, s2, m2⟩ : S24)].all goodB) = true ∧ specC a b c a1 b1 c1 s s1 ≤ 0 ∧ specC a1 b1 c1 a2 b2 c2 s1 s2 ≤ 0 := by
    simp only [Bool.not_eq_false', Bool.and_eq_true, Bool.not_eq_true', decide_eq_false_iff_not] at hU
    obtain ⟨p0, p1, p2, p3, p4⟩ := hU
    exact ⟨p0, by simpa using p1, p2, by omega, by omega⟩
  obtain ⟨p0, p1, p2, p3, p4⟩ := hU'
  obtain ⟨-, ⟨o0, o8, z0, z3⟩, -, tp⟩ := hy0.1 p0
  simp only [List.all_cons, List.all_nil, Bool.and_true, Bool.and_eq_true, goodB] at p2
  obtain ⟨⟨-, gs, -⟩, ⟨-, gs1, -⟩, ⟨-, gs2, -⟩⟩ := p2
  have q0 := says_opB n op gv t0 t1 t2 ts t0 t1 t2 ts ⟨#[]⟩ _ e4 o0 o8 ⟨z0, z3⟩
  have q1 := says_opB n op gv t0 t1 t2 ts a b c s m _ e5 o0 o8 ⟨z0, z3⟩
  have q2 := says_opB n op gv t0 t1 t2 ts a1 b1 c1 s1 m1 _ e6 o0 o8 ⟨z0, z3⟩
  have q3 := says_opB n op gv t0 t1 t2 ts a2 b2 c2 s2 m2 _ e7 o0 o8 ⟨z0, z3⟩
  rw [cmpF_self, own_says op t0 t1 t2 _ ts _ _ _ o0 o8 p1] at q0
  have i1 : cmpF a b c t0 t1 t2 s ts (preS (split s.toList) (split ts.toList)) = specC a b c t0 t1 t2 s ts := implC_eq a b c t0 t1 t2 s ts gs tp
  have i2 : cmpF a1 b1 c1 t0 t1 t2 s1 ts (preS (split s1.toList) (split ts.toList)) = specC a1 b1 c1 t0 t1 t2 s1 ts := implC_eq a1 b1 c1 t0 t1 t2 s1 ts gs1 tp
  have i3 : cmpF a2 b2 c2 t0 t1 t2 s2 ts (preS (split s2.toList) (split ts.toList)) = specC a2 b2 c2 t0 t1 t2 s2 ts := implC_eq a2 b2 c2 t0 t1 t2 s2 ts gs2 tp
  rw [i1] at q1
  rw [i2] at q2
  rw [i3] at q3
  refine ⟨_, _, _, q0, q1, q2, q3, ?_⟩
  cases hya : (opB op (specC a b c t0 t1 t2 s ts) a b c t0 t1 t2 (preS (split s.toList) (split ts.toList)) s ts (gv == 1) (decide (gv < 3)) (gv == 2)) with
  | false => exact Or.inl rfl
  | true =>
  cases hyc : (opB op (specC a2 b2 c2 t0 t1 t2 s2 ts) a2 b2 c2 t0 t1 t2 (preS (split s2.toList) (split ts.toList)) s2 ts (gv == 1) (decide (gv < 3)) (gv == 2)) with
  | false => exact Or.inr (Or.inl rfl)
  | true =>
  refine Or.inr (Or.inr ?_)
  exact opB_convex op _ _ _ a b c a1 b1 c1 a2 b2 c2 t0 t1 t2 _ _ _ s s1 s2 ts _ _ _ o0 o8 p1 (specC_mono a b c a1 b1 c1 t0 t1 t2 s s1 ts p3) (specC_mono a1 b1 c1 a2 b2 c2 t0 t1 t2 s1 s2 ts p4) (specC_nums _ _ _ _ _ _ _ _ p3) (specC_nums _ _ _ _ _ _ _ _ p4)
    (specC_three _ _ _ _ _ _ _ _) (specC_three _ _ _ _ _ _ _ _) (specC_three _ _ _ _ _ _ _ _) v0.1 v1.1 u0.1 u1.1 v3.1 v4.1 v6.1 v7.1 hya hyc
end Go.Proofs.YtlooelfkkbgmhaaDoor.Pure
