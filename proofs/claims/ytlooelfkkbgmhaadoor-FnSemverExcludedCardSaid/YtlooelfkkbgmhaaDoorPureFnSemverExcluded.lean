/-
  laws.FnSemverExcluded returns true: what its calls answer, and that a constraint and its opposite part every release.
-/
import Derived.Test.YtlooelfkkbgmhaaDoorQSX
import Derived.Test.YtlooelfkkbgmhaaDoorOpp
set_option linter.unusedVariables false
set_option linter.unusedSimpArgs false
namespace Go.Proofs.YtlooelfkkbgmhaaDoor.fnSemverExcluded
open Go.RowKit Go.Proofs.YtlooelfkkbgmhaaDoorW.PrintWords Go.Proofs.YtlooelfkkbgmhaaDoor.QS
def wf36 (x : S36) : Prop := ((Lit.int .i64 x.f0).wf = true) ∧ ((Lit.int .i64 x.f1).wf = true) ∧ ((Lit.int .u64 x.f2).wf = true) ∧ ((Lit.int .u64 x.f3).wf = true) ∧ ((Lit.int .u64 x.f4).wf = true) ∧ (x.f5.size ≤ maxLen)
def wf24 (x : S24) : Prop := ((Lit.int .u64 x.f0).wf = true) ∧ ((Lit.int .u64 x.f1).wf = true) ∧ ((Lit.int .u64 x.f2).wf = true) ∧ (x.f3.size ≤ maxLen) ∧ (x.f4.size ≤ maxLen)
end Go.Proofs.YtlooelfkkbgmhaaDoor.fnSemverExcluded
namespace Go.Proofs.YtlooelfkkbgmhaaDoor.Pure
open Go Txt Go.RowKit Go.Proofs.YtlooelfkkbgmhaaDoor.QS Go.Proofs.YtlooelfkkbgmhaaDoorW.PrintWords Go.Proofs.YtlooelfkkbgmhaaDoorW.PrintLast Go.Proofs.YtlooelfkkbgmhaaDoor.fnSemverExcluded

theorem wf_u64' {a : Int} (h : (Lit.int .u64 a).wf = true) : 0 ≤ a ∧ a < 18446744073709551616 := by
  simp [Lit.wf, IntKind.min, IntKind.max, IntKind.bits, IntKind.signed] at h
  omega

theorem any_opp' (a b c : Int) (na : 0 ≤ a) (nb : 0 ≤ b) (nc : 0 ≤ c) : ∀ L : List S36, (∀ t ∈ L, GT t) → (∀ t ∈ L, hasOpp t) → (L.map fun t => [oppT t]).any (fun ts => ts.all (tv a b c)) = !(L.all (tv a b c))
  | [], _, _ => rfl
  | t :: L, h, ho => by
    rw [List.map_cons, List.any_cons, any_opp' a b c na nb nc L (fun t ht => h t (by simp [ht])) (fun t ht => ho t (by simp [ht]))]
    simp only [List.all_cons, List.all_nil, Bool.and_true, Bool.not_and, tv_opp a b c t (h t (by simp)) (ho t (by simp)) na nb nc]

/-- each list of one with each of the other behind it -/
def crossF (c d : List (List S36)) : List (List S36) := c.flatMap fun x => d.map fun y => x ++ y
theorem cross_len (c d : List (List S36)) : (crossF c d).length = c.length * d.length := by
  unfold crossF
  induction c with
  | nil => simp
  | cons x c ih => rw [List.flatMap_cons, List.length_append, List.length_map, ih, List.length_cons, Nat.add_mul, Nat.one_mul, Nat.add_comm]
theorem cross_inner (p : S36 → Bool) (x : List S36) : ∀ d : List (List S36), d.any ((fun ts => List.all ts p) ∘ fun y => x ++ y) = (x.all p && d.any (fun ts => ts.all p))
  | [] => by simp
  | y :: d => by
    rw [List.any_cons, List.any_cons, cross_inner p x d]
    simp only [Function.comp, List.all_append]
    cases x.all p <;> cases y.all p <;> simp
theorem len_le_sum : ∀ (L : List (List S36)), ∀ ts ∈ L, ts.length ≤ (L.map List.length).sum
  | [], ts, h => by cases h
  | x :: L, ts, h => by
    simp only [List.map_cons, List.sum_cons]
    rcases List.mem_cons.1 h with rfl | h
    · omega
    · have := len_le_sum L ts h; omega
theorem cross_val (p : S36 → Bool) (c d : List (List S36)) : (crossF c d).any (fun ts => ts.all p) = (c.any (fun ts => ts.all p) && d.any (fun ts => ts.all p)) := by
  unfold crossF
  induction c with
  | nil => simp
  | cons x c ih =>
    rw [List.flatMap_cons, List.any_append, ih, List.any_cons, List.any_map]
    rw [cross_inner p x d]
    cases x.all p <;> cases c.any (fun ts => ts.all p) <;> cases d.any (fun ts => ts.all p) <;> rfl
theorem cross_mem {c d : List (List S36)} {z : List S36} (h : z ∈ crossF c d) : ∃ x ∈ c, ∃ y ∈ d, z = x ++ y := by
  unfold crossF at h
  obtain ⟨x, hx, h⟩ := List.mem_flatMap.1 h
  obtain ⟨y, hy, rfl⟩ := List.mem_map.1 h
  exact ⟨x, hx, y, hy, rfl⟩

theorem cross_loop (C D : List (List S36)) (hC : C.length ≤ 1024) (hD : D.length ≤ 1024) (hc : ∀ x ∈ C, x.length ≤ 1000) (hd : ∀ x ∈ D, x.length ≤ 1000) (d : Nat) : ∀ j : Nat, j + d = C.length →
    Ev (fun k => spec_Cross.l0 k D (crossF (C.take j) D) C (C.length : Int) (j : Int)) (crossF C D) := by
  induction d with
  | zero =>
    intro j hj
    rw [List.take_of_length_le (by omega)]
    refine Ev.succ' ?_
    simp only [spec_Cross.l0]
    exact Ev.congr (fun k => if_neg (by omega)) (Ev.now _)
  | succ d ih =>
    intro j hj
    have hlt : j < C.length := by omega
    have hw : wrap64 ((j : Int) + 1) = ((j + 1 : Nat) : Int) := wr_succ j C.length hlt (by omega)
    have hs : (C.take (j + 1)) = C.take j ++ [C[j]] := List.take_succ_eq_append_getElem hlt
    have hcj := hc _ (List.getElem_mem hlt)
    have inner : ∀ (e i : Nat), i + e = D.length → Ev (fun k => spec_Cross.l1 k D (crossF (C.take j) D ++ (D.take i).map fun y => C[j] ++ y) C[j] C (C.length : Int) (j : Int) D (D.length : Int) (i : Int)) (crossF C D) := by
      intro e
      induction e with
      | zero =>
        intro i hi
        rw [List.take_of_length_le (by omega : D.length ≤ i)]
        have hnext := ih (j + 1) (by omega)
        have h2 : crossF (C.take (j + 1)) D = crossF (C.take j) D ++ D.map fun y => C[j] ++ y := by
          rw [hs]; unfold crossF; rw [List.flatMap_append]; simp
        rw [h2] at hnext
        refine Ev.succ' ?_
        simp only [spec_Cross.l1]
        rw [hw]
        exact Ev.congr (fun k => if_neg (by omega)) hnext
      | succ e ihe =>
        intro i hi
        have hli : i < D.length := by omega
        have hdi := hd _ (List.getElem_mem hli)
        have hwi : wrap64 ((i : Int) + 1) = ((i + 1 : Nat) : Int) := wr_succ i D.length hli (by omega)
        have hsi : (D.take (i + 1)) = D.take i ++ [D[i]] := List.take_succ_eq_append_getElem hli
        have hnext := ihe (i + 1) (by omega)
        rw [hsi, List.map_append, ← List.append_assoc] at hnext
        have hlen : (crossF (C.take j) D ++ (D.take i).map fun y => C[j] ++ y).length < 5864062014805 := by
          rw [List.length_append, cross_len, List.length_map, List.length_take, List.length_take]
          have h1 : min j C.length * D.length ≤ 1024 * 1024 := Nat.mul_le_mul (by omega) hD
          omega
        refine Ev.step (k := hnext) (fun k => ?_)
        simp only [spec_Cross.l1]
        rw [if_pos (by omega), if_pos (by omega), if_pos (by omega), rdL6 D i hli, hwi]
        simp only [Option.bind_some, List.nil_append, List.length_nil]
        rw [if_pos (by omega), if_pos (by omega), if_pos hlen]
        simp
    refine Ev.step (k := inner D.length 0 (by omega)) (fun k => ?_)
    simp only [spec_Cross.l0]
    rw [if_pos (by omega), if_pos (by omega), if_pos (by omega), rdL6 C j hlt]
    simp
theorem ev_cross (C D : List (List S36)) (hC : C.length ≤ 1024) (hD : D.length ≤ 1024) (hc : ∀ x ∈ C, x.length ≤ 1000) (hd : ∀ x ∈ D, x.length ≤ 1000) : Ev (fun k => spec_Cross.f k C D) (crossF C D) :=
  cross_loop C D hC hD hc hd C.length 0 (by omega)

/-- the opposites of a list's terms, a list each -/
def opps (ts : List S36) : List (List S36) := ts.map fun t => [oppT t]
/-- the opposite of a constraint -/
def complF (c : List (List S36)) : List (List S36) := c.foldl (fun acc ts => crossF acc (opps ts)) [[]]
theorem opposite_eq (op : Int) (h0 : 0 ≤ op) (h8 : op < 8) (h6 : op ≠ 6) (h7 : op ≠ 7) : spec_Opposite.f op = some (oppI op, true) := by
  unfold spec_Opposite.f oppI
  repeat' split
  all_goals first | rfl | omega
theorem opposite_no (op : Int) (h : op = 6 ∨ op = 7) : spec_Opposite.f op = some (op, false) := by
  rcases h with rfl | rfl <;> rfl
/-- how many lists the opposite has, and how long they are -/
def Small (n : Nat) (m : Nat) (l : List (List S36)) : Prop := l.length ≤ 2 ^ n ∧ ∀ x ∈ l, x.length ≤ m
theorem small_cross {n m : Nat} {acc : List (List S36)} (h : Small n m acc) (ts : List S36) : Small (n + ts.length) (m + 1) (crossF acc (opps ts)) := by
  refine ⟨?_, fun z hz => ?_⟩
  · rw [cross_len, Nat.pow_add]
    exact Nat.mul_le_mul h.1 (by unfold opps; rw [List.length_map]; exact Nat.le_of_lt Nat.lt_two_pow_self)
  · obtain ⟨x, hx, y, hy, rfl⟩ := cross_mem hz
    obtain ⟨t, _, rfl⟩ := List.mem_map.1 hy
    rw [List.length_append]
    have := h.2 x hx
    simp
    omega

theorem compl_loop (C : List (List S36)) (hn : C.length ≤ 10) (hs : (C.map List.length).sum ≤ 10) (hC : ∀ ts ∈ C, ∀ t ∈ ts, GT t) (d : Nat) : ∀ (j : Nat) (acc : List (List S36)), j + d = C.length → Small ((C.take j).map List.length).sum j acc →
    ∃ r, Ev (fun k => spec_Complement.l0 k acc C (C.length : Int) (j : Int)) r ∧ (r.2 = true → (∀ ts ∈ C.drop j, ∀ t ∈ ts, hasOpp t) ∧ r.1 = (C.drop j).foldl (fun acc ts => crossF acc (opps ts)) acc) := by
  induction d with
  | zero =>
    intro j acc hj ha
    rw [List.drop_eq_nil_of_le (by omega)]
    refine ⟨(acc, true), Ev.succ' ?_, fun _ => ⟨by simp, rfl⟩⟩
    simp only [spec_Complement.l0]
    exact Ev.congr (fun k => if_neg (by omega)) (Ev.now _)
  | succ d ih =>
    intro j acc hj ha
    have hlt : j < C.length := by omega
    have hw : wrap64 ((j : Int) + 1) = ((j + 1 : Nat) : Int) := wr_succ j C.length hlt (by omega)
    have hst : (C.take (j + 1)) = C.take j ++ [C[j]] := List.take_succ_eq_append_getElem hlt
    have hsum : ((C.take (j + 1)).map List.length).sum ≤ 10 := by
      have e : (C.map List.length).sum = ((C.take (j + 1)).map List.length).sum + ((C.drop (j + 1)).map List.length).sum := by
        rw [← List.sum_append, ← List.map_append, List.take_append_drop]
      exact Nat.le_trans (Nat.le_add_right _ _) (e ▸ hs)
    have hsm : ((C.take j).map List.length).sum + C[j].length = ((C.take (j + 1)).map List.length).sum := by
      rw [hst, List.map_append, List.sum_append]; simp
    have hlen : C[j].length ≤ 10 := Nat.le_trans (Nat.le_add_left _ _) (hsm ▸ hsum)
    have h9 : ((C.take j).map List.length).sum ≤ 10 := Nat.le_trans (Nat.le_add_right _ C[j].length) (hsm ▸ hsum)
    have hacc : acc.length ≤ 1024 := Nat.le_trans ha.1 (Nat.pow_le_pow_right (n := 2) (by decide) h9)
    have HA := Aside0.mk ha
    have HSM := Aside0.mk hsm
    clear ha hsm h9 hsum hs
    have inner : ∀ (e i : Nat), i + e = C[j].length → ∃ r, Ev (fun k => spec_Complement.l1 k acc (opps (C[j].take i)) C (C.length : Int) (j : Int) C[j] (C[j].length : Int) (i : Int)) r ∧ (r.2 = true → (∀ t ∈ C[j].drop i, hasOpp t) ∧ (∀ ts ∈ C.drop (j + 1), ∀ t ∈ ts, hasOpp t) ∧ r.1 = (C.drop (j + 1)).foldl (fun acc ts => crossF acc (opps ts)) (crossF acc (opps C[j]))) := by
      intro e
      induction e with
      | zero =>
        intro i hi
        rw [List.take_of_length_le (by omega : C[j].length ≤ i), List.drop_eq_nil_of_le (by omega : C[j].length ≤ i)]
        have hsc := small_cross HA.out C[j]
        rw [HSM.out] at hsc
        obtain ⟨r, hr, hp⟩ := ih (j + 1) (crossF acc (opps C[j])) (by omega) hsc
        refine ⟨r, Ev.succ' ?_, fun h => ⟨by simp, hp h⟩⟩
        simp only [spec_Complement.l1]
        refine Ev.congr (fun k => if_neg (by omega)) ?_
        rw [hw]
        refine Ev.bind (ev_cross acc (opps C[j]) hacc (by unfold opps; rw [List.length_map]; omega) (fun x hx => by have := HA.out.2 x hx; omega) (fun x hx => by obtain ⟨t, _, rfl⟩ := List.mem_map.1 hx; simp)) hr
      | succ e ihe =>
        intro i hi
        have hli : i < C[j].length := by omega
        have hwi : wrap64 ((i : Int) + 1) = ((i + 1 : Nat) : Int) := wr_succ i C[j].length hli (by omega)
        have hsi : (C[j].take (i + 1)) = C[j].take i ++ [C[j][i]] := List.take_succ_eq_append_getElem hli
        have hg := hC _ (List.getElem_mem hlt) _ (List.getElem_mem hli)
        have x1 : (i : Int) < (C[j].length : Int) := by omega
        have x0 : 0 ≤ (i : Int) := by omega
        by_cases h67 : C[j][i].f0 = 6 ∨ C[j][i].f0 = 7
        · refine ⟨([], false), Ev.step (f := fun k => some ([], false)) (fun k => ?_) (Ev.now _), fun h => by cases h⟩
          simp only [spec_Complement.l1]
          rw [if_pos x1, if_pos x0, if_pos x1, rd36 _ i hli, opposite_no _ h67]
          rfl
        · have ho := opposite_eq C[j][i].f0 hg.2.1.1 hg.2.1.2.1 (fun h => h67 (.inl h)) (fun h => h67 (.inr h))
          by_cases h0 : C[j][i].f1 = 0
          · refine ⟨([], false), Ev.step (f := fun k => some ([], false)) (fun k => ?_) (Ev.now _), fun h => by cases h⟩
            simp only [spec_Complement.l1]
            rw [if_pos x1, if_pos x0, if_pos x1, rd36 _ i hli, ho]
            simp only [Option.bind_some]
            rw [if_pos trivial, if_pos h0]
          · obtain ⟨r, hr, hp⟩ := ihe (i + 1) (by omega)
            rw [hsi] at hr
            have e1 : opps (C[j].take i ++ [C[j][i]]) = opps (C[j].take i) ++ [[oppT C[j][i]]] := by unfold opps; rw [List.map_append]; rfl
            rw [e1] at hr
            refine ⟨r, Ev.step (k := hr) (fun k => ?_), fun h => ?_⟩
            · simp only [spec_Complement.l1]
              rw [if_pos x1, if_pos x0, if_pos x1, rd36 _ i hli, ho, hwi]
              simp only [Option.bind_some]
              rw [if_pos trivial, if_neg h0, if_pos (by unfold opps; rw [List.length_map, List.length_take]; omega)]
              rfl
            · obtain ⟨q1, q2⟩ := hp h
              refine ⟨?_, q2⟩
              rw [List.drop_eq_getElem_cons hli]
              intro t ht
              rcases List.mem_cons.1 ht with rfl | ht
              · exact ⟨h0, fun h => h67 (.inl h), fun h => h67 (.inr h)⟩
              · exact q1 t ht
    obtain ⟨r, hr, hp⟩ := inner C[j].length 0 (by omega)
    refine ⟨r, Ev.step (k := hr) (fun k => ?_), fun h => ?_⟩
    · simp only [spec_Complement.l0]
      rw [if_pos (by omega), if_pos (by omega), if_pos (by omega), rdL6 C j hlt]
      rfl
    · obtain ⟨q1, q2, q3⟩ := hp h
      rw [List.drop_eq_getElem_cons hlt]
      refine ⟨?_, q3⟩
      intro ts hts
      rcases List.mem_cons.1 hts with rfl | hts
      · simpa using q1
      · exact q2 ts hts

theorem compl_val (a b c : Int) (na : 0 ≤ a) (nb : 0 ≤ b) (nc : 0 ≤ c) : ∀ (C acc : List (List S36)), (∀ ts ∈ C, ∀ t ∈ ts, GT t ∧ hasOpp t) →
    ((C.foldl (fun acc ts => crossF acc (opps ts)) acc).any fun ts => ts.all (tv a b c)) = (acc.any (fun ts => ts.all (tv a b c)) && !(C.any fun ts => ts.all (tv a b c)))
  | [], acc, _ => by simp
  | ts :: C, acc, h => by
    rw [List.foldl_cons, compl_val a b c na nb nc C _ (fun ts hts => h ts (by simp [hts])), cross_val]
    have e := any_opp' a b c na nb nc ts (fun t ht => (h ts (by simp) t ht).1) (fun t ht => (h ts (by simp) t ht).2)
    unfold opps
    rw [e, List.any_cons, Bool.not_or, Bool.and_assoc]
theorem compl_mem : ∀ (C acc : List (List S36)) (P : S36 → Prop), (∀ ts ∈ acc, ∀ t ∈ ts, P t) → (∀ ts ∈ C, ∀ t ∈ ts, P (oppT t)) → ∀ ts ∈ C.foldl (fun acc ts => crossF acc (opps ts)) acc, ∀ t ∈ ts, P t
  | [], acc, P, h, _ => h
  | xs :: C, acc, P, h, hC => by
    rw [List.foldl_cons]
    refine compl_mem C _ P (fun ts hts t ht => ?_) (fun ts hts => hC ts (by simp [hts]))
    obtain ⟨x, hx, y, hy, rfl⟩ := cross_mem hts
    obtain ⟨u, hu, rfl⟩ := List.mem_map.1 hy
    rcases List.mem_append.1 ht with ht | ht
    · exact h x hx t ht
    · rw [List.mem_singleton.1 ht]; exact hC xs (by simp) u hu
theorem compl_long : ∀ (C acc : List (List S36)) (m : Nat), (∀ ts ∈ acc, ts.length ≤ m) → ∀ ts ∈ C.foldl (fun acc ts => crossF acc (opps ts)) acc, ts.length ≤ m + C.length
  | [], acc, m, h => by simpa using h
  | xs :: C, acc, m, h => by
    rw [List.foldl_cons]
    intro ts hts
    have := compl_long C (crossF acc (opps xs)) (m + 1) (fun ts hts => by
      obtain ⟨x, hx, y, hy, rfl⟩ := cross_mem hts
      obtain ⟨u, hu, rfl⟩ := List.mem_map.1 hy
      have := h x hx
      rw [List.length_append]
      simp
      omega) ts hts
    rw [List.length_cons]
    omega

theorem fits11_loop (L : List (List S36)) (hn : L.length ≤ 2147483647) (d : Nat) : ∀ j : Nat, j + d = L.length → Ev (fun k => laws_zzFits11.l0 k L (L.length : Int) (j : Int)) ((L.drop j).all fun ts => decide (ts.length ≤ 2147483647) && ts.all fitsT) := by
  induction d with
  | zero =>
    intro j hj
    rw [List.drop_eq_nil_of_le (by omega)]
    refine Ev.succ' ?_
    simp only [laws_zzFits11.l0]
    exact Ev.congr (fun k => if_neg (by omega)) (Ev.now _)
  | succ d ih =>
    intro j hj
    have hlt : j < L.length := by omega
    rw [List.drop_eq_getElem_cons hlt, List.all_cons]
    have hnext := ih (j + 1) (by omega)
    have hw : wrap64 ((j : Int) + 1) = ((j + 1 : Nat) : Int) := wr_succ j L.length hlt (by omega)
    refine Ev.step (f := fun k => (laws_zzFits12.f k L[j]).bind fun t516 => (if t516 = true then (laws_zzFits11.l0 k L (L.length : Int) ((j + 1 : Nat) : Int)) else (some false))) (fun k => ?_) ?_
    · simp only [laws_zzFits11.l0]
      rw [if_pos (by omega), if_pos (by omega), if_pos (by omega), rdL6 L j hlt, hw]
    refine Ev.bind (ev_fits12 L[j]) ?_
    cases h : (decide (L[j].length ≤ 2147483647) && L[j].all fitsT) with
    | false => exact Ev.now _
    | true => exact hnext
theorem ev_fits11 (L : List (List S36)) : Ev (fun k => laws_zzFits11.f k L) (decide (L.length ≤ 2147483647) && L.all fun ts => decide (ts.length ≤ 2147483647) && ts.all fitsT) := by
  unfold laws_zzFits11.f
  refine Ev.ite' (fun h => ?_) (fun h => ?_)
  · rw [decide_eq_false (by omega)]; exact Ev.now _
  · rw [decide_eq_true (by omega)]; exact fits11_loop L (by omega) L.length 0 (by omega)
theorem ev_siGood (L : List (List S36)) (hn : L.length ≤ 2147483647) (hs : ∀ ts ∈ L, ts.length ≤ 2147483647 ∧ ∀ t ∈ ts, t.f5.size ≤ 2147483647) : ∃ r, Ev (fun k => laws_siGood.f k [L]) r ∧ (r = true → GTs 10 0 L) := by
  obtain ⟨g, hg, hp⟩ := ev_goodTerms 10 (by omega) L hn hs
  obtain ⟨q, hq, _⟩ := ev_scGood L hn hs
  unfold laws_siGood.f
  have hend : Ev (fun k => laws_siGood.l0 k [L] (([L] : List (List (List S36))).length : Int) (wrap64 (0 + 1))) true := by
    refine Ev.succ' ?_
    simp only [laws_siGood.l0]
    exact Ev.congr (fun k => if_neg (by simp [wrap64])) (Ev.now _)
  refine ⟨g && q, Ev.step (f := fun k => (spec_GoodTerms.f k L 10).bind fun t526 => (if t526 = true then ((laws_scGood.f k L).bind fun t527 => (if t527 = true then (laws_siGood.l0 k [L] (([L] : List (List (List S36))).length : Int) (wrap64 (0 + 1))) else (some false))) else (some false))) (fun k => ?_) ?_, fun h => hp (by simp only [Bool.and_eq_true] at h; exact h.1)⟩
  · simp only [laws_siGood.l0]
    rw [if_pos (by simp), if_pos (by simp), if_pos (by simp)]
    rfl
  · refine Ev.bind hg ?_
    cases g with
    | false => exact Ev.now _
    | true =>
      refine Ev.bind hq ?_
      cases q with
      | false => exact Ev.now _
      | true => exact hend

theorem FnSemverExcluded (l0 : List (List (S36))) (x1 : S24) (w0 : l0.length ≤ maxLen ∧ ∀ y0 ∈ l0, y0.length ≤ maxLen ∧ ∀ y1 ∈ y0, wf36 y1) (w1 : wf24 x1) : ∃ k, laws_FnSemverExcluded.f k l0 x1.f0 x1.f1 x1.f2 x1.f3 x1.f4 = some true := by
  refine Ev.rounds ?_
  unfold laws_FnSemverExcluded.f
  have na := (wf_u64' w1.1).1
  have nb := (wf_u64' w1.2.1).1
  have nc := (wf_u64' w1.2.2.1).1
  have j0t : Ev (fun k => laws_FnSemverExcluded.j0 k l0 true x1.f0 x1.f1 x1.f2 x1.f3 x1.f4) true := by
    refine Ev.succ' ?_
    simp only [laws_FnSemverExcluded.j0]
    exact Ev.congr (fun k => if_pos trivial) (Ev.now _)
  have j1t : ∀ (d : List (List S36)), Ev (fun k => laws_FnSemverExcluded.j1 k l0 d true x1.f0 x1.f1 x1.f2 ⟨#[]⟩ ⟨#[]⟩) true := fun d => by
    refine Ev.succ' ?_
    simp only [laws_FnSemverExcluded.j1]
    exact Ev.congr (fun k => if_pos trivial) (Ev.now _)
  refine Ev.bind (ev_fits11 l0) ?_
  refine Ev.ite' (fun h => ?_) (fun _ => j0t)
  simp only [Bool.and_eq_true, decide_eq_true_eq, List.all_eq_true, fitsT] at h
  refine Ev.bind (Ev.congr (fun k => fits_eq _ _ _ _ _) (Ev.now _)) ?_
  by_cases hf : x1.f3.size ≤ 2147483647 ∧ x1.f4.size ≤ 2147483647
  · rw [decide_eq_true hf]
    refine Ev.succ' ?_
    simp only [laws_FnSemverExcluded.j0]
    refine Ev.congr (fun k => if_neg (by simp)) ?_
    simp only [spec_Bare.f, Option.bind_some]
    obtain ⟨g, hg, hp⟩ := ev_siGood l0 h.1 h.2
    refine Ev.bind hg ?_
    refine Ev.ite' (fun hgt => ?_) (fun _ => Ev.now _)
    obtain ⟨q1, q2, q3⟩ := hp hgt
    have hsum : (l0.map List.length).sum ≤ 10 := by omega
    have hlen : l0.length ≤ 10 := by
      have : ∀ L : List (List S36), (∀ ts ∈ L, ts ≠ []) → L.length ≤ (L.map List.length).sum := by
        intro L
        induction L with
        | nil => simp
        | cons x L ih =>
          intro hx
          have h1 := ih (fun ts hts => hx ts (by simp [hts]))
          have h2 : 0 < x.length := List.length_pos_iff.2 (hx x (by simp))
          simp only [List.map_cons, List.sum_cons, List.length_cons]
          omega
      have := this l0 (fun ts hts => (q3 ts hts).1)
      omega
    have hGT : ∀ ts ∈ l0, ∀ t ∈ ts, GT t := fun ts hts => (q3 ts hts).2
    have hshort : ∀ ts ∈ l0, ts.length ≤ 10 := by
      intro ts hts
      have := len_le_sum l0 ts hts
      omega
    obtain ⟨r, hr, hrp⟩ := compl_loop l0 hlen hsum hGT l0.length 0 [[]] (by omega) ⟨by simp, by simp⟩
    refine Ev.bind (a := r) hr ?_
    obtain ⟨d, ok⟩ := r
    cases ok with
    | false => exact Ev.congr (fun k => if_neg (by simp)) (j1t d)
    | true =>
      obtain ⟨ho, hd⟩ := hrp rfl
      simp only [List.drop_zero] at ho hd
      change Ev (fun k => laws_FnSemverExcluded.j1 k l0 d (decide ((d.length : Int) > 64)) x1.f0 x1.f1 x1.f2 ⟨#[]⟩ ⟨#[]⟩) true
      by_cases h64 : (d.length : Int) > 64
      · rw [decide_eq_true h64]; exact j1t d
      · rw [decide_eq_false h64]
        refine Ev.succ' ?_
        simp only [laws_FnSemverExcluded.j1]
        refine Ev.congr (fun k => if_neg (by simp)) ?_
        simp only [Option.bind_some, List.nil_append, List.length_nil]
        refine Ev.congr (fun k => if_pos (by omega)) ?_
        refine Ev.congr (fun k => if_pos (by omega)) ?_
        have hok0 : ∀ ts ∈ l0, ts.length ≤ 2147483647 ∧ ∀ t ∈ ts, tmOk t ∧ t.f5.size ≤ 2147483647 := fun ts hts => ⟨(h.2 ts hts).1, fun t ht => ⟨gt_ok (hGT ts hts t ht), (h.2 ts hts).2 t ht⟩⟩
        have hmem := compl_mem l0 [[]] (fun t => tmOk t ∧ t.f5.size ≤ 2147483647) (by simp) (fun ts hts t ht => ⟨opp_ok (gt_ok (hGT ts hts t ht)), (h.2 ts hts).2 t ht⟩)
        have hlong := compl_long l0 [[]] 0 (by simp)
        have hval := compl_val x1.f0 x1.f1 x1.f2 na nb nc l0 [[]] (fun ts hts t ht => ⟨hGT ts hts t ht, ho ts hts t ht⟩)
        rw [← hd] at hmem hlong hval
        have hokd : ∀ ts ∈ d, ts.length ≤ 2147483647 ∧ ∀ t ∈ ts, tmOk t ∧ t.f5.size ≤ 2147483647 := fun ts hts => ⟨by have := hlong ts hts; omega, hmem ts hts⟩
        have e1 := ev_cons x1.f0 x1.f1 x1.f2 ⟨#[]⟩ false (l0 ++ d) (by rw [List.length_append]; omega) (fun ts hts => by rcases List.mem_append.1 hts with hts | hts; exact hok0 ts hts; exact hokd ts hts)
        refine Ev.bind e1 ?_
        have hv1 : (l0 ++ d).any (fun ts => ts.all (tv x1.f0 x1.f1 x1.f2)) = true := by
          rw [List.any_append, hval]
          cases l0.any (fun ts => ts.all (tv x1.f0 x1.f1 x1.f2)) <;> simp
        rw [hv1]
        refine Ev.ite' (fun _ => ?_) (fun hne => absurd rfl hne)
        refine Ev.bind (ev_cross l0 d (by omega) (by omega) (fun x hx => by have := hshort x hx; omega) (fun x hx => by have := hlong x hx; omega)) ?_
        have e2 := ev_cons x1.f0 x1.f1 x1.f2 ⟨#[]⟩ false (crossF l0 d) (by rw [cross_len]; have := Nat.mul_le_mul hlen (by omega : d.length ≤ 64); omega) (fun ts hts => by
          obtain ⟨x, hx, y, hy, rfl⟩ := cross_mem hts
          refine ⟨?_, fun t ht => ?_⟩
          · rw [List.length_append]; have := hshort x hx; have := hlong y hy; omega
          · rcases List.mem_append.1 ht with ht | ht
            · exact (hok0 x hx).2 t ht
            · exact (hokd y hy).2 t ht)
        refine Ev.bind e2 ?_
        refine Ev.val (Ev.now _) ?_
        rw [cross_val, hval]
        cases l0.any (fun ts => ts.all (tv x1.f0 x1.f1 x1.f2)) <;> simp
  · rw [decide_eq_false hf]
    exact j0t
end Go.Proofs.YtlooelfkkbgmhaaDoor.Pure
