/-
  What the statements' own conditions say of lists of terms: they fit, they are good.
-/
import Derived.Test.YtlooelfkkbgmhaaDoorQSL
import Derived.Test.YtlooelfkkbgmhaaDoorTermSpec
set_option linter.unusedVariables false
set_option linter.unusedSimpArgs false
namespace Go.Proofs.YtlooelfkkbgmhaaDoor
open Go Txt Go.RowKit QS Go.Proofs.YtlooelfkkbgmhaaDoorW.PrintWords Go.Proofs.YtlooelfkkbgmhaaDoorW.PrintLast

def fitsT (t : S36) : Bool := decide (t.f5.size ≤ 2147483647)
theorem fits13_eq (t : S36) : laws_zzFits13.f t.f0 t.f1 t.f2 t.f3 t.f4 t.f5 = some (fitsT t) := by
  unfold laws_zzFits13.f fitsT
  by_cases h : (t.f5.size : Int) > 2147483647
  · rw [if_pos h, decide_eq_false (by omega)]
  · rw [if_neg h, decide_eq_true (by omega)]
theorem rd36 (L : List S36) (j : Nat) (h : j < L.length) : rd_T36 L (j : Int) = L[j] := by
  unfold rd_T36
  rw [List.getD_eq_getElem?_getD, Int.toNat_natCast, List.getElem?_eq_getElem h, Option.getD_some]
theorem rdL6 (L : List (List S36)) (j : Nat) (h : j < L.length) : rd_L6 L (j : Int) = L[j] := by
  unfold rd_L6
  rw [List.getD_eq_getElem?_getD, Int.toNat_natCast, List.getElem?_eq_getElem h, Option.getD_some]

theorem fits12_loop (L : List S36) (hn : L.length ≤ 2147483647) (d : Nat) : ∀ j : Nat, j + d = L.length → Ev (fun k => laws_zzFits12.l0 k L (L.length : Int) (j : Int)) ((L.drop j).all fitsT) := by
  induction d with
  | zero =>
    intro j hj
    rw [List.drop_eq_nil_of_le (by omega)]
    refine Ev.succ' ?_
    simp only [laws_zzFits12.l0]
    exact Ev.congr (fun k => if_neg (by omega)) (Ev.now _)
  | succ d ih =>
    intro j hj
    have hlt : j < L.length := by omega
    rw [List.drop_eq_getElem_cons hlt, List.all_cons]
    have hnext := ih (j + 1) (by omega)
    have hw : wrap64 ((j : Int) + 1) = ((j + 1 : Nat) : Int) := wr_succ j L.length hlt (by omega)
    refine Ev.step (f := fun k => if fitsT L[j] = true then (laws_zzFits12.l0 k L (L.length : Int) ((j + 1 : Nat) : Int)) else (some false)) (fun k => ?_) ?_
    · simp only [laws_zzFits12.l0]
      rw [if_pos (by omega), if_pos (by omega), if_pos (by omega), rd36 L j hlt, hw, fits13_eq]
      rfl
    cases h : fitsT L[j] with
    | false => exact Ev.now _
    | true => exact hnext
theorem ev_fits12 (L : List S36) : Ev (fun k => laws_zzFits12.f k L) (decide (L.length ≤ 2147483647) && L.all fitsT) := by
  unfold laws_zzFits12.f
  refine Ev.ite' (fun h => ?_) (fun h => ?_)
  · rw [decide_eq_false (by omega)]; exact Ev.now _
  · rw [decide_eq_true (by omega)]; exact fits12_loop L (by omega) L.length 0 (by omega)

/-- a good term -/
def GT (t : S36) : Prop := GoodT t.f0 t.f1 t.f2 t.f3 t.f4 t.f5.toList
/-- lists of good terms, no more than M with n more -/
def GTs (M n : Int) (l : List (List S36)) : Prop := n + ((l.map List.length).sum : Nat) ≤ M ∧ 0 < n + ((l.map List.length).sum : Nat) ∧ ∀ ts ∈ l, ts ≠ [] ∧ ∀ t ∈ ts, GT t

theorem goodTerms_loop (M : Int) (hM : 0 ≤ M ∧ M ≤ 1000) (L : List (List S36)) (hn : L.length ≤ 2147483647) (hs : ∀ ts ∈ L, ts.length ≤ 2147483647 ∧ ∀ t ∈ ts, t.f5.size ≤ 2147483647) (d : Nat) : ∀ (j : Nat) (n : Int), 0 ≤ n → n ≤ M → j + d = L.length →
    ∃ r, Ev (fun k => spec_GoodTerms.l0 k M n L (L.length : Int) (j : Int)) r ∧ (r = true → GTs M n (L.drop j)) := by
  induction d with
  | zero =>
    intro j n h0 h1 hj
    rw [List.drop_eq_nil_of_le (by omega)]
    refine ⟨decide (n > 0), Ev.succ' ?_, fun h => ⟨by simpa using h1, by simpa using h, by simp⟩⟩
    simp only [spec_GoodTerms.l0]
    exact Ev.congr (fun k => if_neg (by omega)) (Ev.now _)
  | succ d ih =>
    intro j n h0 h1 hj
    have hlt : j < L.length := by omega
    have hts := hs _ (List.getElem_mem hlt)
    have hw : wrap64 ((j : Int) + 1) = ((j + 1 : Nat) : Int) := wr_succ j L.length hlt (by omega)
    have inner : ∀ (e i : Nat), i + e = L[j].length → ∃ r, Ev (fun k => spec_GoodTerms.l1 k M n L[j] L (L.length : Int) (j : Int) L[j] (L[j].length : Int) (i : Int)) r ∧ (r = true → (∀ t ∈ L[j].drop i, GT t) ∧ L[j] ≠ [] ∧ GTs M (n + L[j].length) (L.drop (j + 1))) := by
      intro e
      induction e with
      | zero =>
        intro i hi
        rw [List.drop_eq_nil_of_le (by omega : L[j].length ≤ i)]
        by_cases hz : L[j].length = 0
        · refine ⟨false, Ev.succ' ?_, fun h => by cases h⟩
          simp only [spec_GoodTerms.l1]
          refine Ev.congr (fun k => if_neg (by omega)) ?_
          exact Ev.congr (fun k => if_pos (by omega)) (Ev.now _)
        · have hw2 : wrap64 (n + (L[j].length : Int)) = n + (L[j].length : Int) := by unfold wrap64; omega
          by_cases hm : n + (L[j].length : Int) > M
          · refine ⟨false, Ev.succ' ?_, fun h => by cases h⟩
            simp only [spec_GoodTerms.l1]
            refine Ev.congr (fun k => if_neg (by omega)) ?_
            refine Ev.congr (fun k => if_neg (by omega)) ?_
            rw [hw2]
            exact Ev.congr (fun k => if_pos hm) (Ev.now _)
          · obtain ⟨r, hr, hp⟩ := ih (j + 1) (n + L[j].length) (by omega) (by omega) (by omega)
            refine ⟨r, Ev.succ' ?_, fun h => ⟨by simp, fun he => hz (by rw [he]; rfl), hp h⟩⟩
            simp only [spec_GoodTerms.l1]
            refine Ev.congr (fun k => if_neg (by omega)) ?_
            refine Ev.congr (fun k => if_neg (by omega)) ?_
            rw [hw2, hw]
            exact Ev.congr (fun k => if_neg hm) hr
      | succ e ihe =>
        intro i hi
        have hli : i < L[j].length := by omega
        have hwi : wrap64 ((i : Int) + 1) = ((i + 1 : Nat) : Int) := wr_succ i L[j].length hli (by omega)
        obtain ⟨r, hr, hp⟩ := ihe (i + 1) (by omega)
        obtain ⟨g, hg, hgp⟩ := ev_goodTerm (L[j][i].f0) (L[j][i].f1) (L[j][i].f2) (L[j][i].f3) (L[j][i].f4) (L[j][i].f5) (hts.2 _ (List.getElem_mem hli))
        rw [List.drop_eq_getElem_cons hli]
        refine ⟨g && r, ?_, fun h => ?_⟩
        · refine Ev.step (f := fun k => (spec_GoodTerm.f k (L[j][i].f0) (L[j][i].f1) (L[j][i].f2) (L[j][i].f3) (L[j][i].f4) (L[j][i].f5)).bind fun t520 => (if t520 = true then (spec_GoodTerms.l1 k M n L[j] L (L.length : Int) (j : Int) L[j] (L[j].length : Int) ((i + 1 : Nat) : Int)) else (some false))) (fun k => ?_) ?_
          · simp only [spec_GoodTerms.l1]
            rw [if_pos (by omega), if_pos (by omega), if_pos (by omega), rd36 _ i hli, hwi]
          · refine Ev.bind hg ?_
            cases g with
            | false => exact Ev.now _
            | true => exact hr
        · simp only [Bool.and_eq_true] at h
          obtain ⟨q1, q2, q3⟩ := hp h.2
          exact ⟨by intro t ht; rcases List.mem_cons.1 ht with rfl | ht; exact hgp.1 h.1; exact q1 t ht, q2, q3⟩
    obtain ⟨r, hr, hp⟩ := inner L[j].length 0 (by omega)
    refine ⟨r, Ev.step (f := fun k => spec_GoodTerms.l1 k M n L[j] L (L.length : Int) (j : Int) L[j] (L[j].length : Int) ((0 : Nat) : Int)) (fun k => ?_) hr, fun h => ?_⟩
    · simp only [spec_GoodTerms.l0]
      rw [if_pos (by omega), if_pos (by omega), if_pos (by omega), rdL6 L j hlt]
      rfl
    · obtain ⟨q1, q2, q3, q4, q5⟩ := hp h
      rw [List.drop_eq_getElem_cons hlt]
      refine ⟨?_, ?_, ?_⟩
      · simp only [List.map_cons, List.sum_cons]; omega
      · simp only [List.map_cons, List.sum_cons]; omega
      · intro ts hm
        rcases List.mem_cons.1 hm with rfl | hm
        · exact ⟨q2, by simpa using q1⟩
        · exact q5 ts hm
theorem ev_goodTerms (M : Int) (hM : 0 ≤ M ∧ M ≤ 1000) (L : List (List S36)) (hn : L.length ≤ 2147483647) (hs : ∀ ts ∈ L, ts.length ≤ 2147483647 ∧ ∀ t ∈ ts, t.f5.size ≤ 2147483647) : ∃ r, Ev (fun k => spec_GoodTerms.f k L M) r ∧ (r = true → GTs M 0 L) := by
  obtain ⟨r, h1, h2⟩ := goodTerms_loop M hM L hn hs L.length 0 0 (by omega) (by omega) (by omega)
  exact ⟨r, h1, by simpa using h2⟩

theorem scGood_loop (L : List (List S36)) (hn : L.length ≤ 2147483647) (hs : ∀ ts ∈ L, ts.length ≤ 2147483647) (d : Nat) : ∀ (j : Nat), j + d = L.length →
    ∃ r, Ev (fun k => laws_scGood.l0 k L (L.length : Int) (j : Int)) r := by
  induction d with
  | zero =>
    intro j hj
    refine ⟨true, Ev.succ' ?_⟩
    simp only [laws_scGood.l0]
    exact Ev.congr (fun k => if_neg (by omega)) (Ev.now _)
  | succ d ih =>
    intro j hj
    have hlt : j < L.length := by omega
    have hts := hs _ (List.getElem_mem hlt)
    have hw : wrap64 ((j : Int) + 1) = ((j + 1 : Nat) : Int) := wr_succ j L.length hlt (by omega)
    have inner : ∀ (e i : Nat), i + e = L[j].length → ∃ r, Ev (fun k => laws_scGood.l1 k L (L.length : Int) (j : Int) L[j] (L[j].length : Int) (i : Int)) r := by
      intro e
      induction e with
      | zero =>
        intro i hi
        obtain ⟨r, hr⟩ := ih (j + 1) (by omega)
        refine ⟨r, Ev.succ' ?_⟩
        simp only [laws_scGood.l1]
        rw [hw]
        exact Ev.congr (fun k => if_neg (by omega)) hr
      | succ e ihe =>
        intro i hi
        have hli : i < L[j].length := by omega
        have hwi : wrap64 ((i : Int) + 1) = ((i + 1 : Nat) : Int) := wr_succ i L[j].length hli (by omega)
        obtain ⟨r, hr⟩ := ihe (i + 1) (by omega)
        by_cases hz : ((L[j][i].f5).size : Int) > 64
        · refine ⟨false, Ev.step (f := fun k => some false) (fun k => ?_) (Ev.now _)⟩
          simp only [laws_scGood.l1]
          rw [if_pos (by omega), if_pos (by omega), if_pos (by omega), rd36 _ i hli, if_pos hz]
        · refine ⟨r, Ev.step (f := fun k => laws_scGood.l1 k L (L.length : Int) (j : Int) L[j] (L[j].length : Int) ((i + 1 : Nat) : Int)) (fun k => ?_) hr⟩
          simp only [laws_scGood.l1]
          rw [if_pos (by omega), if_pos (by omega), if_pos (by omega), rd36 _ i hli, if_neg hz, hwi]
    obtain ⟨r, hr⟩ := inner L[j].length 0 (by omega)
    refine ⟨r, Ev.step (f := fun k => laws_scGood.l1 k L (L.length : Int) (j : Int) L[j] (L[j].length : Int) ((0 : Nat) : Int)) (fun k => ?_) hr⟩
    simp only [laws_scGood.l0]
    rw [if_pos (by omega), if_pos (by omega), if_pos (by omega), rdL6 L j hlt]
    rfl
theorem ev_scGood (L : List (List S36)) (hn : L.length ≤ 2147483647) (hs : ∀ ts ∈ L, ts.length ≤ 2147483647 ∧ ∀ t ∈ ts, t.f5.size ≤ 2147483647) : ∃ r, Ev (fun k => laws_scGood.f k L) r ∧ (r = true → GTs 24 0 L) := by
  obtain ⟨g, hg, hp⟩ := ev_goodTerms 24 (by omega) L hn hs
  obtain ⟨r, hr⟩ := scGood_loop L hn (fun ts h => (hs ts h).1) L.length 0 (by omega)
  unfold laws_scGood.f
  refine ⟨g && r, Ev.bind hg ?_, fun h => hp (by simp only [Bool.and_eq_true] at h; exact h.1)⟩
  cases g with
  | false => exact Ev.now _
  | true => exact hr
theorem ev_scList (l : List S36) (hn : l.length ≤ 2147483647) (hs : ∀ t ∈ l, t.f5.size ≤ 2147483647) : ∃ r, Ev (fun k => laws_scList.f k l) r ∧ (r = true → l.length ≤ 24 ∧ ∀ t ∈ l, GT t) := by
  obtain ⟨r, hr, hp⟩ := ev_scGood [l] (by simp) (by simpa using ⟨hn, hs⟩)
  unfold laws_scList.f
  refine ⟨r, Ev.some' hr, fun h => ?_⟩
  obtain ⟨q1, q2, q3⟩ := hp h
  exact ⟨by simp at q1; omega, (q3 l (by simp)).2⟩
end Go.Proofs.YtlooelfkkbgmhaaDoor
