/-
  What terms, lists of terms and constraints say of a release; the opposite of a term.
-/
import Derived.Test.YtlooelfkkbgmhaaDoorTsSpec
import Derived.Test.YtlooelfkkbgmhaaDoorConCheck
set_option linter.unusedVariables false
set_option linter.unusedSimpArgs false
namespace Go.Proofs.YtlooelfkkbgmhaaDoor
open Go Txt Go.RowKit QS Go.Proofs.YtlooelfkkbgmhaaDoorW.PrintWords Go.Proofs.YtlooelfkkbgmhaaDoorW.PrintLast

/-- a release compared with a version -/
theorem cm_facts (a b c a' b' c' r : Int) (s' : ByteArray) : (cmpF a b c a' b' c' ⟨#[]⟩ s' r = -1 ∨ cmpF a b c a' b' c' ⟨#[]⟩ s' r = 0 ∨ cmpF a b c a' b' c' ⟨#[]⟩ s' r = 1) ∧
    (cmpF a b c a' b' c' ⟨#[]⟩ s' r < 0 ↔ (a < a' ∨ (a = a' ∧ (b < b' ∨ (b = b' ∧ c < c'))))) ∧ (cmpF a b c a' b' c' ⟨#[]⟩ s' r = 0 ↔ a = a' ∧ b = b' ∧ c = c' ∧ s'.toList = []) := by
  unfold cmpF segF
  rw [if_pos empty_list]
  by_cases he : s'.toList = []
  · rw [if_pos he]
    refine ⟨?_, ?_, ?_⟩ <;> grind
  · rw [if_neg he]
    refine ⟨?_, ?_, ?_⟩ <;> grind
theorem opp_eq (cm a b c a' b' c' r gv : Int) (s' : ByteArray) (hg : gv = 1 ∨ gv = 2 ∨ gv = 3) (hm : (gv < 3 → c' = 0 ∧ s'.toList = []) ∧ (gv < 2 → b' = 0)) (na : 0 ≤ a) (nb : 0 ≤ b) (nc : 0 ≤ c)
    (h3 : cm = -1 ∨ cm = 0 ∨ cm = 1) (hlt : cm < 0 ↔ (a < a' ∨ (a = a' ∧ (b < b' ∨ (b = b' ∧ c < c'))))) (hz : cm = 0 ↔ a = a' ∧ b = b' ∧ c = c' ∧ s'.toList = []) :
    neB cm a b c a' b' c' r ⟨#[]⟩ s' (gv == 1) (decide (gv < 3)) (gv == 2) = !teB cm a b a' b' c' (gv == 1) (decide (gv < 3)) (gv == 2) := by
  rcases hg with rfl | rfl | rfl
  · obtain ⟨rfl, hs⟩ := hm.1 (by omega)
    obtain rfl := hm.2 (by omega)
    simp [neB, teB, tiB, empty_list, hs]
    grind
  · obtain ⟨rfl, hs⟩ := hm.1 (by omega)
    simp [neB, teB, tiB, empty_list, hs]
    grind
  · simp [neB, teB, tiB]
theorem opp_gt (cm a b c a' b' c' gv : Int) (s' : ByteArray) (hg : gv = 1 ∨ gv = 2 ∨ gv = 3) (hm : (gv < 3 → c' = 0 ∧ s'.toList = []) ∧ (gv < 2 → b' = 0)) (na : 0 ≤ a) (nb : 0 ≤ b) (nc : 0 ≤ c)
    (h3 : cm = -1 ∨ cm = 0 ∨ cm = 1) (hlt : cm < 0 ↔ (a < a' ∨ (a = a' ∧ (b < b' ∨ (b = b' ∧ c < c'))))) :
    leB cm a b a' b' (gv == 1) (decide (gv < 3)) = !gtB cm a b a' b' (gv == 1) (decide (gv < 3)) (gv == 2) := by
  rcases hg with rfl | rfl | rfl
  · obtain ⟨rfl, hs⟩ := hm.1 (by omega)
    obtain rfl := hm.2 (by omega)
    simp [leB, gtB]
    try grind
  · obtain ⟨rfl, hs⟩ := hm.1 (by omega)
    simp [leB, gtB]
    try grind
  · simp [leB, gtB]
    grind
theorem opp_lt (cm : Int) : geB cm = !ltB cm := by
  unfold geB ltB
  by_cases h : cm < 0
  · rw [decide_eq_true h, decide_eq_false (by omega)]; rfl
  · rw [decide_eq_false h, decide_eq_true (by omega)]; rfl

/-- the opposite operator -/
def oppI (op : Int) : Int := if op = 0 then 1 else if op = 1 then 0 else if op = 2 then 5 else if op = 5 then 2 else if op = 3 then 4 else 3
/-- a term with the opposite operator -/
def oppT (t : S36) : S36 := ⟨oppI t.f0, t.f1, t.f2, t.f3, t.f4, t.f5⟩
/-- what a term says of a release -/
def tv (a b c : Int) (t : S36) : Bool :=
  opB t.f0 (cmpF a b c t.f2 t.f3 t.f4 ⟨#[]⟩ t.f5 (preS (split (⟨#[]⟩ : ByteArray).toList) (split t.f5.toList))) a b c t.f2 t.f3 t.f4 (preS (split (⟨#[]⟩ : ByteArray).toList) (split t.f5.toList)) ⟨#[]⟩ t.f5 (t.f1 == 1) (decide (t.f1 < 3)) (t.f1 == 2)
/-- a term that has an opposite -/
def hasOpp (t : S36) : Prop := t.f1 ≠ 0 ∧ t.f0 ≠ 6 ∧ t.f0 ≠ 7
theorem tv_opp (a b c : Int) (t : S36) (ht : GT t) (ho : hasOpp t) (na : 0 ≤ a) (nb : 0 ≤ b) (nc : 0 ≤ c) : tv a b c (oppT t) = !tv a b c t := by
  obtain ⟨q1, ⟨q2, q3, q4, q5⟩, ⟨q6, q7, q8⟩, q9⟩ := ht
  obtain ⟨o1, o2, o3⟩ := ho
  have hg : t.f1 = 1 ∨ t.f1 = 2 ∨ t.f1 = 3 := by omega
  obtain ⟨h3, hlt, hz⟩ := cm_facts a b c t.f2 t.f3 t.f4 (preS (split (⟨#[]⟩ : ByteArray).toList) (split t.f5.toList)) t.f5
  have e := opp_eq _ a b c t.f2 t.f3 t.f4 (preS (split (⟨#[]⟩ : ByteArray).toList) (split t.f5.toList)) t.f1 t.f5 hg ⟨q6, q7⟩ na nb nc h3 hlt hz
  have g := opp_gt _ a b c t.f2 t.f3 t.f4 t.f1 t.f5 hg ⟨q6, q7⟩ na nb nc h3 hlt
  have l := opp_lt (cmpF a b c t.f2 t.f3 t.f4 ⟨#[]⟩ t.f5 (preS (split (⟨#[]⟩ : ByteArray).toList) (split t.f5.toList)))
  have h6 : t.f0 = 0 ∨ t.f0 = 1 ∨ t.f0 = 2 ∨ t.f0 = 3 ∨ t.f0 = 4 ∨ t.f0 = 5 := by omega
  unfold tv oppT
  simp only
  rcases h6 with h | h | h | h | h | h <;> rw [h] <;> simp only [opB, oppI]
  · simpa using e
  · simp at e ⊢; rw [e]; simp
  · simpa using g
  · simpa using l
  · simp at l ⊢; rw [l]; simp
  · simp at g ⊢; rw [g]; simp

theorem ev_tHolds (a b c : Int) (m : ByteArray) (pre : Bool) (t : S36) (ht : tmOk t) (hs : t.f5.size ≤ 2147483647) : Ev (fun k => tHolds k a b c ⟨#[]⟩ m pre t) (tv a b c t) := by
  unfold tHolds impl_TermHolds.f
  refine Ev.congr (fun n => if_pos ht) ?_
  refine Ev.bind (ev_cmpPre ⟨#[]⟩ t.f5 (by decide) hs) ?_
  refine Ev.congr (fun n => ?_) (Ev.now _)
  have hg : gate ⟨#[]⟩ pre = false := by unfold gate; rw [empty_list]; rfl
  rw [hg]
  rfl
theorem ev_lHolds (a b c : Int) (m : ByteArray) (pre : Bool) : ∀ l : List S36, (∀ t ∈ l, tmOk t ∧ t.f5.size ≤ 2147483647) → Ev (fun k => lHolds k a b c ⟨#[]⟩ m pre l) (l.all (tv a b c))
  | [], _ => Ev.now _
  | t :: l, h => by
    refine Ev.bind (ev_tHolds a b c m pre t (h t (by simp)).1 (h t (by simp)).2) ?_
    rw [List.all_cons]
    cases tv a b c t with
    | false => exact Ev.now _
    | true => exact ev_lHolds a b c m pre l (fun t ht => h t (by simp [ht]))
theorem ev_cHolds (a b c : Int) (m : ByteArray) (pre : Bool) : ∀ l : List (List S36), (∀ ts ∈ l, ∀ t ∈ ts, tmOk t ∧ t.f5.size ≤ 2147483647) → Ev (fun k => cHolds k a b c ⟨#[]⟩ m pre l) (l.any fun ts => ts.all (tv a b c))
  | [], _ => Ev.now _
  | ts :: l, h => by
    refine Ev.bind (ev_lHolds a b c m _ ts (h ts (by simp))) ?_
    rw [List.any_cons]
    cases ts.all (tv a b c) with
    | true => exact Ev.now _
    | false => exact ev_cHolds a b c m pre l (fun ts ht => h ts (by simp [ht]))
/-- what a constraint says of a release -/
theorem ev_cons (a b c : Int) (m : ByteArray) (pre : Bool) (l : List (List S36)) (hn : l.length ≤ 2147483647) (h : ∀ ts ∈ l, ts.length ≤ 2147483647 ∧ ∀ t ∈ ts, tmOk t ∧ t.f5.size ≤ 2147483647) :
    Ev (fun k => impl_TermsHold.f k l a b c ⟨#[]⟩ m pre) (l.any fun ts => ts.all (tv a b c)) := by
  have hb : tssB l = true := by
    simp only [tssB, Bool.and_eq_true, decide_eq_true_eq, List.all_eq_true]
    exact ⟨hn, fun ts hts => ⟨(h ts hts).1, fun t ht => by have := ((h ts hts).2 t ht).1; simpa [tmB, tmOk] using this⟩⟩
  unfold impl_TermsHold.f
  exact Ev.congr (fun k => if_pos hb) (ev_cHolds a b c m pre l (fun ts hts => (h ts hts).2))
theorem gt_ok {t : S36} (h : GT t) : tmOk t := ⟨h.2.1.2.2.1, h.2.1.2.2.2, h.2.1.1, h.2.1.2.1⟩
theorem opp_ok {t : S36} (h : tmOk t) : tmOk (oppT t) := by
  obtain ⟨h1, h2, h3, h4⟩ := h
  refine ⟨h1, h2, ?_, ?_⟩ <;> (show _ ; simp only [oppT, oppI]; grind)
end Go.Proofs.YtlooelfkkbgmhaaDoor
