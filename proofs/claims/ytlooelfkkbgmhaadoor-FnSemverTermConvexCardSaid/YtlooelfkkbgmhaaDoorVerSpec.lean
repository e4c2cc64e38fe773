/-
  The reference's comparison of versions and what it says of terms, as plain functions.
-/
import Derived.Test.YtlooelfkkbgmhaaDoorVer
import Derived.Test.YtlooelfkkbgmhaaDoorQSC
import Derived.Test.YtlooelfkkbgmhaaDoorQSB
namespace Go.Proofs.YtlooelfkkbgmhaaDoor
open Go Txt Go.RowKit QS Go.Proofs.YtlooelfkkbgmhaaDoorW.PrintWords Go.Proofs.YtlooelfkkbgmhaaDoorW.PrintLast

theorem Ev.ite' {α : Type} {p : Prop} [Decidable p] {f g : Nat → Option α} {r : α} (h1 : p → Ev f r) (h2 : ¬ p → Ev g r) : Ev (fun k => if p then f k else g k) r := by
  by_cases h : p
  · exact Ev.congr (fun k => if_pos h) (h1 h)
  · exact Ev.congr (fun k => if_neg h) (h2 h)
theorem Ev.val {α : Type} {f : Nat → Option α} {r r' : α} (h : Ev f r) (e : r = r') : Ev f r' := e ▸ h
theorem Ev.some' {α : Type} {f : Nat → Option α} {r : α} (h : Ev f r) : Ev (fun k => (f k).bind fun t => some t) r := Ev.bind h (Ev.now _)

/-- two rows of identifiers compared by the reference -/
def specL : List (List UInt8) → List (List UInt8) → Int
  | [], [] => 0
  | [], _ :: _ => -1
  | _ :: _, [] => 1
  | a :: x, b :: y => if partS a b = 0 then specL x y else partS a b

theorem specL_nil : specL [] [] = 0 := by unfold specL; rfl
theorem specL_less (b : List UInt8) (y : List (List UInt8)) : specL [] (b :: y) = -1 := by unfold specL; rfl
theorem specL_more (a : List UInt8) (x : List (List UInt8)) : specL (a :: x) [] = 1 := by unfold specL; rfl
theorem specL_cons (a b : List UInt8) (x y : List (List UInt8)) : specL (a :: x) (b :: y) = if partS a b = 0 then specL x y else partS a b := by
  conv => lhs; unfold specL
theorem specL_len (x y : List (List UInt8)) (h : x = [] ∨ y = []) : specL x y = if x.length < y.length then -1 else if y.length < x.length then 1 else 0 := by
  cases x with
  | nil => cases y with
    | nil => rw [specL_nil]; simp
    | cons b y => rw [specL_less]; simp
  | cons a x => cases y with
    | nil => rw [specL_more]; simp
    | cons b y => rcases h with h | h <;> cases h

theorem preSpec_loop (A B : List ByteArray) (hA : ∀ x ∈ A, x.size ≤ 2147483647) (hB : ∀ x ∈ B, x.size ≤ 2147483647) (hnA : A.length ≤ 4294967296) (hnB : B.length ≤ 4294967296) (d : Nat) : ∀ i : Nat, i ≤ A.length → i ≤ B.length → A.length - i = d →
    Ev (fun k => spec_ComparePre.l0 k A B (i : Int)) (specL ((A.map (·.toList)).drop i) ((B.map (·.toList)).drop i)) := by
  induction d with
  | zero =>
    intro i ha hb hd
    have hi : i = A.length := by omega
    refine Ev.step (f := fun k => spec_ComparePre.j1 k A B (i : Int) false) (fun k => ?_) ?_
    · simp only [spec_ComparePre.l0]
      rw [if_neg (by omega)]
    · refine Ev.step (f := fun _ => some _) (fun k => ?_) (Ev.now _)
      simp only [spec_ComparePre.j1]
      rw [if_neg (by decide), u64_in _ (by omega), u64_in _ (by omega), mapn A i (by omega), specL_len _ _ (.inl rfl)]
      unfold spec_order.f
      simp only [List.length_nil, List.length_drop, List.length_map]
      by_cases h : A.length < B.length
      · rw [if_pos (by omega), if_pos (by omega)]; rfl
      · rw [if_neg (by omega), if_neg (by omega), if_neg (by omega), if_neg (by omega)]; rfl
  | succ d ih =>
    intro i ha hb hd
    have hlt : i < A.length := by omega
    by_cases hlb : i < B.length
    · refine Ev.step (f := fun k => spec_ComparePre.j1 k A B (i : Int) true) (fun k => ?_) ?_
      · simp only [spec_ComparePre.l0]
        rw [if_pos (by omega), decide_eq_true (by omega)]
      · have hp := ev_specPart A[i] B[i] (by have := hA _ (List.getElem_mem hlt); omega) (by have := hB _ (List.getElem_mem hlb); omega)
        refine Ev.step (f := fun k => (spec_ComparePart.f k A[i] B[i]).bind fun t274 => (if t274 = 0 then (spec_ComparePre.l0 k A B ((i + 1 : Nat) : Int)) else (some t274))) (fun k => ?_) ?_
        · simp only [spec_ComparePre.j1]
          rw [if_pos trivial, if_pos (by omega), if_pos (by omega), if_pos (by omega), rdOf_get A i hlt, rdOf_get B i hlb, wr_succ i A.length hlt (by omega)]
        · refine Ev.bind hp ?_
          rw [mapd A i hlt, mapd B i hlb, specL_cons]
          refine Ev.ite' (fun h => ?_) (fun h => ?_)
          · rw [if_pos h]; exact ih (i + 1) (by omega) (by omega) (by omega)
          · rw [if_neg h]; exact Ev.now _
    · refine Ev.step (f := fun k => spec_ComparePre.j1 k A B (i : Int) false) (fun k => ?_) ?_
      · simp only [spec_ComparePre.l0]
        rw [if_pos (by omega), decide_eq_false (by omega)]
      · refine Ev.step (f := fun _ => some _) (fun k => ?_) (Ev.now _)
        simp only [spec_ComparePre.j1]
        rw [if_neg (by decide), u64_in _ (by omega), u64_in _ (by omega), mapn B i (by omega), specL_len _ _ (.inr rfl)]
        unfold spec_order.f
        simp only [List.length_nil, List.length_drop, List.length_map]
        rw [if_neg (by omega), if_pos (by omega), if_neg (by omega), if_pos (by omega)]; rfl

/-- the reference's comparison of two prereleases -/
def preC (s s' : List UInt8) : Int := if s = s' then 0 else if s = [] then 1 else if s' = [] then -1 else specL (split s) (split s')

theorem ev_specPre (a b : ByteArray) (ha : a.size ≤ 2147483647) (hb : b.size ≤ 2147483647) : Ev (fun k => spec_ComparePre.f k a b) (preC a.toList b.toList) := by
  unfold spec_ComparePre.f preC
  refine Ev.ite' (fun h => ?_) (fun h => ?_)
  · rw [if_pos h]; exact Ev.now _
  rw [if_neg h]
  refine Ev.ite' (fun h => ?_) (fun h => ?_)
  · rw [if_pos h]; exact Ev.now _
  rw [if_neg h]
  refine Ev.ite' (fun h => ?_) (fun h => ?_)
  · rw [if_pos h]; exact Ev.now _
  rw [if_neg h]
  obtain ⟨A, hA, eA⟩ := ev_idents a ha
  obtain ⟨B, hB, eB⟩ := ev_idents b hb
  obtain ⟨sA, nA⟩ := idents_sizes ha eA
  obtain ⟨sB, nB⟩ := idents_sizes hb eB
  refine Ev.bind hA (Ev.bind hB ?_)
  have := preSpec_loop A B sA sB nA nB A.length 0 (by omega) (by omega) (by omega)
  rw [List.drop_zero, List.drop_zero, eA, eB] at this
  exact this

theorem preS_spec (x : List (List UInt8)) : ∀ y, (∀ a ∈ x, goodId a) → (∀ b ∈ y, goodId b) → preS x y = specL x y := by
  induction x with
  | nil =>
    intro y hx hy
    cases y with
    | nil => rw [specL_nil]; unfold preS; rfl
    | cons b y =>
      have hb := (hy b (by simp)).1
      have : ¬ b = [] := by rintro rfl; simp [identB] at hb
      have hp : partF [] b = -1 := by unfold partF; rw [if_neg (fun h => this h.symm), if_pos rfl]
      rw [specL_less]; unfold preS; rw [hp]; rfl
  | cons a x ih =>
    intro y hx hy
    cases y with
    | nil =>
      have ha := (hx a (by simp)).1
      have : ¬ a = [] := by rintro rfl; simp [identB] at ha
      have hp : partF a [] = 1 := by unfold partF; rw [if_neg this, if_neg this, if_pos rfl]
      rw [specL_more]; unfold preS; rw [hp]; rfl
    | cons b y =>
      rw [specL_cons]; unfold preS
      rw [partF_eq (hx a (by simp)) (hy b (by simp)), ih y (fun z hz => hx z (by simp [hz])) (fun z hz => hy z (by simp [hz]))]

theorem partS_self (a : List UInt8) : partS a a = 0 := by unfold partS; rw [if_pos rfl]
theorem specL_self (x : List (List UInt8)) : specL x x = 0 := by
  induction x with
  | nil => exact specL_nil
  | cons a x ih => rw [specL_cons, if_pos (partS_self a), ih]

theorem pre_goods {l : List UInt8} (h : preOk l = true) (hn : l ≠ []) : ∀ a ∈ split l, goodId a := by
  unfold preOk at h
  have he : l.isEmpty = false := by cases l with | nil => exact absurd rfl hn | cons _ _ => rfl
  rw [he, Bool.false_or, Bool.and_eq_true] at h
  intro a ha
  unfold validPreB smallPreB at h
  exact good_of (List.all_eq_true.1 h.1 a ha) (List.all_eq_true.1 h.2 a ha)

/-- the reference's comparison of two versions -/
def specC (a b c a' b' c' : Int) (s s' : ByteArray) : Int := if cnF a b c a' b' c' 3 = 0 then preC s.toList s'.toList else cnF a b c a' b' c' 3

theorem ev_specC (a b c a' b' c' : Int) (s m s' m' : ByteArray) (hs : s.size ≤ 2147483647) (hs' : s'.size ≤ 2147483647) : Ev (fun k => spec_Compare.f k a b c s m a' b' c' s' m') (specC a b c a' b' c' s s') := by
  unfold spec_Compare.f spec_CompareNumbers.f specC
  simp only [Option.bind_some]
  refine Ev.ite' (fun h => ?_) (fun h => ?_)
  · rw [if_pos h]; exact Ev.some' (ev_specPre s s' hs hs')
  · rw [if_neg h]; exact Ev.now _

/-- what the code's comparison comes to -/
abbrev implC (a b c a' b' c' : Int) (s s' : ByteArray) : Int := cmpF a b c a' b' c' s s' (preS (split s.toList) (split s'.toList))

theorem implC_eq (a b c a' b' c' : Int) (s s' : ByteArray) (hs : preOk s.toList = true) (hs' : preOk s'.toList = true) : implC a b c a' b' c' s s' = specC a b c a' b' c' s s' := by
  have hn : cnF a b c a' b' c' 3 = if segF a a' ≠ 0 then segF a a' else if segF b b' ≠ 0 then segF b b' else segF c c' := by
    unfold cnF
    rw [if_neg (by omega), if_neg (show ¬ (3 : Int) ≤ 1 by omega), if_neg (show ¬ (3 : Int) ≤ 2 by omega)]
  unfold specC implC cmpF
  rw [hn]
  by_cases h1 : segF a a' = 0
  · by_cases h2 : segF b b' = 0
    · by_cases h3 : segF c c' = 0
      · simp only [h1, h2, h3, ne_eq, not_true_eq_false, if_false, if_true]
        unfold preC
        by_cases e : s.toList = []
        · rw [if_pos e]
          by_cases e' : s'.toList = []
          · rw [if_pos e', if_pos (by rw [e, e'])]
          · rw [if_neg e', if_neg (by rw [e]; exact fun h => e' h.symm), if_pos e]
        · rw [if_neg e]
          by_cases e' : s'.toList = []
          · rw [if_pos e', if_neg (by rw [e']; exact e), if_neg e, if_pos e']
          · rw [if_neg e', if_neg e, if_neg e', preS_spec _ _ (pre_goods hs e) (pre_goods hs' e')]
            by_cases h : s.toList = s'.toList
            · rw [if_pos h, h, specL_self]
            · rw [if_neg h]
      · simp [h1, h2, h3]
    · simp [h1, h2]
  · simp [h1]
end Go.Proofs.YtlooelfkkbgmhaaDoor
