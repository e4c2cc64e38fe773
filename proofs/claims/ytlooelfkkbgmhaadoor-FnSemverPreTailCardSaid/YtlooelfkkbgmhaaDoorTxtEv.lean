/-
  The reference's order of identifiers, and the tests of the laws' premises, as functions of lists of bytes.
-/
import Derived.Test.YtlooelfkkbgmhaaDoorTxtSpec
import Derived.Test.YtlooelfkkbgmhaaDoorTxtPart
import Derived.Test.YtlooelfkkbgmhaaDoorQSx8
import Derived.Test.YtlooelfkkbgmhaaDoorQSx9
namespace Go.Proofs.YtlooelfkkbgmhaaDoor
open Go Txt Go.RowKit QS Go.Proofs.YtlooelfkkbgmhaaDoorW.PrintWords Go.Proofs.YtlooelfkkbgmhaaDoorW.PrintLast

theorem short_loop (L : List ByteArray) (hn : L.length ≤ 4294967296) (d : Nat) : ∀ j : Nat, j + d = L.length →
    Ev (fun k => laws_svShort.l0 k L (L.length : Int) (j : Int)) ((L.drop j).all fun x => decide (x.size ≤ 65536)) := by
  induction d with
  | zero =>
    intro j hj
    rw [List.drop_eq_nil_of_le (by omega)]
    refine Ev.step (f := fun _ => some true) (fun k => ?_) (Ev.now _)
    simp only [laws_svShort.l0]
    rw [if_neg (by omega)]
  | succ d ih =>
    intro j hj
    have hlt : j < L.length := by omega
    rw [List.drop_eq_getElem_cons hlt, List.all_cons]
    have hw : wrap64 ((j : Int) + 1) = ((j + 1 : Nat) : Int) := wr_succ j L.length hlt (by omega)
    by_cases h1 : (L[j].size : Int) > 65536
    · rw [decide_eq_false (show ¬ L[j].size ≤ 65536 by omega), Bool.false_and]
      refine Ev.step (f := fun _ => some false) (fun k => ?_) (Ev.now _)
      simp only [laws_svShort.l0]
      rw [if_pos (by omega), if_pos (by omega), if_pos (by omega), rdOf_get L j hlt, if_pos h1]
    · rw [decide_eq_true (show L[j].size ≤ 65536 by omega), Bool.true_and]
      refine Ev.step (fun k => ?_) (ih (j + 1) (by omega))
      simp only [laws_svShort.l0]
      rw [if_pos (by omega), if_pos (by omega), if_pos (by omega), rdOf_get L j hlt, if_neg h1, hw]

theorem ev_short (L : List ByteArray) (hn : L.length ≤ 4294967296) : Ev (fun k => laws_svShort.f k L) (L.all fun x => decide (x.size ≤ 65536)) :=
  short_loop L hn L.length 0 (by omega)

/-- what the laws' premise says of one identifier -/
def svIdB (a : ByteArray) : Bool := decide (a.size ≤ 65536) && (identB a.toList && (validPreB a.toList && smallPreB a.toList))

theorem ev_svIdent (a : ByteArray) (hs : a.size ≤ 2147483647) : Ev (fun k => laws_svIdent.f k a) (svIdB a) := by
  unfold svIdB
  have h1 := ev_short [a] (by simp)
  rw [List.all_cons, List.all_nil, Bool.and_true] at h1
  refine Ev.bind h1 ?_
  cases hd : decide (a.size ≤ 65536) with
  | false => exact Ev.now _
  | true =>
    simp only [if_true, Bool.true_and]
    refine Ev.bind (ev_ident a (by omega)) ?_
    cases hi : identB a.toList with
    | false => exact Ev.now _
    | true =>
      simp only [if_true, Bool.true_and]
      refine Ev.bind (ev_validPre a hs) ?_
      cases hv : validPreB a.toList with
      | false => exact Ev.now _
      | true =>
        simp only [if_true, Bool.true_and]
        exact Ev.bind (ev_smallPre a hs) (Ev.now _)

theorem ident_no_dot {l : List UInt8} (h : identB l = true) : ∀ c ∈ l, ¬ c.toNat = 46 := by
  unfold identB at h
  simp only [Bool.and_eq_true, List.all_eq_true] at h
  intro c hc
  exact idn_not_dot (h.1 c hc)

theorem sv_good {a : ByteArray} (h : svIdB a = true) : a.size ≤ 65536 ∧ goodId a.toList := by
  unfold svIdB at h
  simp only [Bool.and_eq_true, decide_eq_true_eq] at h
  obtain ⟨h1, h2, h3, h4⟩ := h
  refine ⟨h1, good_of ?_ ?_⟩
  · unfold validPreB at h3; rw [split_one _ (ident_no_dot h2)] at h3; simpa using h3
  · unfold smallPreB at h4; rw [split_one _ (ident_no_dot h2)] at h4; simpa using h4

theorem u64_in (n : Nat) (h : n ≤ 281474976710656) : IntKind.u64.wrap (n : Int) = (n : Int) := by
  have e : IntKind.u64.wrap (n : Int) = (n : Int) % 18446744073709551616 := by
    unfold IntKind.wrap
    simp [IntKind.bits, IntKind.signed]
  rw [e]
  omega

theorem part_j (a b : ByteArray) (ha : a.size ≤ 281474976710656) (hb : b.size ≤ 281474976710656) (hne : ¬ a.toList = b.toList) (t : Bool) (ht : t = decide (digitsB a.toList = true ∧ digitsB b.toList = true ∧ a.toList.length ≠ b.toList.length)) :
    Ev (fun k => spec_ComparePart.j0 k a b t) (partS a.toList b.toList) := by
  unfold partS
  rw [if_neg hne]
  cases t with
  | true =>
    have ht' := of_decide_eq_true ht.symm
    rw [if_pos ht']
    have hl := ht'.2.2
    rw [len_size, len_size] at hl ⊢
    refine Ev.step (f := fun _ => some _) (fun k => ?_) (Ev.now _)
    simp only [spec_ComparePart.j0]
    rw [if_pos trivial, u64_in _ ha, u64_in _ hb]
    unfold spec_order.f
    by_cases h : a.size < b.size
    · rw [if_pos (by omega), if_pos h]; exact Eq.refl _
    · rw [if_neg (by omega), if_neg h, if_pos (by omega)]; exact Eq.refl _
  | false =>
    have ht' := of_decide_eq_false ht.symm
    rw [if_neg ht']
    refine Ev.step (f := fun k => (spec_Digits.f k a).bind fun t166 => ((spec_Digits.f k b).bind fun t167 => (if (t166 != t167) = true then ((spec_Digits.f k a).bind fun t168 => (if t168 = true then (some (-1)) else (some 1))) else (if (Op.bytesLess a.toList b.toList) = true then (some (-1)) else (some 1))))) (fun k => ?_) ?_
    · simp only [spec_ComparePart.j0]
      rw [if_neg (by decide)]
    refine Ev.bind (ev_digits a (by omega)) (Ev.bind (ev_digits b (by omega)) ?_)
    by_cases h1 : digitsB a.toList = digitsB b.toList
    · rw [if_neg (show ¬ digitsB a.toList ≠ digitsB b.toList from fun h => h h1)]
      refine Ev.congr (f := fun _ => some _) (fun k => ?_) (Ev.now _)
      rw [if_neg (by rw [h1]; simp)]
      by_cases h2 : Op.bytesLess a.toList b.toList = true
      · rw [if_pos h2, if_pos h2]
      · rw [if_neg h2, if_neg h2]
    · rw [if_pos h1]
      refine Ev.congr (f := fun k => (spec_Digits.f k a).bind fun t168 => (if t168 = true then (some (-1)) else (some 1))) (fun k => ?_) ?_
      · rw [if_pos (by simpa using h1)]
      refine Ev.bind (ev_digits a (by omega)) ?_
      cases digitsB a.toList with
      | true => exact Ev.now _
      | false => exact Ev.now _

theorem ev_specPart (a b : ByteArray) (ha : a.size ≤ 281474976710656) (hb : b.size ≤ 281474976710656) : Ev (fun k => spec_ComparePart.f k a b) (partS a.toList b.toList) := by
  by_cases he : a.toList = b.toList
  · refine Ev.congr (f := fun _ => some 0) (fun k => ?_) ?_
    · unfold spec_ComparePart.f; rw [if_pos he]
    · unfold partS; rw [if_pos he]; exact Ev.now _
  · refine Ev.congr (fun k => ?_) (f := fun k => (spec_Digits.f k a).bind fun t163 => (if t163 = true then ((spec_Digits.f k b).bind fun t164 => (if t164 = true then (spec_ComparePart.j0 k a b ((a.size : Int) != (b.size : Int))) else (spec_ComparePart.j0 k a b false))) else (spec_ComparePart.j0 k a b false))) ?_
    · unfold spec_ComparePart.f; rw [if_neg he]
    refine Ev.bind (ev_digits a (by omega)) ?_
    cases h1 : digitsB a.toList with
    | false =>
      exact part_j a b ha hb he false (by rw [h1]; simp)
    | true =>
      refine Ev.bind (ev_digits b (by omega)) ?_
      cases h2 : digitsB b.toList with
      | false => exact part_j a b ha hb he false (by rw [h2]; simp)
      | true =>
        refine part_j a b ha hb he _ ?_
        rw [h1, h2, len_size, len_size, Bool.eq_iff_iff]
        simp
        omega

theorem implPart_eq (a b : ByteArray) (ha : a.size ≤ 281474976710656) (hb : b.size ≤ 281474976710656) (ga : goodId a.toList) (gb : goodId b.toList) : impl_ComparePart.f a b = some (partS a.toList b.toList) := by
  unfold impl_ComparePart.f semver_ZZComparePart.f semver_comparePrePart.f
  rw [if_pos ⟨ha, hb⟩, Option.bind_some, Option.bind_some, partF_eq ga gb]

end Go.Proofs.YtlooelfkkbgmhaaDoor
