import Derived.Test.YtlooelfkkbgmhaaDoorQSx10
import Derived.Test.YtlooelfkkbgmhaaDoorTxtCmp
set_option linter.unusedVariables false
namespace Go.Proofs.YtlooelfkkbgmhaaDoor.fnSemverPreTail
open Go.RowKit Go.Proofs.YtlooelfkkbgmhaaDoorW.PrintWords Go.Proofs.YtlooelfkkbgmhaaDoor.QS

end Go.Proofs.YtlooelfkkbgmhaaDoor.fnSemverPreTail
namespace Go.Proofs.YtlooelfkkbgmhaaDoor.Pure
open Go.RowKit Go.Proofs.YtlooelfkkbgmhaaDoor.QS Go.Proofs.YtlooelfkkbgmhaaDoorW.PrintWords Go.Proofs.YtlooelfkkbgmhaaDoorW.PrintLast Go.Proofs.YtlooelfkkbgmhaaDoor.fnSemverPreTail

def presB (x : ByteArray) : Bool := !x.toList.isEmpty && (decide (x.size ≤ 65536) && (Txt.validPreB x.toList && Txt.smallPreB x.toList))

theorem pres_loop (L : List ByteArray) (hL : ∀ x ∈ L, x.size ≤ 2147483647) (hn : L.length ≤ 4294967296) (d : Nat) : ∀ j : Nat, j + d = L.length →
    Ev (fun k => laws_spPres.l0 k L (L.length : Int) (j : Int)) ((L.drop j).all presB) := by
  induction d with
  | zero =>
    intro j hj
    rw [List.drop_eq_nil_of_le (by omega)]
    refine Ev.step (f := fun _ => some true) (fun k => ?_) (Ev.now _)
    simp only [laws_spPres.l0]
    rw [if_neg (by omega)]
  | succ d ih =>
    intro j hj
    have hlt : j < L.length := by omega
    have hx := hL _ (List.getElem_mem hlt)
    rw [List.drop_eq_getElem_cons hlt, List.all_cons]
    have hnext := ih (j + 1) (by omega)
    have hw : wrap64 ((j : Int) + 1) = ((j + 1 : Nat) : Int) := wr_succ j L.length hlt (by omega)
    by_cases he : L[j].toList = []
    · have : presB L[j] = false := by unfold presB; rw [he]; rfl
      rw [this, Bool.false_and]
      refine Ev.step (f := fun _ => some false) (fun k => ?_) (Ev.now _)
      simp only [laws_spPres.l0]
      rw [if_pos (by omega), if_pos (by omega), if_pos (by omega), rdOf_get L j hlt, if_pos he]
    · have e0 : presB L[j] = (decide (L[j].size ≤ 65536) && (Txt.validPreB L[j].toList && Txt.smallPreB L[j].toList)) := by
        unfold presB
        cases h : L[j].toList with
        | nil => exact absurd h he
        | cons c r => rfl
      rw [e0]
      refine Ev.step (f := fun k => (laws_svShort.f k (([L[j]] : List ByteArray))).bind fun t143 => (if t143 = true then ((spec_ValidPre.f k L[j]).bind fun t144 => (if t144 = true then ((spec_SmallPre.f k L[j]).bind fun t145 => (if t145 = true then (laws_spPres.l0 k L (L.length : Int) ((j + 1 : Nat) : Int)) else (some false))) else (some false))) else (some false))) (fun k => ?_) ?_
      · simp only [laws_spPres.l0]
        rw [if_pos (by omega), if_pos (by omega), if_pos (by omega), rdOf_get L j hlt, if_neg he, hw]
      have h1 := ev_short [L[j]] (by simp)
      rw [List.all_cons, List.all_nil, Bool.and_true] at h1
      refine Ev.bind h1 ?_
      cases hd : decide (L[j].size ≤ 65536) with
      | false => exact Ev.now _
      | true =>
        refine Ev.bind (ev_validPre L[j] hx) ?_
        cases hv : Txt.validPreB L[j].toList with
        | false => exact Ev.now _
        | true =>
          refine Ev.bind (ev_smallPre L[j] hx) ?_
          cases hm : Txt.smallPreB L[j].toList with
          | false => exact Ev.now _
          | true => exact hnext

theorem app_list (a b : ByteArray) : (a ++ b).toList = a.toList ++ b.toList := by
  rw [ByteArray.toList_eq, ByteArray.toList_eq, ByteArray.toList_eq, ByteArray.data_append, Array.toList_append]
theorem app_size (a b : ByteArray) : (a ++ b).size = a.size + b.size := by rw [← len_size, app_list, List.length_append, len_size, len_size]

theorem partS_ne {a b : List UInt8} (h : ¬ a = b) : Txt.partS a b ≠ 0 := by
  unfold Txt.partS
  rw [if_neg h]
  repeat' split
  all_goals decide

theorem dotted (a b : ByteArray) (h : Txt.identB a.toList = true) : Txt.split ((a ++ (⟨#[46]⟩ : ByteArray)) ++ b).toList = a.toList :: Txt.split b.toList := by
  rw [app_list, app_list, dot_list, List.append_assoc]
  have e := Txt.split_dot a.toList b.toList
  rw [Txt.split_one _ (ident_no_dot h)] at e
  exact e

theorem FnSemverPreTail (a0 : ByteArray) (a1 : ByteArray) (a2 : ByteArray) (a3 : ByteArray) (w0 : a0.size ≤ maxLen) (w1 : a1.size ≤ maxLen) (w2 : a2.size ≤ maxLen) (w3 : a3.size ≤ maxLen) : ∃ k, laws_FnSemverPreTail.f k a0 a1 a2 a3 = some true := by
  have skip : Ev (fun k => laws_FnSemverPreTail.j1 k a0 a1 a2 a3 true) true := by
    refine Ev.step (f := fun _ => some true) (fun k => ?_) (Ev.now _)
    simp only [laws_FnSemverPreTail.j1]
    rw [if_pos trivial]
  have key : ∀ t : Bool, (t = false → a0.size ≤ 2147483647 ∧ a1.size ≤ 2147483647 ∧ a2.size ≤ 2147483647 ∧ a3.size ≤ 2147483647) → Ev (fun k => laws_FnSemverPreTail.j0 k a0 a1 a2 a3 t) true := by
    intro t ht
    cases t with
    | true =>
      refine Ev.step (f := fun _ => some true) (fun k => ?_) (Ev.now _)
      simp only [laws_FnSemverPreTail.j0]
      rw [if_pos trivial]
    | false =>
      obtain ⟨h0, h1, h2, h3⟩ := ht rfl
      refine Ev.step (f := fun k => ((laws_svIdent.f k a0).bind fun t146 => (if t146 = true then ((laws_svIdent.f k a1).bind fun t147 => (if t147 = true then (if a0.toList = a1.toList then (laws_FnSemverPreTail.j1 k a0 a1 a2 a3 true) else ((laws_spPres.f k (([a2, a3] : List ByteArray))).bind fun t151 => (laws_FnSemverPreTail.j1 k a0 a1 a2 a3 (!t151)))) else (laws_FnSemverPreTail.j1 k a0 a1 a2 a3 true))) else (laws_FnSemverPreTail.j1 k a0 a1 a2 a3 true)))) (fun k => ?_) ?_
      · simp only [laws_FnSemverPreTail.j0]
        rw [if_neg (by decide)]
      refine Ev.bind (ev_svIdent a0 h0) ?_
      cases g0 : svIdB a0 with
      | false => exact skip
      | true =>
        refine Ev.bind (ev_svIdent a1 h1) ?_
        cases g1 : svIdB a1 with
        | false => exact skip
        | true =>
          by_cases he : a0.toList = a1.toList
          · exact Ev.congr (fun k => by rw [if_pos he]; rfl) skip
          · refine Ev.congr (f := fun k => (laws_spPres.f k (([a2, a3] : List ByteArray))).bind fun t151 => (laws_FnSemverPreTail.j1 k a0 a1 a2 a3 (!t151))) (fun k => by rw [if_neg he]; rfl) ?_
            have hp := pres_loop [a2, a3] (by simp; omega) (by simp) 2 0 rfl
            refine Ev.bind hp ?_
            rw [List.drop_zero]
            cases hb : ([a2, a3].all presB) with
            | false => exact skip
            | true =>
              simp only [List.all_cons, List.all_nil, Bool.and_true, Bool.and_eq_true] at hb
              obtain ⟨b2, b3⟩ := hb
              unfold presB at b2 b3
              simp only [Bool.and_eq_true, decide_eq_true_eq] at b2 b3
              have s0 := (sv_good g0).1
              have s1 := (sv_good g1).1
              have s2 := b2.2.1
              have s3 := b3.2.1
              have i0 := (sv_good g0).2
              have i1 := (sv_good g1).2
              have hpart := implPart_eq a0 a1 (by omega) (by omega) i0 i1
              have hne := partS_ne he
              have z0 : (a0 ++ (⟨#[46]⟩ : ByteArray)).size = a0.size + 1 := app_size _ _
              have z1 : (a1 ++ (⟨#[46]⟩ : ByteArray)).size = a1.size + 1 := app_size _ _
              have z02 : ((a0 ++ (⟨#[46]⟩ : ByteArray)) ++ a2).size = a0.size + 1 + a2.size := by rw [app_size, z0]
              have z13 : ((a1 ++ (⟨#[46]⟩ : ByteArray)) ++ a3).size = a1.size + 1 + a3.size := by rw [app_size, z1]
              have hf : partF a0.toList a1.toList = Txt.partS a0.toList a1.toList := partF_eq i0 i1
              have pr : ∀ X Y, preS (a0.toList :: X) (a1.toList :: Y) = Txt.partS a0.toList a1.toList := by
                intro X Y
                rw [preS, hf, if_neg hne]
              have c1 := ev_implPre ((a0 ++ (⟨#[46]⟩ : ByteArray)) ++ a2) ((a1 ++ (⟨#[46]⟩ : ByteArray)) ++ a3) (by omega) (by omega)
              have c2 := ev_implPre a0 ((a1 ++ (⟨#[46]⟩ : ByteArray)) ++ a3) (by omega) (by omega)
              have c3 := ev_implPre ((a0 ++ (⟨#[46]⟩ : ByteArray)) ++ a2) a1 (by omega) (by omega)
              have e0 := Txt.split_one _ (ident_no_dot i0.1)
              have e1 := Txt.split_one _ (ident_no_dot i1.1)
              rw [dotted _ _ i0.1, dotted _ _ i1.1, pr] at c1
              rw [e0, dotted _ _ i1.1, pr] at c2
              rw [dotted _ _ i0.1, e1, pr] at c3
              refine Ev.step (f := fun k => ((impl_ComparePre.f k ((a0 ++ (⟨#[46]⟩ : ByteArray)) ++ a2) ((a1 ++ (⟨#[46]⟩ : ByteArray)) ++ a3)).bind fun t153 => (if t153 = Txt.partS a0.toList a1.toList then ((impl_ComparePre.f k a0 ((a1 ++ (⟨#[46]⟩ : ByteArray)) ++ a3)).bind fun t154 => (if t154 = Txt.partS a0.toList a1.toList then ((impl_ComparePre.f k ((a0 ++ (⟨#[46]⟩ : ByteArray)) ++ a2) a1).bind fun t155 => (some (t155 == Txt.partS a0.toList a1.toList))) else (some false))) else (some false)))) (fun k => ?_) ?_
              · simp only [laws_FnSemverPreTail.j1, Bool.not_true]
                rw [if_neg (by decide), hpart, Option.bind_some, if_neg hne, if_pos (by omega), if_pos (by omega), if_pos (by omega), if_pos (by omega)]
              refine Ev.bind c1 ?_
              refine Ev.congr (fun k => by rw [if_pos rfl]) ?_
              refine Ev.bind c2 ?_
              refine Ev.congr (fun k => by rw [if_pos rfl]) ?_
              refine Ev.bind c3 ?_
              rw [beq_self_eq_true]
              exact Ev.now _
  have h : Ev (fun k => laws_FnSemverPreTail.f k a0 a1 a2 a3) true := by
    by_cases h0 : (a0.size : Int) > 2147483647
    · refine Ev.congr (fun k => ?_) (key true (fun h => by cases h))
      unfold laws_FnSemverPreTail.f
      rw [if_pos h0]
    · by_cases h1 : (a1.size : Int) > 2147483647
      · refine Ev.congr (fun k => ?_) (key true (fun h => by cases h))
        unfold laws_FnSemverPreTail.f
        rw [if_neg h0, if_pos h1]
      · by_cases h2 : (a2.size : Int) > 2147483647
        · refine Ev.congr (fun k => ?_) (key true (fun h => by cases h))
          unfold laws_FnSemverPreTail.f
          rw [if_neg h0, if_neg h1, if_pos h2]
        · refine Ev.congr (fun k => ?_) (key (decide ((a3.size : Int) > 2147483647)) (fun h => ⟨by omega, by omega, by omega, by have := of_decide_eq_false h; omega⟩))
          unfold laws_FnSemverPreTail.f
          rw [if_neg h0, if_neg h1, if_neg h2]
  exact h.rounds

end Go.Proofs.YtlooelfkkbgmhaaDoor.Pure
