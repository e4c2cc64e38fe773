import Derived.Test.YtlooelfkkbgmhaaDoorRun
set_option linter.unusedVariables false
set_option linter.unusedSimpArgs false
namespace Go.Proofs.YtlooelfkkbgmhaaDoor.fnSemverIncRun
open Go.RowKit Go.Proofs.YtlooelfkkbgmhaaDoorW.PrintWords Go.Proofs.YtlooelfkkbgmhaaDoor.QS
def wf24 (x : S24) : Prop := ((Lit.int .u64 x.f0).wf = true) ∧ ((Lit.int .u64 x.f1).wf = true) ∧ ((Lit.int .u64 x.f2).wf = true) ∧ (x.f3.size ≤ maxLen) ∧ (x.f4.size ≤ maxLen)
end Go.Proofs.YtlooelfkkbgmhaaDoor.fnSemverIncRun
namespace Go.Proofs.YtlooelfkkbgmhaaDoor.Pure
open Go Txt Go.RowKit Go.Proofs.YtlooelfkkbgmhaaDoor.QS Go.Proofs.YtlooelfkkbgmhaaDoorW.PrintWords Go.Proofs.YtlooelfkkbgmhaaDoorW.PrintLast Go.Proofs.YtlooelfkkbgmhaaDoor.fnSemverIncRun

theorem ev_j3 (v : S24) (l : List Int) (hl : l.length ≤ 64) (hv : v.f3.size ≤ 2147483647) (i : Nat) (hi : i < l.length)
    (hnext : Ev (fun k => laws_FnSemverIncRun.l0 k (runL v l l.length) false l (l.length : Int) ((i + 1 : Nat) : Int) (stp v l (i + 1)).f0 (stp v l (i + 1)).f1 (stp v l (i + 1)).f2 (⟨#[]⟩ : ByteArray) (⟨#[]⟩ : ByteArray)) true) :
    Ev (fun k => laws_FnSemverIncRun.j3 k (runL v l l.length) (i : Int) l (l.length : Int) (i : Int) (stp v l (i + 1)).f0 (stp v l (i + 1)).f1 (stp v l (i + 1)).f2 (⟨#[]⟩ : ByteArray) (⟨#[]⟩ : ByteArray)) true := by
  have hw : wrap64 ((i : Int) + 1) = ((i + 1 : Nat) : Int) := wr_succ i l.length hi (by omega)
  have r0 := runL_rd v l l.length i (by omega)
  have r1 := runL_rd v l l.length (i + 1) (by omega)
  have r2 : rd_T24 (runL v l l.length) 0 = stp v l 0 := runL_rd v l l.length 0 (by omega)
  have hlen := runL_length v l l.length
  have p3 : (stp v l (i + 1)).f3 = ⟨#[]⟩ := by simp only [stp]; exact incS_pre _ _
  have p4 : (stp v l (i + 1)).f4 = ⟨#[]⟩ := by simp only [stp]; exact incS_meta _ _
  have hs : (stp v l i).f3.size ≤ 2147483647 := by
    cases i with
    | zero => exact hv
    | succ i => simp only [stp]; rw [incS_pre]; decide
  have hs1 : (stp v l (i + 1)).f3.size ≤ 2147483647 := by rw [p3]; decide
  have e1 := ev_less (stp v l i) (stp v l (i + 1)) (by simp only [stp]; exact below_inc _ _) hs hs1
  have e2 := ev_less (stp v l 0) (stp v l (i + 1)) (below_stp v l i) hv hs1
  refine Ev.succ'' ?_
  simp only [laws_FnSemverIncRun.j3, hw, r0, r1, r2, hlen]
  refine Ev.congr (fun k => by rw [if_pos (by omega), if_pos (by omega), if_pos (by omega), if_pos (by omega)]) ?_
  refine Ev.bind e1 ?_
  refine Ev.congr (fun k => by rw [if_pos rfl, if_pos (by omega)]) ?_
  refine Ev.bind e2 ?_
  refine Ev.congr (fun k => by rw [if_pos rfl, if_neg (by rw [p3, p4]; simp)]) ?_
  exact hnext

theorem ev_loop (v : S24) (l : List Int) (hl : l.length ≤ 64) (hv : v.f3.size ≤ 2147483647) (h8 : ∀ y ∈ l, (Lit.int .u8 y).wf = true)
    (h0 : 0 ≤ v.f0 ∧ v.f0 ≤ 9223372036854775807) (h1 : 0 ≤ v.f1 ∧ v.f1 ≤ 9223372036854775807) (h2 : 0 ≤ v.f2 ∧ v.f2 ≤ 9223372036854775807) (d : Nat) :
    ∀ i : Nat, i + d = l.length → Ev (fun k => laws_FnSemverIncRun.l0 k (runL v l l.length) ((stp v l i).f3.toList != ([] : List UInt8)) l (l.length : Int) (i : Int) (stp v l i).f0 (stp v l i).f1 (stp v l i).f2 (⟨#[]⟩ : ByteArray) (⟨#[]⟩ : ByteArray)) true := by
  induction d with
  | zero =>
    intro i hi
    refine Ev.succ'' ?_
    simp only [laws_FnSemverIncRun.l0]
    exact Ev.congr (fun k => if_neg (by omega)) (Ev.now _)
  | succ d ih =>
    intro i hi
    have hlt : i < l.length := by omega
    have hb := stp_bound v l 9223372036854775807 h0 h1 h2 i
    have hn := ih (i + 1) (by omega)
    rw [show ((stp v l (i + 1)).f3.toList != ([] : List UInt8)) = false by rw [stp_pre]; rfl] at hn
    have hj := ev_j3 v l hl hv i hlt hn
    have hr : rd l (i : Int) = l.getD i 0 := by unfold rd; rw [Int.toNat_natCast]
    have hs : 0 ≤ l.getD i 0 := by
      have hm : l.getD i 0 ∈ l := by rw [List.getD_eq_getElem?_getD, List.getElem?_eq_getElem hlt, Option.getD_some]; exact List.getElem_mem hlt
      have := h8 _ hm
      clear hm hj hb hr
      revert this
      generalize l.getD i 0 = z
      intro this
      simp [Lit.wf, IntKind.min, IntKind.max, IntKind.bits, IntKind.signed] at this
      omega
    refine Ev.succ'' ?_
    simp only [laws_FnSemverIncRun.l0, hr]
    refine Ev.congr (fun k => by rw [if_pos (by omega), if_pos (by omega), if_pos (by omega)]) ?_
    simp only [stp] at hj
    unfold incS at hj
    by_cases g : l.getD i 0 > 1
    · refine Ev.congr (fun k => if_pos g) ?_
      rw [if_neg (by omega), if_neg (by omega)] at hj
      rw [u64_wrap (by omega) (by omega)]
      exact hj
    · refine Ev.congr (fun k => if_neg g) ?_
      by_cases g1 : l.getD i 0 = 1
      · refine Ev.congr (fun k => if_pos g1) ?_
        rw [if_neg (by omega), if_pos g1] at hj
        rw [u64_wrap (by omega) (by omega)]
        exact hj
      · refine Ev.congr (fun k => if_neg g1) ?_
        rw [if_pos (by omega)] at hj
        by_cases g2 : (stp v l i).f3.toList = []
        · rw [if_pos g2] at hj
          refine Ev.congr (fun k => if_neg (by rw [g2]; decide)) ?_
          rw [u64_wrap (by omega) (by omega)]
          exact hj
        · rw [if_neg g2] at hj
          refine Ev.congr (fun k => if_pos (by simpa using g2)) ?_
          exact hj

theorem FnSemverIncRun (x0 : S24) (l1 : List Int) (w0 : wf24 x0) (w1 : l1.length ≤ maxLen ∧ ∀ y0 ∈ l1, (Lit.int .u8 y0).wf = true) : ∃ k, laws_FnSemverIncRun.f k x0.f0 x0.f1 x0.f2 x0.f3 x0.f4 l1 = some true := by
  obtain ⟨⟨p0, p1⟩, ⟨b0, b1⟩, ⟨c0, c1⟩⟩ : (0 ≤ x0.f0 ∧ x0.f0 < 18446744073709551616) ∧ (0 ≤ x0.f1 ∧ x0.f1 < 18446744073709551616) ∧ (0 ≤ x0.f2 ∧ x0.f2 < 18446744073709551616) := ⟨wf_u64 w0.1, wf_u64 w0.2.1, wf_u64 w0.2.2.1⟩
  have skip1 : Ev (fun k => laws_FnSemverIncRun.j1 k l1 true x0.f0 x0.f1 x0.f2 x0.f3 x0.f4) true := by
    refine Ev.succ'' ?_
    simp only [laws_FnSemverIncRun.j1]
    exact Ev.congr (fun k => if_pos (by first | rfl | trivial)) (Ev.now _)
  have skip0 : Ev (fun k => laws_FnSemverIncRun.j0 k l1 true x0.f0 x0.f1 x0.f2 x0.f3 x0.f4) true := by
    refine Ev.succ'' ?_
    simp only [laws_FnSemverIncRun.j0]
    exact Ev.congr (fun k => if_pos (by first | rfl | trivial)) (Ev.now _)
  have h : Ev (fun k => laws_FnSemverIncRun.f k x0.f0 x0.f1 x0.f2 x0.f3 x0.f4 l1) true := by
    unfold laws_FnSemverIncRun.f
    rw [fits_eq]
    simp only [Option.bind_some]
    by_cases hf : x0.f3.size ≤ 2147483647 ∧ x0.f4.size ≤ 2147483647
    case neg => rw [decide_eq_false hf]; exact Ev.congr (fun k => if_neg (by decide)) skip0
    rw [decide_eq_true hf]
    refine Ev.congr (fun k => if_pos rfl) ?_
    cases decide ((l1.length : Int) > 2147483647) with
    | true => exact skip0
    | false =>
    refine Ev.succ'' ?_
    simp only [laws_FnSemverIncRun.j0]
    refine Ev.congr (fun k => if_neg (by decide)) ?_
    refine Ev.bind (ev_good1 x0 hf) ?_
    refine Ev.ite'' (fun _ => ?_) (fun _ => skip1)
    have hgood := ev_good x0.f0 x0.f1 x0.f2 x0.f3 x0.f4 hf.1 hf.2
    have hp : ∃ b, Ev (fun k => spec_Plain.f k x0.f0 x0.f1 x0.f2 x0.f3 x0.f4) b := by
      unfold spec_Plain.f
      cases hb : (preOk x0.f3.toList && metaOk x0.f4.toList) with
      | false => rw [hb] at hgood; exact ⟨false, Ev.bind hgood (Ev.now _)⟩
      | true =>
        rw [hb] at hgood
        by_cases e0 : x0.f0 < 18446744073709551615
        · by_cases e1 : x0.f1 < 18446744073709551615
          · by_cases e2 : x0.f2 < 18446744073709551615
            · by_cases e3 : x0.f4.toList = []
              · exact ⟨true, Ev.bind hgood (Ev.congr (fun k => by rw [if_pos rfl, if_pos e0, if_pos e1, if_pos e2, if_pos e3]) (Ev.now _))⟩
              · exact ⟨_, Ev.bind hgood (Ev.congr (fun k => by rw [if_pos rfl, if_pos e0, if_pos e1, if_pos e2, if_neg e3]) (Ev.now _))⟩
            · exact ⟨false, Ev.bind hgood (Ev.congr (fun k => by rw [if_pos rfl, if_pos e0, if_pos e1, if_neg e2]) (Ev.now _))⟩
          · exact ⟨false, Ev.bind hgood (Ev.congr (fun k => by rw [if_pos rfl, if_pos e0, if_neg e1]) (Ev.now _))⟩
        · exact ⟨false, Ev.bind hgood (Ev.congr (fun k => by rw [if_pos rfl, if_neg e0]) (Ev.now _))⟩
    obtain ⟨b, hb⟩ := hp
    refine Ev.bind hb ?_
    refine Ev.ite'' (fun _ => ?_) (fun _ => skip1)
    refine Ev.ite'' (fun _ => skip1) (fun hlen => ?_)
    by_cases hz : IntKind.u64.wrap (IntKind.u64.wrap (x0.f0 / 9223372036854775808 + x0.f1 / 9223372036854775808) + x0.f2 / 9223372036854775808) = 0
    case neg => rw [show (IntKind.u64.wrap (IntKind.u64.wrap (x0.f0 / 9223372036854775808 + x0.f1 / 9223372036854775808) + x0.f2 / 9223372036854775808) != 0) = true by simpa using hz]; exact skip1
    rw [hz]
    rw [IntKind.wrap_u64, IntKind.wrap_u64] at hz
    have q0 : 0 ≤ x0.f0 ∧ x0.f0 ≤ 9223372036854775807 := by omega
    have q1 : 0 ≤ x0.f1 ∧ x0.f1 ≤ 9223372036854775807 := by omega
    have q2 : 0 ≤ x0.f2 ∧ x0.f2 ≤ 9223372036854775807 := by omega
    refine Ev.succ'' ?_
    simp only [laws_FnSemverIncRun.j1]
    refine Ev.congr (fun k => if_neg (by decide)) ?_
    refine Ev.bind (ev_svRun x0 l1 (by omega) q0 q1 q2) ?_
    simp only [spec_Bare.f, Option.bind_some]
    exact ev_loop x0 l1 (by omega) hf.1 w1.2 q0 q1 q2 l1.length 0 (by omega)
  exact h.rounds

end Go.Proofs.YtlooelfkkbgmhaaDoor.Pure
