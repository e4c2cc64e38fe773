/-
  impl.VersionsSwapped and impl.VersionsLen.
-/
import Derived.Test.YthfojgggolacbaaSwp0
import Derived.Test.YthfojgggolacbaaQWx2
set_option linter.unusedVariables false
set_option linter.unusedSimpArgs false
namespace Go.Proofs.Ythfojgggolacbaa
open Go Go.RowKit Go.Proofs.YthfojgggolacbaaW.PrintWords Go.Proofs.YthfojgggolacbaaW.PrintLast
open Go.Proofs.Ythfojgggolacbaa.QW (S28 z28 k28 rd_T28 at_T28 k28_open k28_mkM)

/-- two positions changed -/
def swp {α : Type} (z : α) (l : List α) (i j : Int) : List α := (l.set i.toNat (l.getD j.toNat z)).set j.toNat (l.getD i.toNat z)
theorem swp_length {α : Type} (z : α) (l : List α) (i j : Int) : (swp z l i j).length = l.length := by simp [swp]
theorem getD_set {α : Type} (z : α) (l : List α) (i k : Nat) (v : α) (hk : k < l.length) : (l.set i v).getD k z = if i = k then v else l.getD k z := by
  simp only [List.getD_eq_getElem?_getD, List.getElem?_set]
  by_cases h : i = k
  · subst h; simp [hk]
  · simp [h]
theorem swp_get {α : Type} (z : α) (l : List α) (i j : Int) (k : Nat) (hk : k < l.length) : (swp z l i j).getD k z = if j.toNat = k then l.getD i.toNat z else if i.toNat = k then l.getD j.toNat z else l.getD k z := by
  unfold swp
  rw [getD_set _ _ _ _ _ (by simpa using hk), getD_set _ _ _ _ _ hk]
theorem hold_swp {W : World} {ps : List Nat} {l : List S28} (h : Hold W ps l) (i j : Int) (hi : i.toNat < l.length) (hj : j.toNat < l.length) : Hold W (swp 0 ps i j) (swp z28 l i j) := by
  refine ⟨by rw [swp_length, swp_length]; exact h.1, fun k hk => ?_⟩
  rw [swp_length] at hk
  rw [swp_get _ _ _ _ _ hk, swp_get _ _ _ _ _ (by rw [h.1]; exact hk)]
  by_cases h1 : j.toNat = k
  · rw [if_pos h1, if_pos h1]; exact h.2 _ hi
  · rw [if_neg h1, if_neg h1]
    by_cases h2 : i.toNat = k
    · rw [if_pos h2, if_pos h2]; exact h.2 _ hj
    · rw [if_neg h2, if_neg h2]; exact h.2 _ hk
theorem R_ptr {W : World} {base : Nat} {v : Value} {ps : List Nat} (h : Kd.R ptK 35 W base (fun _ => True) v ps) (h0 : 0 < ps.length) : ∃ g cap, v = .slice (some ⟨g, 0, none⟩) ps.length cap ∧ base ≤ g := by
  obtain ⟨_, inner, ⟨_, ho⟩, _⟩ := h
  rcases ho with ⟨_, hz⟩ | ⟨g, cap, cur, hv, hb, _⟩
  · omega
  · exact ⟨g, cap, hv, hb⟩
theorem swp_R {W : World} {base g cap : Nat} {ps : List Nat} (h : Kd.R ptK 35 W base (fun _ => True) (.slice (some ⟨g, 0, none⟩) ps.length cap) ps) (i j : Int) :
    Kd.R ptK 35 (((W.setCell ⟨g, i.toNat, none⟩ (.pointer (some ⟨ps.getD j.toNat 0, 0, none⟩))).setCell ⟨g, j.toNat, none⟩ (.pointer (some ⟨ps.getD i.toNat 0, 0, none⟩))).drew) base (fun _ => True) (.slice (some ⟨g, 0, none⟩) (swp 0 ps i j).length cap) (swp 0 ps i j) := by
  have h1 := (Kd.R_put h i (ps.getD j.toNat 0)).1
  rw [show ps.length = (ps.set i.toNat (ps.getD j.toNat 0)).length by simp] at h1
  have h2 := (Kd.R_put h1 j (ps.getD i.toNat 0)).1
  have h3 := Kd.R_drew h2
  rw [swp_length]
  simpa [swp, ptK] using h3
theorem swp_H {W : World} {base g cap : Nat} {ps : List Nat} {l : List S28} (h : Kd.R ptK 35 W base (fun _ => True) (.slice (some ⟨g, 0, none⟩) ps.length cap) ps) (hH : Hold W ps l) (i j : Int) (a b : Value) :
    Hold (((W.setCell ⟨g, i.toNat, none⟩ a).setCell ⟨g, j.toNat, none⟩ b).drew) ps l := by
  have hne : ∀ k, k < l.length → ps.getD k 0 ≠ g := by
    intro k hk he
    obtain ⟨_, _, _, q, hq, cs, hc⟩ := (Kd.R_bound h).1 g rfl
    rw [← he, hH.2 k hk] at hc
    have h1 := Option.some.inj hc
    injection h1 with h2 h3
    subst h3
    simp [ptK, Kd.scalar] at hq
  refine ⟨hH.1, fun k hk => ?_⟩
  have e := blk_far (blk_far (hH.2 k hk) (p := ⟨g, i.toNat, none⟩) (hne k hk) a) (p := ⟨g, j.toNat, none⟩) (hne k hk) b
  exact e
theorem info28 : (Try.prog.info? 28).map (fun i => (i.zero, i.size, i.bytes)) = some (some (.agg #[.int .u64 0, .int .u64 0, .int .u64 0, .string ⟨#[]⟩, .string ⟨#[]⟩]), 5, 56) := by kernel_rfl
set_option maxHeartbeats 8000000 in
set_option maxRecDepth 100000 in
theorem swapped_any (A : Option Addr) (c : Nat) (l : List S28) (i j : Int) (w : World) (hr : Kd.C k28 w A l.length l) (hn : l.length ≤ 2147483647) (i0 : 0 ≤ i) (i1 : i < l.length) (j0 : 0 ≤ j) (j1 : j < l.length) :
    Calls Try.prog 5 #[.slice A l.length c, .int .i64 i, .int .i64 j] w fun e w' => ∃ v, e = .returned v ∧ Kd.R k28 28 w' w.heap.size (fun _ => True) v (swp z28 l i j) ∧ Below w.heap.size w w' := by
  have HR := Aside0.mk hr
  have HN := Aside0.mk hn
  have I0 := Aside0.mk i0
  have I1 := Aside0.mk i1
  have J0 := Aside0.mk j0
  have J1 := Aside0.mk j1
  have t0 : decide (0 ≤ i) = true := decide_eq_true i0
  have t1 : decide (0 ≤ j) = true := decide_eq_true j0
  have t2 : decide (i < (l.length : Int)) = true := decide_eq_true i1
  have t3 : decide (j < (l.length : Int)) = true := decide_eq_true j1
  clear hr i0 i1 j0 j1
  go_enter Try.func5, Try.ntmps5
  go_upto_region 5 with (first
    | (go_at_call 8; (with_reducible refine (collection_any A c l _ HR.out HN.out).mono ?_); rintro e w1 ⟨v, ps, rfl, hR, hH, hB⟩; obtain ⟨g, cap, rfl, hg⟩ := R_ptr hR (by rw [hH.1]; have h1 := I0.out; have h2 := I1.out; omega); have e1 := hH.1; rw [e1]; have HR1 := Aside0.mk hR; have HH1 := Aside0.mk hH; have HB1 := Aside0.mk hB; have HG := Aside0.mk hg; have HE := Aside0.mk e1; clear hR hH hB hg e1)
    | (go_at_call 9; obtain ⟨c0, f0⟩ := Kd.R_cell (0 : Nat) HR1.out i I0.out (by rw [HE.out]; exact I1.out); obtain ⟨c1, f1⟩ := Kd.R_cell (0 : Nat) HR1.out j J0.out (by rw [HE.out]; exact J1.out); (with_reducible refine (swap_any g _ cap _ _ i j _ I0.out I1.out J0.out J1.out c0 f0 c1 f1).mono ?_); rintro e w2 ⟨rfl, hw2⟩; have HW2 := Aside0.mk hw2; clear hw2 c0 f0 c1 f1))
  have HR2 : Aside0 (Kd.R ptK 35 w2 w.heap.size (fun _ => True) (.slice (some ⟨g, 0, none⟩) (swp 0 ps i j).length cap) (swp 0 ps i j)) := ⟨by rw [HW2.out]; exact swp_R HR1.out i j⟩
  have HH2 : Aside0 (Hold w2 (swp 0 ps i j) (swp z28 l i j)) := ⟨by rw [HW2.out]; exact hold_swp (swp_H HR1.out HH1.out i j _ _) i j (by have h1 := I0.out; have h2 := I1.out; omega) (by have h1 := J0.out; have h2 := J1.out; omega)⟩
  have HB2 : Aside0 (Below w.heap.size w w2) := ⟨by rw [HW2.out]; exact bl_drew (bl_set (bl_set HB1.out HG.out _) HG.out _)⟩
  clear HW2 HR1 HH1 HB1 t0 t1 t2 t3
  have HL2 := Aside0.mk (swp_length z28 l i j)
  have HL3 := Aside0.mk ((swp_length (0 : Nat) ps i j).trans HE.out)
  rw [HL3.out] at HR2
  generalize hm : swp z28 l i j = m at HH2 HL2 ⊢
  generalize swp 0 ps i j = qs at HR2 HH2 HL3
  go_wp2
  go_loopg [8, 37] (l.length + 1) (fun g' v8 v37 w' => ∃ x : Int, v37 = .int .i64 x ∧ Aside0 (0 ≤ x ∧ x ≤ l.length ∧ g' + x.toNat = l.length + 1) ∧ Aside0 (Kd.R k28 28 w' w2.heap.size (fun _ => True) v8 (m.take x.toNat)) ∧ Aside0 (Below w2.heap.size w2 w'))
  case atStart => exact ⟨0, rfl, ⟨by omega, by omega, by simp⟩, ⟨by simpa using Kd.R_nil _ _ _ _ _⟩, ⟨Below.refl _ _⟩⟩
  case round =>
    obtain ⟨x, rfl, HI, HO, HB⟩ := hrel
    by_cases hlt : x < (l.length : Int)
    · have c1 : decide (x < (l.length : Int)) = true := decide_eq_true hlt
      have p0 : 0 ≤ x := HI.out.1
      have p1 : x < (l.length : Int) := hlt
      obtain ⟨c0, -⟩ := Kd.R_cell (0 : Nat) (by rw [HL3.out]; exact HR2.out) x p0 (by rw [HL3.out]; exact p1)
      replace c0 := cell_on HB.out c0
      have hq := HH2.out.2 x.toNat (by rw [HL2.out]; omega)
      replace hq := (HB.out.block _ (Array.getElem?_eq_some_iff.1 hq).1).trans hq
      obtain ⟨q, hqe⟩ : ∃ q, q = qs.getD x.toNat 0 := ⟨_, rfl⟩
      obtain ⟨tm, htm⟩ : ∃ tm, tm = m.getD x.toNat z28 := ⟨_, rfl⟩
      rw [← hqe, ← htm] at hq
      have c0' : wr.cell? ⟨g, x.toNat, none⟩ = some (.pointer (some ⟨q, 0, none⟩)) := by rw [hqe]; exact c0
      have HQ := Aside0.mk hq
      have HM := Aside0.mk htm
      have E1 := Aside0.mk (wrap_next p0 p1 HN.out)
      have E2 := Aside0.mk (take_next z28 m x p0 (by rw [HL2.out]; exact p1))
      clear htm hlt hq hqe c0
      replace p0 := eq_true p0
      replace p1 := eq_true p1
      go_wp2_with (first | (go_at_call 10; (with_reducible refine (plain_any q tm _ HQ.out).mono ?_); rintro e w3 ⟨rfl, hb⟩; have HW := Aside0.mk hb; clear hb) | (at_builtin; refine Kd.R_append k28 (w0 := w2) w2.heap.size rfl (.tmp 41) (.tmp 44) 22 28 (.agg #[.int .u64 0, .int .u64 0, .int .u64 0, .string ⟨#[]⟩, .string ⟨#[]⟩]) 56 rfl Try.underlying22 info28 rfl (by decide) (by omega) u8 (m.take x.toNat) tm [.int .u64 tm.f0, .int .u64 tm.f1, .int .u64 tm.f2, .string tm.f3, .string tm.f4] (fun _ => True) (fun _ => False) rfl rfl ?aP ?aK (fun _ _ => trivial) ?aO ?aB ?aS ?aL ?_; (case aP => exact k28_mkM _ _ _ tm); (case aK => exact fun _ h => h.elim); (case aO => exact Kd.R_below HO.out HW.out); (case aB => exact bl_on HB.out HW.out); (case aS => exact (bl_on HB.out HW.out).size); (case aL => have h1 := take_length_le m x.toNat; have h2 := HL2.out; have h3 := HN.out; omega); intro v1 w4 hR1 hB1 _ _; have HR3 := Aside0.mk hR1; have HB3 := Aside0.mk hB1; clear hR1 hB1))
      go_roundg (gk - 1)
      case measure => have h1 := HI.out; have h2 := of_eq_true p1; omega
      case rel => exact ⟨wrap64 (x + 1), rfl, ⟨by rw [E1.out]; have h1 := HI.out; have h2 := of_eq_true p1; omega⟩, ⟨by rw [E1.out, E2.out, ← (show tm = m.getD x.toNat z28 from HM.out)]; exact HR3.out⟩, HB3⟩
    · have c1 : decide (x < (l.length : Int)) = false := decide_eq_false hlt
      have E0 : Aside0 (m.take x.toNat = m) := ⟨by have h1 := HI.out; have h2 := HL2.out; rw [List.take_of_length_le (by omega)]⟩
      clear hlt
      go_wp2
      go_ret
      exact ⟨_, rfl, by rw [E0.out] at HO; rw [hm]; exact Kd.R_lower HO.out HB2.out.size, bl_on HB2.out HB.out⟩
theorem clen_any (A : Option Addr) (n c : Nat) (w : World) : Calls Try.prog 11 #[.slice A n c] w fun e w' => e = .returned (.int .i64 n) ∧ w = w' := by
  go_enter Try.func11, Try.ntmps11
  go_wp2
  go_ret
  exact ⟨rfl, rfl⟩
theorem len_any (A : Option Addr) (c : Nat) (l : List S28) (w : World) (hr : Kd.C k28 w A l.length l) (hn : l.length ≤ 2147483647) :
    Calls Try.prog 6 #[.slice A l.length c] w fun e w' => e = .returned (.int .i64 l.length) ∧ Below w.heap.size w w' := by
  have HR := Aside0.mk hr
  have HN := Aside0.mk hn
  clear hr
  go_enter Try.func6, Try.ntmps6
  go_wp2_with (first | (go_at_call 11; (with_reducible refine (clen_any A1 l.length c1 _).mono ?_); rintro e w2 ⟨rfl, rfl⟩) | go_at_call 8; (with_reducible refine (collection_any A c l _ HR.out HN.out).mono ?_); rintro e w1 ⟨v, ps, rfl, hR, hH, hB⟩; obtain ⟨A1, c1, rfl⟩ := Kd.R_slice hR; have e1 := hH.1; rw [e1]; have HB1 := Aside0.mk hB; clear hR hH hB e1)
  go_ret
  exact ⟨rfl, HB1.out⟩
end Go.Proofs.Ythfojgggolacbaa
namespace Go.Proofs.Ythfojgggolacbaa.QW
open Go Go.RowKit Go.Proofs.YthfojgggolacbaaW.PrintWords Go.Proofs.YthfojgggolacbaaW.PrintLast
/-- the list with the two positions changed; asked of positions within -/
def impl_VersionsSwapped.f (l : List S28) (i j : Int) : Option (List S28) := if l.length ≤ 2147483647 ∧ 0 ≤ i ∧ i < l.length ∧ 0 ≤ j ∧ j < l.length then some (swp z28 l i j) else none
theorem impl_VersionsSwapped.calls (A0 : Option Addr) (c0 : Nat) (l0 : List S28) (a1 a2 : Int) (r : List S28) (w : World) (hr0 : Kd.C k28 w A0 l0.length l0) (hc0 : l0.length ≤ c0) (h : impl_VersionsSwapped.f l0 a1 a2 = some r) :
    Calls Try.prog 5 #[.slice A0 l0.length c0, .int .i64 a1, .int .i64 a2] w fun e w' => ∃ v : Value, e = .returned v ∧ Kd.R k28 28 w' w.heap.size (fun _ => True) v r ∧ Below w.heap.size w w' := by
  unfold impl_VersionsSwapped.f at h
  by_cases hc : l0.length ≤ 2147483647 ∧ 0 ≤ a1 ∧ a1 < l0.length ∧ 0 ≤ a2 ∧ a2 < l0.length
  · rw [if_pos hc] at h
    obtain rfl := Option.some.inj h
    exact swapped_any A0 c0 l0 a1 a2 w hr0 hc.1 hc.2.1 hc.2.2.1 hc.2.2.2.1 hc.2.2.2.2
  · rw [if_neg hc] at h; cases h
def impl_VersionsLen.f (l : List S28) : Option Int := if l.length ≤ 2147483647 then some (l.length : Int) else none
theorem impl_VersionsLen.calls (A0 : Option Addr) (c0 : Nat) (l0 : List S28) (r : Int) (w : World) (hr0 : Kd.C k28 w A0 l0.length l0) (hc0 : l0.length ≤ c0) (h : impl_VersionsLen.f l0 = some r) :
    Calls Try.prog 6 #[.slice A0 l0.length c0] w fun e w' => e = .returned (.int .i64 r) ∧ Below w.heap.size w w' := by
  unfold impl_VersionsLen.f at h
  by_cases hc : l0.length ≤ 2147483647
  · rw [if_pos hc] at h
    obtain rfl := Option.some.inj h
    exact len_any A0 c0 l0 w hr0 hc
  · rw [if_neg hc] at h; cases h
end Go.Proofs.Ythfojgggolacbaa.QW
