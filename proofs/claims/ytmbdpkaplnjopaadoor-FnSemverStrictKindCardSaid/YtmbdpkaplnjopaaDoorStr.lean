/-
  StrictNewVersion walked, a theorem a path.
-/
import Derived.Test.YtmbdpkaplnjopaaDoorSt
set_option linter.unusedVariables false
set_option linter.unusedSimpArgs false
namespace Go.Proofs.YtmbdpkaplnjopaaDoor
open Go Go.RowKit Go.Proofs.YtmbdpkaplnjopaaDoorW.PrintWords Go.Proofs.YtmbdpkaplnjopaaDoorW.PrintLast Go.Proofs.YtmbdpkaplnjopaaDoor.PFnSemverStrictKind Go.Proofs.YtmbdpkaplnjopaaDoor.Gram
theorem drawn_below {w w' : World} (h : Drawn0 w w') : Below w.heap.size w w' := h.below
def goodN (t : ByteArray) : Bool := (L t).all isD && !lead (L t)
/-- what a part says as a number -/
def numV (t : ByteArray) : Option Nat := if goodN t = true then (match Lib.parseUintB 64 t.data.toList with | .ok u => some u | _ => none) else none
theorem numV_ok {t : ByteArray} {u : Nat} (h : goodN t = true) (hp : Lib.parseUintB 64 t.data.toList = .ok u) : numV t = some u := by unfold numV; rw [if_pos h, hp]
theorem numV_err {t : ByteArray} (hp : ∀ u, Lib.parseUintB 64 t.data.toList ≠ .ok u) : numV t = none := by
  unfold numV
  split
  · cases he : Lib.parseUintB 64 t.data.toList with
    | ok u => exact absurd he (hp u)
    | «syntax» => rfl
    | range => rfl
  · rfl
theorem numV_bad {t : ByteArray} (h : goodN t = false) : numV t = none := by unfold numV; rw [if_neg (by rw [h]; decide)]
/-- the kind of the first number that is wrong by its bytes -/
def kNum (a b c : ByteArray) : Option Nat := match [a, b, c].find? (fun t => !goodN t) with
  | some t => some (if (L t).all isD then 4 else 3)
  | none => none
theorem kNum0 {a b c : ByteArray} (h : goodN a = false) : kNum a b c = some (if (L a).all isD then 4 else 3) := by unfold kNum; rw [List.find?_cons, h]; rfl
theorem kNum1 {a b c : ByteArray} (ha : goodN a = true) (h : goodN b = false) : kNum a b c = some (if (L b).all isD then 4 else 3) := by unfold kNum; rw [List.find?_cons, ha]; simp only [Bool.not_true]; rw [List.find?_cons, h]; rfl
theorem kNum2 {a b c : ByteArray} (ha : goodN a = true) (hb : goodN b = true) (h : goodN c = false) : kNum a b c = some (if (L c).all isD then 4 else 3) := by unfold kNum; rw [List.find?_cons, ha]; simp only [Bool.not_true]; rw [List.find?_cons, hb]; simp only [Bool.not_true]; rw [List.find?_cons, h]; rfl
theorem kNum_none {a b c : ByteArray} (ha : goodN a = true) (hb : goodN b = true) (hc : goodN c = true) : kNum a b c = none := by unfold kNum; rw [List.find?_cons, ha]; simp only [Bool.not_true]; rw [List.find?_cons, hb]; simp only [Bool.not_true]; rw [List.find?_cons, hc]; rfl
theorem numErr_set {E : Nat → Addr} {N V i : Nat} {W : World} {u : Value} (h : NumErr E N W) (hn : N ≠ V) : NumErr E N (W.setCell ⟨V, i, none⟩ u) := by
  obtain ⟨a, b, k, hk, hc⟩ := h
  exact ⟨a, b, k, hk, (Below.heap_setCell W ⟨V, i, none⟩ _ N hn).trans hc⟩
theorem st_lt {w : World} {g v : Nat} {a b c : ByteArray} {n0 n1 n2 : Int} {pre mt : ByteArray} {W : World} (h : ST w g v a b c n0 n1 n2 pre mt W) : v < W.heap.size := by
  obtain ⟨o, ho⟩ := h.vb
  exact (Array.getElem?_eq_some_iff.1 ho).1
/-- how it ends -/
def PostN (E : Nat → Addr) (w : World) (a b c pre mt : ByteArray) (e : Ending) (w' : World) : Prop :=
  (∃ (u0 u1 u2 g V : Nat), numV a = some u0 ∧ numV b = some u1 ∧ numV c = some u2 ∧ e = .returned (.tuple #[.pointer (some ⟨V, 0, none⟩), .nilIface]) ∧ ST w g V a b c u0 u1 u2 pre mt w') ∨
  (∃ g, kNum a b c = some g ∧ e = .returned (.tuple #[.pointer none, errV E g]) ∧ Below w.heap.size w w') ∨
  (kNum a b c = none ∧ (numV a = none ∨ numV b = none ∨ numV c = none) ∧ ∃ N, e = .returned (.tuple #[.pointer none, .iface 67 (.pointer (some ⟨N, 0, none⟩))]) ∧ NumErr E N w' ∧ Below w.heap.size w w')
def PostE (E : Nat → Addr) (g : Nat) (w : World) (e : Ending) (w' : World) : Prop := e = .returned (.tuple #[.pointer none, errV E g]) ∧ Below w.heap.size w w'
theorem res_ok {p : Bool} {e : Ending} {V : Value} (h : p = true) (hr : (p = true ∧ e = .returned .nilIface) ∨ (p = false ∧ e = .returned V)) : e = .returned .nilIface := by
  rcases hr with h1 | h1
  · exact h1.2
  · rw [h] at h1; exact absurd h1.1 (by decide)
theorem res_bad {p : Bool} {e : Ending} {V : Value} (h : p = false) (hr : (p = true ∧ e = .returned .nilIface) ∨ (p = false ∧ e = .returned V)) : e = .returned V := by
  rcases hr with h1 | h1
  · rw [h] at h1; exact absurd h1.1 (by decide)
  · exact h1.2
set_option maxHeartbeats 16000000 in
set_option maxRecDepth 100000 in
theorem strict_t00 (E : Nat → Addr) (s : ByteArray) (a b c0 : ByteArray) (ks kp1 km1 : Nat) (hz : ((s.size : Int) == 0) = false) (hl : decide (256 < (s.size : Int)) = false) (Aspl : semver_zzSplitN.f ks s ⟨#[46]⟩ 3 = some [a, b, c0]) (Ap1 : semver_zzContains.f kp1 c0 ⟨#[43]⟩ = some false) (Am1 : semver_zzContains.f km1 c0 ⟨#[45]⟩ = some false) (Asa : a.size ≤ 281474976710656 ∧ b.size ≤ 281474976710656 ∧ c0.size ≤ 281474976710656) (w : World) (hG : GlobS E w) (hE : GlobE E w) :
    Calls Tryd.prog 7 #[.string s] w (PostN E w a b c0 ⟨#[]⟩ ⟨#[]⟩) := by
  have HG := Aside0.mk hG
  have HE := Aside0.mk hE
  clear hG hE
  have HSPL := Aside0.mk Aspl
  clear Aspl
  have HP1 := Aside0.mk Ap1
  clear Ap1
  have HM1 := Aside0.mk Am1
  clear Am1
  have HSA := Aside0.mk Asa
  clear Asa
  go_enter Tryd.func7, Tryd.ntmps7
  go_upto_region 9 with (go_at_call 15; (with_reducible refine (semver_zzSplitN.calls ks s ⟨#[46]⟩ 3 [a, b, c0] _ HSPL.out).mono ?_); rintro e w1 ⟨v, rfl, hR, hb⟩; obtain ⟨g, cap, e1, hg, hgl, -⟩ := Kd.R_form hR (by simp); subst e1; have HR := Aside0.mk hR; have HB := Aside0.mk hb; have HGL := Aside0.mk (And.intro hg hgl); clear hR hb hg hgl)
  have HF := Aside0.mk (st_start (s := s) HR.out HB.out HGL.out.1 HGL.out.2)
  clear HR HGL
  generalize w1.alloc (.cells #[.int .u64 0, .int .u64 0, .int .u64 0, .string ⟨#[]⟩, .string ⟨#[]⟩, .string s] 42) = W0 at HF ⊢
  generalize w1.heap.size = V at HF ⊢
  obtain ⟨u0, u1, u2, u3, u4, k0, k1, k2, k3, k4⟩ := HF.out.cells
  have a0 := HF.out.a0
  have a1 := HF.out.a1
  have a2 := HF.out.a2
  have f2 := HF.out.f2
  have e1 : (g = V) = False := eq_false (by have := HF.out.ne; omega)
  have e2 : (V = g) = False := eq_false (by have := HF.out.ne; omega)
  go_upto_region 16 with (go_at_call 16; (with_reducible refine (semver_zzContains.calls kp1 c0 ⟨#[43]⟩ false _ HP1.out).mono ?_); rintro e w2 ⟨rfl, hd⟩; have HF0 := Aside0.mk (HF.out.on (drawn_below hd)); clear hd)
  clear u0 u1 u2 u3 u4 k0 k1 k2 k3 k4 a0 a1 a2 f2 e1 e2
  clear HF
  have HF := HF0
  clear HF0
  obtain ⟨u0, u1, u2, u3, u4, k0, k1, k2, k3, k4⟩ := HF.out.cells
  have a0 := HF.out.a0
  have a1 := HF.out.a1
  have a2 := HF.out.a2
  have f2 := HF.out.f2
  have e1 : (g = V) = False := eq_false (by have := HF.out.ne; omega)
  have e2 : (V = g) = False := eq_false (by have := HF.out.ne; omega)
  go_upto_region 23 with (go_at_call 16; (with_reducible refine (semver_zzContains.calls km1 c0 ⟨#[45]⟩ false _ HM1.out).mono ?_); rintro e w2 ⟨rfl, hd⟩; have HF0 := Aside0.mk (HF.out.on (drawn_below hd)); clear hd)
  clear u0 u1 u2 u3 u4 k0 k1 k2 k3 k4 a0 a1 a2 f2 e1 e2
  clear HF
  have HF := HF0
  clear HF0
  obtain ⟨u0, u1, u2, u3, u4, k0, k1, k2, k3, k4⟩ := HF.out.cells
  have a0 := HF.out.a0
  have a1 := HF.out.a1
  have a2 := HF.out.a2
  have f2 := HF.out.f2
  have e1 : (g = V) = False := eq_false (by have := HF.out.ne; omega)
  have e2 : (V = g) = False := eq_false (by have := HF.out.ne; omega)
  go_wp2
  clear u0 u1 u2 u3 u4 k0 k1 k2 k3 k4 a0 a1 a2 f2 e1 e2
  go_loopg [86] 4 (fun gq v86 w' => ∃ x : Int, v86 = .int .i64 x ∧ Aside0 (0 ≤ x ∧ x ≤ 3 ∧ gq + x.toNat = 4) ∧ Aside0 ((0 < x → goodN a = true) ∧ (1 < x → goodN b = true) ∧ (2 < x → goodN c0 = true)) ∧ Aside0 (ST w g V a b c0 0 0 0 ⟨#[]⟩ ⟨#[]⟩ w'))
  case atStart => exact ⟨0, rfl, ⟨by omega, by omega, by omega⟩, ⟨⟨fun h => absurd h (by decide), fun h => absurd h (by decide), fun h => absurd h (by decide)⟩⟩, HF⟩
  case round =>
    clear HF
    obtain ⟨x, rfl, HI, HD, HF⟩ := hrel
    have hx : x = 0 ∨ x = 1 ∨ x = 2 ∨ x = 3 := by have h := HI.out; omega
    rcases hx with rfl | rfl | rfl | rfl
    · skip
      obtain ⟨u0, u1, u2, u3, u4, k0, k1, k2, k3, k4⟩ := HF.out.cells
      have a0 := HF.out.a0
      have a1 := HF.out.a1
      have a2 := HF.out.a2
      have f2 := HF.out.f2
      have e1 : (g = V) = False := eq_false (by have := HF.out.ne; omega)
      have e2 : (V = g) = False := eq_false (by have := HF.out.ne; omega)
      cases hd : (L a).all isD
      · have HNum : Aside0 (onlyB num a = false) := ⟨by rw [only_num]; exact hd⟩
        have HO : Aside0 (goodN a = false) := ⟨by unfold goodN; rw [hd]; rfl⟩
        have HKN : Aside0 (kNum a b c0 = some 3) := ⟨by rw [kNum0 HO.out]; rw [hd]; rfl⟩
        clear hd
        go_upto_region 27 with (go_at_call 19; (with_reducible refine (only18_any a num num_plain _).mono ?_); rintro e w2 ⟨rfl, hb⟩; rw [HNum.out]; have HB2 := Aside0.mk (bl_on HF.out.hb hb); clear hb)
        have gg := globS_below HG.out HB2.out 3 (by decide)
        first | go_region_held3 (fun W => W.cell? ⟨3, 0, none⟩ = some (.iface 86 (.pointer (some (E 3)))) ∧ Hid (Below w.heap.size w W)) (first | assumption | exact ⟨cell_on (bl_drew (Below.refl _ _)) gg, Lib.hid (bl_drew (HB2.out))⟩ | fail) (first | fail) | fail
        rename_i hH
        have HBZ := Lib.hid hH.2.out
        clear hH gg
        go_wp2_with fail
        go_ret2
        exact Or.inr (Or.inl ⟨3, HKN.out, rfl, HBZ.out⟩)
      · have HNum : Aside0 (onlyB num a = true) := ⟨by rw [only_num]; exact hd⟩
        have hle := lead_L a
        have hbt : ∀ h : 0 < a.size, ((a[0]'h).toNat : Int) = bt a 0 := bt_at a 0
        cases h1 : decide (1 < (a.size : Int))
        · have HO : Aside0 (goodN a = true) := ⟨by unfold goodN; rw [hd, hle, h1]; rfl⟩
          clear hd hle hbt
          go_wp2_with (go_at_call 19; (with_reducible refine (only18_any a num num_plain _).mono ?_); rintro e w2 ⟨rfl, hb⟩; rw [HNum.out]; have HF2 := Aside0.mk (HF.out.on hb); clear hb)
          go_roundg (gk - 1)
          case measure => have h := HI.out; omega
          case rel => exact ⟨1, by first | rfl | simp [wrap64], ⟨by have h := HI.out; omega⟩, ⟨⟨fun _ => HO.out, fun h => absurd h (by decide), fun h => absurd h (by decide)⟩⟩, HF2⟩
        · have hsz : (0 < a.size) = True := eq_true (by have := of_decide_eq_true h1; omega)
          cases h2 : (bt a 0 == 48)
          · have HO : Aside0 (goodN a = true) := ⟨by unfold goodN; rw [hd, hle, h1, h2]; rfl⟩
            clear hd hle
            go_wp2_with (go_at_call 19; (with_reducible refine (only18_any a num num_plain _).mono ?_); rintro e w2 ⟨rfl, hb⟩; rw [HNum.out]; have HF2 := Aside0.mk (HF.out.on hb); clear hb)
            go_roundg (gk - 1)
            case measure => have h := HI.out; omega
            case rel => exact ⟨1, by first | rfl | simp [wrap64], ⟨by have h := HI.out; omega⟩, ⟨⟨fun _ => HO.out, fun h => absurd h (by decide), fun h => absurd h (by decide)⟩⟩, HF2⟩
          · have HO : Aside0 (goodN a = false) := ⟨by unfold goodN; rw [hd, hle, h1, h2]; rfl⟩
            have HKN : Aside0 (kNum a b c0 = some 4) := ⟨by rw [kNum0 HO.out]; rw [hd]; rfl⟩
            clear hd hle
            go_upto_region 29 with (go_at_call 19; (with_reducible refine (only18_any a num num_plain _).mono ?_); rintro e w2 ⟨rfl, hb⟩; rw [HNum.out]; have HB2 := Aside0.mk (bl_on HF.out.hb hb); clear hb)
            have gg := globS_below HG.out HB2.out 4 (by decide)
            first | go_region_held3 (fun W => W.cell? ⟨4, 0, none⟩ = some (.iface 86 (.pointer (some (E 4)))) ∧ Hid (Below w.heap.size w W)) (first | assumption | exact ⟨cell_on (bl_drew (Below.refl _ _)) gg, Lib.hid (bl_drew (HB2.out))⟩ | fail) (first | fail) | fail
            rename_i hH
            have HBZ := Lib.hid hH.2.out
            clear hH gg
            go_wp2_with fail
            go_ret2
            exact Or.inr (Or.inl ⟨4, HKN.out, rfl, HBZ.out⟩)
    · skip
      obtain ⟨u0, u1, u2, u3, u4, k0, k1, k2, k3, k4⟩ := HF.out.cells
      have a0 := HF.out.a0
      have a1 := HF.out.a1
      have a2 := HF.out.a2
      have f2 := HF.out.f2
      have e1 : (g = V) = False := eq_false (by have := HF.out.ne; omega)
      have e2 : (V = g) = False := eq_false (by have := HF.out.ne; omega)
      cases hd : (L b).all isD
      · have HNum : Aside0 (onlyB num b = false) := ⟨by rw [only_num]; exact hd⟩
        have HO : Aside0 (goodN b = false) := ⟨by unfold goodN; rw [hd]; rfl⟩
        have HKN : Aside0 (kNum a b c0 = some 3) := ⟨by rw [kNum1 (HD.out.1 (by decide)) HO.out]; rw [hd]; rfl⟩
        clear hd
        go_upto_region 27 with (go_at_call 19; (with_reducible refine (only18_any b num num_plain _).mono ?_); rintro e w2 ⟨rfl, hb⟩; rw [HNum.out]; have HB2 := Aside0.mk (bl_on HF.out.hb hb); clear hb)
        have gg := globS_below HG.out HB2.out 3 (by decide)
        first | go_region_held3 (fun W => W.cell? ⟨3, 0, none⟩ = some (.iface 86 (.pointer (some (E 3)))) ∧ Hid (Below w.heap.size w W)) (first | assumption | exact ⟨cell_on (bl_drew (Below.refl _ _)) gg, Lib.hid (bl_drew (HB2.out))⟩ | fail) (first | fail) | fail
        rename_i hH
        have HBZ := Lib.hid hH.2.out
        clear hH gg
        go_wp2_with fail
        go_ret2
        exact Or.inr (Or.inl ⟨3, HKN.out, rfl, HBZ.out⟩)
      · have HNum : Aside0 (onlyB num b = true) := ⟨by rw [only_num]; exact hd⟩
        have hle := lead_L b
        have hbt : ∀ h : 0 < b.size, ((b[0]'h).toNat : Int) = bt b 0 := bt_at b 0
        cases h1 : decide (1 < (b.size : Int))
        · have HO : Aside0 (goodN b = true) := ⟨by unfold goodN; rw [hd, hle, h1]; rfl⟩
          clear hd hle hbt
          go_wp2_with (go_at_call 19; (with_reducible refine (only18_any b num num_plain _).mono ?_); rintro e w2 ⟨rfl, hb⟩; rw [HNum.out]; have HF2 := Aside0.mk (HF.out.on hb); clear hb)
          go_roundg (gk - 1)
          case measure => have h := HI.out; omega
          case rel => exact ⟨2, by first | rfl | simp [wrap64], ⟨by have h := HI.out; omega⟩, ⟨⟨fun _ => HD.out.1 (by decide), fun _ => HO.out, fun h => absurd h (by decide)⟩⟩, HF2⟩
        · have hsz : (0 < b.size) = True := eq_true (by have := of_decide_eq_true h1; omega)
          cases h2 : (bt b 0 == 48)
          · have HO : Aside0 (goodN b = true) := ⟨by unfold goodN; rw [hd, hle, h1, h2]; rfl⟩
            clear hd hle
            go_wp2_with (go_at_call 19; (with_reducible refine (only18_any b num num_plain _).mono ?_); rintro e w2 ⟨rfl, hb⟩; rw [HNum.out]; have HF2 := Aside0.mk (HF.out.on hb); clear hb)
            go_roundg (gk - 1)
            case measure => have h := HI.out; omega
            case rel => exact ⟨2, by first | rfl | simp [wrap64], ⟨by have h := HI.out; omega⟩, ⟨⟨fun _ => HD.out.1 (by decide), fun _ => HO.out, fun h => absurd h (by decide)⟩⟩, HF2⟩
          · have HO : Aside0 (goodN b = false) := ⟨by unfold goodN; rw [hd, hle, h1, h2]; rfl⟩
            have HKN : Aside0 (kNum a b c0 = some 4) := ⟨by rw [kNum1 (HD.out.1 (by decide)) HO.out]; rw [hd]; rfl⟩
            clear hd hle
            go_upto_region 29 with (go_at_call 19; (with_reducible refine (only18_any b num num_plain _).mono ?_); rintro e w2 ⟨rfl, hb⟩; rw [HNum.out]; have HB2 := Aside0.mk (bl_on HF.out.hb hb); clear hb)
            have gg := globS_below HG.out HB2.out 4 (by decide)
            first | go_region_held3 (fun W => W.cell? ⟨4, 0, none⟩ = some (.iface 86 (.pointer (some (E 4)))) ∧ Hid (Below w.heap.size w W)) (first | assumption | exact ⟨cell_on (bl_drew (Below.refl _ _)) gg, Lib.hid (bl_drew (HB2.out))⟩ | fail) (first | fail) | fail
            rename_i hH
            have HBZ := Lib.hid hH.2.out
            clear hH gg
            go_wp2_with fail
            go_ret2
            exact Or.inr (Or.inl ⟨4, HKN.out, rfl, HBZ.out⟩)
    · skip
      obtain ⟨u0, u1, u2, u3, u4, k0, k1, k2, k3, k4⟩ := HF.out.cells
      have a0 := HF.out.a0
      have a1 := HF.out.a1
      have a2 := HF.out.a2
      have f2 := HF.out.f2
      have e1 : (g = V) = False := eq_false (by have := HF.out.ne; omega)
      have e2 : (V = g) = False := eq_false (by have := HF.out.ne; omega)
      cases hd : (L c0).all isD
      · have HNum : Aside0 (onlyB num c0 = false) := ⟨by rw [only_num]; exact hd⟩
        have HO : Aside0 (goodN c0 = false) := ⟨by unfold goodN; rw [hd]; rfl⟩
        have HKN : Aside0 (kNum a b c0 = some 3) := ⟨by rw [kNum2 (HD.out.1 (by decide)) (HD.out.2.1 (by decide)) HO.out]; rw [hd]; rfl⟩
        clear hd
        go_upto_region 27 with (go_at_call 19; (with_reducible refine (only18_any c0 num num_plain _).mono ?_); rintro e w2 ⟨rfl, hb⟩; rw [HNum.out]; have HB2 := Aside0.mk (bl_on HF.out.hb hb); clear hb)
        have gg := globS_below HG.out HB2.out 3 (by decide)
        first | go_region_held3 (fun W => W.cell? ⟨3, 0, none⟩ = some (.iface 86 (.pointer (some (E 3)))) ∧ Hid (Below w.heap.size w W)) (first | assumption | exact ⟨cell_on (bl_drew (Below.refl _ _)) gg, Lib.hid (bl_drew (HB2.out))⟩ | fail) (first | fail) | fail
        rename_i hH
        have HBZ := Lib.hid hH.2.out
        clear hH gg
        go_wp2_with fail
        go_ret2
        exact Or.inr (Or.inl ⟨3, HKN.out, rfl, HBZ.out⟩)
      · have HNum : Aside0 (onlyB num c0 = true) := ⟨by rw [only_num]; exact hd⟩
        have hle := lead_L c0
        have hbt : ∀ h : 0 < c0.size, ((c0[0]'h).toNat : Int) = bt c0 0 := bt_at c0 0
        cases h1 : decide (1 < (c0.size : Int))
        · have HO : Aside0 (goodN c0 = true) := ⟨by unfold goodN; rw [hd, hle, h1]; rfl⟩
          clear hd hle hbt
          go_wp2_with (go_at_call 19; (with_reducible refine (only18_any c0 num num_plain _).mono ?_); rintro e w2 ⟨rfl, hb⟩; rw [HNum.out]; have HF2 := Aside0.mk (HF.out.on hb); clear hb)
          go_roundg (gk - 1)
          case measure => have h := HI.out; omega
          case rel => exact ⟨3, by first | rfl | simp [wrap64], ⟨by have h := HI.out; omega⟩, ⟨⟨fun _ => HD.out.1 (by decide), fun _ => HD.out.2.1 (by decide), fun _ => HO.out⟩⟩, HF2⟩
        · have hsz : (0 < c0.size) = True := eq_true (by have := of_decide_eq_true h1; omega)
          cases h2 : (bt c0 0 == 48)
          · have HO : Aside0 (goodN c0 = true) := ⟨by unfold goodN; rw [hd, hle, h1, h2]; rfl⟩
            clear hd hle
            go_wp2_with (go_at_call 19; (with_reducible refine (only18_any c0 num num_plain _).mono ?_); rintro e w2 ⟨rfl, hb⟩; rw [HNum.out]; have HF2 := Aside0.mk (HF.out.on hb); clear hb)
            go_roundg (gk - 1)
            case measure => have h := HI.out; omega
            case rel => exact ⟨3, by first | rfl | simp [wrap64], ⟨by have h := HI.out; omega⟩, ⟨⟨fun _ => HD.out.1 (by decide), fun _ => HD.out.2.1 (by decide), fun _ => HO.out⟩⟩, HF2⟩
          · have HO : Aside0 (goodN c0 = false) := ⟨by unfold goodN; rw [hd, hle, h1, h2]; rfl⟩
            have HKN : Aside0 (kNum a b c0 = some 4) := ⟨by rw [kNum2 (HD.out.1 (by decide)) (HD.out.2.1 (by decide)) HO.out]; rw [hd]; rfl⟩
            clear hd hle
            go_upto_region 29 with (go_at_call 19; (with_reducible refine (only18_any c0 num num_plain _).mono ?_); rintro e w2 ⟨rfl, hb⟩; rw [HNum.out]; have HB2 := Aside0.mk (bl_on HF.out.hb hb); clear hb)
            have gg := globS_below HG.out HB2.out 4 (by decide)
            first | go_region_held3 (fun W => W.cell? ⟨4, 0, none⟩ = some (.iface 86 (.pointer (some (E 4)))) ∧ Hid (Below w.heap.size w W)) (first | assumption | exact ⟨cell_on (bl_drew (Below.refl _ _)) gg, Lib.hid (bl_drew (HB2.out))⟩ | fail) (first | fail) | fail
            rename_i hH
            have HBZ := Lib.hid hH.2.out
            clear hH gg
            go_wp2_with fail
            go_ret2
            exact Or.inr (Or.inl ⟨4, HKN.out, rfl, HBZ.out⟩)
    · skip
      obtain ⟨u0, u1, u2, u3, u4, k0, k1, k2, k3, k4⟩ := HF.out.cells
      have a0 := HF.out.a0
      have a1 := HF.out.a1
      have a2 := HF.out.a2
      have f2 := HF.out.f2
      have e1 : (g = V) = False := eq_false (by have := HF.out.ne; omega)
      have e2 : (V = g) = False := eq_false (by have := HF.out.ne; omega)
      have HGA := Aside0.mk (HD.out.1 (by decide))
      have HGB := Aside0.mk (HD.out.2.1 (by decide))
      have HGC := Aside0.mk (HD.out.2.2 (by decide))
      by_cases hpa : ∃ u, Lib.parseUintB 64 a.data.toList = .ok u
      · obtain ⟨ua, hua⟩ := hpa
        have HUA := Aside0.mk hua
        clear hua
        go_upto_region 35 with (go_at_call 20; (with_reducible refine (parse_ok a HSA.out.1 ua HUA.out _).mono ?_); rintro e w2 ⟨rfl, hb⟩; have HF0 := Aside0.mk (HF.out.on hb); obtain ⟨u0, u1, u2, u3, u4, k0, k1, k2, k3, k4⟩ := HF0.out.cells; clear hb)
        have HFn := Aside0.mk (HF0.out.pre 0 (.int .u64 ua) ua 0 0 ⟨#[]⟩ ⟨#[]⟩ (fun _ => rfl))
        clear u0 u1 u2 u3 u4 k0 k1 k2 k3 k4 a0 a1 a2 f2 e1 e2
        clear HF HF0
        generalize w2.setCell ⟨V, 0, none⟩ (.int .u64 ua) = wp at HFn ⊢
        have HF := HFn
        clear HFn
        obtain ⟨u0, u1, u2, u3, u4, k0, k1, k2, k3, k4⟩ := HF.out.cells
        have a0 := HF.out.a0
        have a1 := HF.out.a1
        have a2 := HF.out.a2
        have f2 := HF.out.f2
        have e1 : (g = V) = False := eq_false (by have := HF.out.ne; omega)
        have e2 : (V = g) = False := eq_false (by have := HF.out.ne; omega)
        by_cases hpb : ∃ u, Lib.parseUintB 64 b.data.toList = .ok u
        · obtain ⟨ub, hub⟩ := hpb
          have HUB := Aside0.mk hub
          clear hub
          go_upto_region 38 with (go_at_call 20; (with_reducible refine (parse_ok b HSA.out.2.1 ub HUB.out _).mono ?_); rintro e w3 ⟨rfl, hb⟩; have HF0 := Aside0.mk (HF.out.on hb); obtain ⟨u0, u1, u2, u3, u4, k0, k1, k2, k3, k4⟩ := HF0.out.cells; clear hb)
          have HFn := Aside0.mk (HF0.out.pre 1 (.int .u64 ub) ua ub 0 ⟨#[]⟩ ⟨#[]⟩ (fun _ => rfl))
          clear u0 u1 u2 u3 u4 k0 k1 k2 k3 k4 a0 a1 a2 f2 e1 e2
          clear HF HF0
          generalize w3.setCell ⟨V, 1, none⟩ (.int .u64 ub) = wq at HFn ⊢
          have HF := HFn
          clear HFn
          obtain ⟨u0, u1, u2, u3, u4, k0, k1, k2, k3, k4⟩ := HF.out.cells
          have a0 := HF.out.a0
          have a1 := HF.out.a1
          have a2 := HF.out.a2
          have f2 := HF.out.f2
          have e1 : (g = V) = False := eq_false (by have := HF.out.ne; omega)
          have e2 : (V = g) = False := eq_false (by have := HF.out.ne; omega)
          by_cases hpc : ∃ u, Lib.parseUintB 64 c0.data.toList = .ok u
          · obtain ⟨uc, huc⟩ := hpc
            have HUC := Aside0.mk huc
            clear huc
            go_upto_region 41 with (go_at_call 20; (with_reducible refine (parse_ok c0 HSA.out.2.2 uc HUC.out _).mono ?_); rintro e w4 ⟨rfl, hb⟩; have HF0 := Aside0.mk (HF.out.on hb); obtain ⟨u0, u1, u2, u3, u4, k0, k1, k2, k3, k4⟩ := HF0.out.cells; clear hb)
            have HFn := Aside0.mk (HF0.out.pre 2 (.int .u64 uc) ua ub uc ⟨#[]⟩ ⟨#[]⟩ (fun _ => rfl))
            clear u0 u1 u2 u3 u4 k0 k1 k2 k3 k4 a0 a1 a2 f2 e1 e2
            clear HF HF0
            generalize w4.setCell ⟨V, 2, none⟩ (.int .u64 uc) = wr2 at HFn ⊢
            go_wp2
            go_ret2
            exact Or.inl ⟨ua, ub, uc, g, V, numV_ok HGA.out HUA.out, numV_ok HGB.out HUB.out, numV_ok HGC.out HUC.out, rfl, HFn.out⟩
          · have HPC := Aside0.mk (fun u h => hpc ⟨u, h⟩)
            clear hpc
            go_wp2_with (go_at_call 20; (with_reducible refine (parse_err E c0 HSA.out.2.2 HPC.out _ (globE_below HE.out HF.out.hb)).mono ?_); rintro e w4 ⟨vv, NN, rfl, hN, hE, hb⟩; have HNE := Aside0.mk hE; have HNV := Aside0.mk (show NN ≠ V by have h1 := st_lt HF.out; omega); clear hN hE; have HF0 := Aside0.mk (HF.out.on hb); obtain ⟨u0, u1, u2, u3, u4, k0, k1, k2, k3, k4⟩ := HF0.out.cells; clear hb)
            go_ret2
            exact Or.inr (Or.inr ⟨kNum_none HGA.out HGB.out HGC.out, Or.inr (Or.inr (numV_err HPC.out)), NN, rfl, numErr_set HNE.out HNV.out, bl_set HF0.out.hb (Nat.le_trans HF0.out.lo (Nat.le_of_lt HF0.out.ne)) _⟩)
        · have HPB := Aside0.mk (fun u h => hpb ⟨u, h⟩)
          clear hpb
          go_wp2_with (go_at_call 20; (with_reducible refine (parse_err E b HSA.out.2.1 HPB.out _ (globE_below HE.out HF.out.hb)).mono ?_); rintro e w4 ⟨vv, NN, rfl, hN, hE, hb⟩; have HNE := Aside0.mk hE; have HNV := Aside0.mk (show NN ≠ V by have h1 := st_lt HF.out; omega); clear hN hE; have HF0 := Aside0.mk (HF.out.on hb); obtain ⟨u0, u1, u2, u3, u4, k0, k1, k2, k3, k4⟩ := HF0.out.cells; clear hb)
          go_ret2
          exact Or.inr (Or.inr ⟨kNum_none HGA.out HGB.out HGC.out, Or.inr (Or.inl (numV_err HPB.out)), NN, rfl, numErr_set HNE.out HNV.out, bl_set HF0.out.hb (Nat.le_trans HF0.out.lo (Nat.le_of_lt HF0.out.ne)) _⟩)
      · have HPA := Aside0.mk (fun u h => hpa ⟨u, h⟩)
        clear hpa
        go_wp2_with (go_at_call 20; (with_reducible refine (parse_err E a HSA.out.1 HPA.out _ (globE_below HE.out HF.out.hb)).mono ?_); rintro e w4 ⟨vv, NN, rfl, hN, hE, hb⟩; have HNE := Aside0.mk hE; have HNV := Aside0.mk (show NN ≠ V by have h1 := st_lt HF.out; omega); clear hN hE; have HF0 := Aside0.mk (HF.out.on hb); obtain ⟨u0, u1, u2, u3, u4, k0, k1, k2, k3, k4⟩ := HF0.out.cells; clear hb)
        go_ret2
        exact Or.inr (Or.inr ⟨kNum_none HGA.out HGB.out HGC.out, Or.inl (numV_err HPA.out), NN, rfl, numErr_set HNE.out HNV.out, bl_set HF0.out.hb (Nat.le_trans HF0.out.lo (Nat.le_of_lt HF0.out.ne)) _⟩)
set_option maxHeartbeats 16000000 in
set_option maxRecDepth 100000 in
theorem strict_t01 (E : Nat → Addr) (s : ByteArray) (a b c0 c2 pre : ByteArray) (ks kp1 km1 km2 km3 : Nat) (psm : List ByteArray) (hz : ((s.size : Int) == 0) = false) (hl : decide (256 < (s.size : Int)) = false) (Aspl : semver_zzSplitN.f ks s ⟨#[46]⟩ 3 = some [a, b, c0]) (Ap1 : semver_zzContains.f kp1 c0 ⟨#[43]⟩ = some false) (Am1 : semver_zzContains.f km1 c0 ⟨#[45]⟩ = some true) (Am2 : semver_zzSplitN.f km2 c0 ⟨#[45]⟩ 2 = some [c2, pre]) (Am3 : semver_zzSplit.f km3 pre ⟨#[46]⟩ = some psm) (Am4 : psm.length ≤ 2147483647) (Am5 : psm.all okP = true) (Asa : a.size ≤ 281474976710656 ∧ b.size ≤ 281474976710656 ∧ c2.size ≤ 281474976710656) (w : World) (hG : GlobS E w) (hE : GlobE E w) :
    Calls Tryd.prog 7 #[.string s] w (PostN E w a b c2 pre ⟨#[]⟩) := by
  have HG := Aside0.mk hG
  have HE := Aside0.mk hE
  clear hG hE
  have HSPL := Aside0.mk Aspl
  clear Aspl
  have HP1 := Aside0.mk Ap1
  clear Ap1
  have HM1 := Aside0.mk Am1
  clear Am1
  have HM2 := Aside0.mk Am2
  clear Am2
  have HM3 := Aside0.mk Am3
  clear Am3
  have HM4 := Aside0.mk Am4
  clear Am4
  have HM5 := Aside0.mk Am5
  clear Am5
  have HSA := Aside0.mk Asa
  clear Asa
  go_enter Tryd.func7, Tryd.ntmps7
  go_upto_region 9 with (go_at_call 15; (with_reducible refine (semver_zzSplitN.calls ks s ⟨#[46]⟩ 3 [a, b, c0] _ HSPL.out).mono ?_); rintro e w1 ⟨v, rfl, hR, hb⟩; obtain ⟨g, cap, e1, hg, hgl, -⟩ := Kd.R_form hR (by simp); subst e1; have HR := Aside0.mk hR; have HB := Aside0.mk hb; have HGL := Aside0.mk (And.intro hg hgl); clear hR hb hg hgl)
  have HF := Aside0.mk (st_start (s := s) HR.out HB.out HGL.out.1 HGL.out.2)
  clear HR HGL
  generalize w1.alloc (.cells #[.int .u64 0, .int .u64 0, .int .u64 0, .string ⟨#[]⟩, .string ⟨#[]⟩, .string s] 42) = W0 at HF ⊢
  generalize w1.heap.size = V at HF ⊢
  obtain ⟨u0, u1, u2, u3, u4, k0, k1, k2, k3, k4⟩ := HF.out.cells
  have a0 := HF.out.a0
  have a1 := HF.out.a1
  have a2 := HF.out.a2
  have f2 := HF.out.f2
  have e1 : (g = V) = False := eq_false (by have := HF.out.ne; omega)
  have e2 : (V = g) = False := eq_false (by have := HF.out.ne; omega)
  go_upto_region 16 with (go_at_call 16; (with_reducible refine (semver_zzContains.calls kp1 c0 ⟨#[43]⟩ false _ HP1.out).mono ?_); rintro e w2 ⟨rfl, hd⟩; have HF0 := Aside0.mk (HF.out.on (drawn_below hd)); clear hd)
  clear u0 u1 u2 u3 u4 k0 k1 k2 k3 k4 a0 a1 a2 f2 e1 e2
  clear HF
  have HF := HF0
  clear HF0
  obtain ⟨u0, u1, u2, u3, u4, k0, k1, k2, k3, k4⟩ := HF.out.cells
  have a0 := HF.out.a0
  have a1 := HF.out.a1
  have a2 := HF.out.a2
  have f2 := HF.out.f2
  have e1 : (g = V) = False := eq_false (by have := HF.out.ne; omega)
  have e2 : (V = g) = False := eq_false (by have := HF.out.ne; omega)
  go_upto_region 17 with (go_at_call 16; (with_reducible refine (semver_zzContains.calls km1 c0 ⟨#[45]⟩ true _ HM1.out).mono ?_); rintro e w2 ⟨rfl, hd⟩; have HF0 := Aside0.mk (HF.out.on (drawn_below hd)); clear hd)
  clear u0 u1 u2 u3 u4 k0 k1 k2 k3 k4 a0 a1 a2 f2 e1 e2
  clear HF
  have HF := HF0
  clear HF0
  obtain ⟨u0, u1, u2, u3, u4, k0, k1, k2, k3, k4⟩ := HF.out.cells
  have a0 := HF.out.a0
  have a1 := HF.out.a1
  have a2 := HF.out.a2
  have f2 := HF.out.f2
  have e1 : (g = V) = False := eq_false (by have := HF.out.ne; omega)
  have e2 : (V = g) = False := eq_false (by have := HF.out.ne; omega)
  go_upto_region 18 with (go_at_call 15; (with_reducible refine (semver_zzSplitN.calls km2 c0 ⟨#[45]⟩ 2 [c2, pre] _ HM2.out).mono ?_); rintro e wx ⟨v, rfl, hR, hb⟩; obtain ⟨gx, capm, ex, hg, hgl, -⟩ := Kd.R_form hR (by simp); subst ex; have x0 := (Kd.R_cell ByteArray.empty hR 0 (by decide) (by simp)).1; have x1 := (Kd.R_cell ByteArray.empty hR 1 (by decide) (by simp)).1; have HX := Aside0.mk (show g < gx ∧ V < gx from ⟨Nat.lt_of_lt_of_le (World.block_lt_of_cell? _ _ a0) hg, Nat.lt_of_lt_of_le (World.block_lt_of_cell? _ _ u0) hg⟩); have HF0 := Aside0.mk (HF.out.on hb); clear hR hb hg hgl)
  clear u0 u1 u2 u3 u4 k0 k1 k2 k3 k4 a0 a1 a2 f2 e1 e2
  clear HF
  have HF := HF0
  clear HF0
  obtain ⟨u0, u1, u2, u3, u4, k0, k1, k2, k3, k4⟩ := HF.out.cells
  have a0 := HF.out.a0
  have a1 := HF.out.a1
  have a2 := HF.out.a2
  have f2 := HF.out.f2
  have e1 : (g = V) = False := eq_false (by have := HF.out.ne; omega)
  have e2 : (V = g) = False := eq_false (by have := HF.out.ne; omega)
  have y0 : wx.cell? ⟨gx, 0, none⟩ = some (.string c2) := x0
  have y1 : wx.cell? ⟨gx, 1, none⟩ = some (.string pre) := x1
  clear x0 x1
  go_upto_region 19 with fail
  have HFn := Aside0.mk (HF.out.pre 3 (.string pre) 0 0 0 pre ⟨#[]⟩ (fun _ => rfl))
  have z0 := cell_far (u := .string pre) (p := ⟨V, 3, none⟩) (fun ee => by have h1 := HX.out.2; have h2 := congrArg Addr.block ee; simp at h2; omega) y0
  clear u0 u1 u2 u3 u4 k0 k1 k2 k3 k4 a0 a1 a2 f2 e1 e2
  clear HF y0 y1
  generalize wx.setCell ⟨V, 3, none⟩ (.string pre) = wy at HFn z0 ⊢
  have HF := HFn
  clear HFn
  obtain ⟨u0, u1, u2, u3, u4, k0, k1, k2, k3, k4⟩ := HF.out.cells
  have a0 := HF.out.a0
  have a1 := HF.out.a1
  have a2 := HF.out.a2
  have f2 := HF.out.f2
  have e1 : (g = V) = False := eq_false (by have := HF.out.ne; omega)
  have e2 : (V = g) = False := eq_false (by have := HF.out.ne; omega)
  go_upto_region 20 with fail
  have HFn := Aside0.mk (HF.out.part c2)
  clear u0 u1 u2 u3 u4 k0 k1 k2 k3 k4 a0 a1 a2 f2 e1 e2
  clear HF z0 HX
  generalize wy.setCell ⟨g, 2, none⟩ (.string c2) = wz at HFn ⊢
  have HF := HFn
  clear HFn
  obtain ⟨u0, u1, u2, u3, u4, k0, k1, k2, k3, k4⟩ := HF.out.cells
  have a0 := HF.out.a0
  have a1 := HF.out.a1
  have a2 := HF.out.a2
  have f2 := HF.out.f2
  have e1 : (g = V) = False := eq_false (by have := HF.out.ne; omega)
  have e2 : (V = g) = False := eq_false (by have := HF.out.ne; omega)
  go_upto_region 23 with (go_at_call 18; (with_reducible refine (pre17 pre km3 psm HM3.out HM4.out E _ (globS_below HG.out HF.out.hb)).mono ?_); rintro e wc ⟨hr, hb⟩; obtain rfl := res_ok HM5.out hr; have HF0 := Aside0.mk (HF.out.on hb); clear hr hb)
  clear u0 u1 u2 u3 u4 k0 k1 k2 k3 k4 a0 a1 a2 f2 e1 e2
  clear HF
  have HF := HF0
  clear HF0
  obtain ⟨u0, u1, u2, u3, u4, k0, k1, k2, k3, k4⟩ := HF.out.cells
  have a0 := HF.out.a0
  have a1 := HF.out.a1
  have a2 := HF.out.a2
  have f2 := HF.out.f2
  have e1 : (g = V) = False := eq_false (by have := HF.out.ne; omega)
  have e2 : (V = g) = False := eq_false (by have := HF.out.ne; omega)
  go_wp2
  clear u0 u1 u2 u3 u4 k0 k1 k2 k3 k4 a0 a1 a2 f2 e1 e2
  go_loopg [86] 4 (fun gq v86 w' => ∃ x : Int, v86 = .int .i64 x ∧ Aside0 (0 ≤ x ∧ x ≤ 3 ∧ gq + x.toNat = 4) ∧ Aside0 ((0 < x → goodN a = true) ∧ (1 < x → goodN b = true) ∧ (2 < x → goodN c2 = true)) ∧ Aside0 (ST w g V a b c2 0 0 0 pre ⟨#[]⟩ w'))
  case atStart => exact ⟨0, rfl, ⟨by omega, by omega, by omega⟩, ⟨⟨fun h => absurd h (by decide), fun h => absurd h (by decide), fun h => absurd h (by decide)⟩⟩, HF⟩
  case round =>
    clear HF
    obtain ⟨x, rfl, HI, HD, HF⟩ := hrel
    have hx : x = 0 ∨ x = 1 ∨ x = 2 ∨ x = 3 := by have h := HI.out; omega
    rcases hx with rfl | rfl | rfl | rfl
    · skip
      obtain ⟨u0, u1, u2, u3, u4, k0, k1, k2, k3, k4⟩ := HF.out.cells
      have a0 := HF.out.a0
      have a1 := HF.out.a1
      have a2 := HF.out.a2
      have f2 := HF.out.f2
      have e1 : (g = V) = False := eq_false (by have := HF.out.ne; omega)
      have e2 : (V = g) = False := eq_false (by have := HF.out.ne; omega)
      cases hd : (L a).all isD
      · have HNum : Aside0 (onlyB num a = false) := ⟨by rw [only_num]; exact hd⟩
        have HO : Aside0 (goodN a = false) := ⟨by unfold goodN; rw [hd]; rfl⟩
        have HKN : Aside0 (kNum a b c2 = some 3) := ⟨by rw [kNum0 HO.out]; rw [hd]; rfl⟩
        clear hd
        go_upto_region 27 with (go_at_call 19; (with_reducible refine (only18_any a num num_plain _).mono ?_); rintro e w2 ⟨rfl, hb⟩; rw [HNum.out]; have HB2 := Aside0.mk (bl_on HF.out.hb hb); clear hb)
        have gg := globS_below HG.out HB2.out 3 (by decide)
        first | go_region_held3 (fun W => W.cell? ⟨3, 0, none⟩ = some (.iface 86 (.pointer (some (E 3)))) ∧ Hid (Below w.heap.size w W)) (first | assumption | exact ⟨cell_on (bl_drew (Below.refl _ _)) gg, Lib.hid (bl_drew (HB2.out))⟩ | fail) (first | fail) | fail
        rename_i hH
        have HBZ := Lib.hid hH.2.out
        clear hH gg
        go_wp2_with fail
        go_ret2
        exact Or.inr (Or.inl ⟨3, HKN.out, rfl, HBZ.out⟩)
      · have HNum : Aside0 (onlyB num a = true) := ⟨by rw [only_num]; exact hd⟩
        have hle := lead_L a
        have hbt : ∀ h : 0 < a.size, ((a[0]'h).toNat : Int) = bt a 0 := bt_at a 0
        cases h1 : decide (1 < (a.size : Int))
        · have HO : Aside0 (goodN a = true) := ⟨by unfold goodN; rw [hd, hle, h1]; rfl⟩
          clear hd hle hbt
          go_wp2_with (go_at_call 19; (with_reducible refine (only18_any a num num_plain _).mono ?_); rintro e w2 ⟨rfl, hb⟩; rw [HNum.out]; have HF2 := Aside0.mk (HF.out.on hb); clear hb)
          go_roundg (gk - 1)
          case measure => have h := HI.out; omega
          case rel => exact ⟨1, by first | rfl | simp [wrap64], ⟨by have h := HI.out; omega⟩, ⟨⟨fun _ => HO.out, fun h => absurd h (by decide), fun h => absurd h (by decide)⟩⟩, HF2⟩
        · have hsz : (0 < a.size) = True := eq_true (by have := of_decide_eq_true h1; omega)
          cases h2 : (bt a 0 == 48)
          · have HO : Aside0 (goodN a = true) := ⟨by unfold goodN; rw [hd, hle, h1, h2]; rfl⟩
            clear hd hle
            go_wp2_with (go_at_call 19; (with_reducible refine (only18_any a num num_plain _).mono ?_); rintro e w2 ⟨rfl, hb⟩; rw [HNum.out]; have HF2 := Aside0.mk (HF.out.on hb); clear hb)
            go_roundg (gk - 1)
            case measure => have h := HI.out; omega
            case rel => exact ⟨1, by first | rfl | simp [wrap64], ⟨by have h := HI.out; omega⟩, ⟨⟨fun _ => HO.out, fun h => absurd h (by decide), fun h => absurd h (by decide)⟩⟩, HF2⟩
          · have HO : Aside0 (goodN a = false) := ⟨by unfold goodN; rw [hd, hle, h1, h2]; rfl⟩
            have HKN : Aside0 (kNum a b c2 = some 4) := ⟨by rw [kNum0 HO.out]; rw [hd]; rfl⟩
            clear hd hle
            go_upto_region 29 with (go_at_call 19; (with_reducible refine (only18_any a num num_plain _).mono ?_); rintro e w2 ⟨rfl, hb⟩; rw [HNum.out]; have HB2 := Aside0.mk (bl_on HF.out.hb hb); clear hb)
            have gg := globS_below HG.out HB2.out 4 (by decide)
            first | go_region_held3 (fun W => W.cell? ⟨4, 0, none⟩ = some (.iface 86 (.pointer (some (E 4)))) ∧ Hid (Below w.heap.size w W)) (first | assumption | exact ⟨cell_on (bl_drew (Below.refl _ _)) gg, Lib.hid (bl_drew (HB2.out))⟩ | fail) (first | fail) | fail
            rename_i hH
            have HBZ := Lib.hid hH.2.out
            clear hH gg
            go_wp2_with fail
            go_ret2
            exact Or.inr (Or.inl ⟨4, HKN.out, rfl, HBZ.out⟩)
    · skip
      obtain ⟨u0, u1, u2, u3, u4, k0, k1, k2, k3, k4⟩ := HF.out.cells
      have a0 := HF.out.a0
      have a1 := HF.out.a1
      have a2 := HF.out.a2
      have f2 := HF.out.f2
      have e1 : (g = V) = False := eq_false (by have := HF.out.ne; omega)
      have e2 : (V = g) = False := eq_false (by have := HF.out.ne; omega)
      cases hd : (L b).all isD
      · have HNum : Aside0 (onlyB num b = false) := ⟨by rw [only_num]; exact hd⟩
        have HO : Aside0 (goodN b = false) := ⟨by unfold goodN; rw [hd]; rfl⟩
        have HKN : Aside0 (kNum a b c2 = some 3) := ⟨by rw [kNum1 (HD.out.1 (by decide)) HO.out]; rw [hd]; rfl⟩
        clear hd
        go_upto_region 27 with (go_at_call 19; (with_reducible refine (only18_any b num num_plain _).mono ?_); rintro e w2 ⟨rfl, hb⟩; rw [HNum.out]; have HB2 := Aside0.mk (bl_on HF.out.hb hb); clear hb)
        have gg := globS_below HG.out HB2.out 3 (by decide)
        first | go_region_held3 (fun W => W.cell? ⟨3, 0, none⟩ = some (.iface 86 (.pointer (some (E 3)))) ∧ Hid (Below w.heap.size w W)) (first | assumption | exact ⟨cell_on (bl_drew (Below.refl _ _)) gg, Lib.hid (bl_drew (HB2.out))⟩ | fail) (first | fail) | fail
        rename_i hH
        have HBZ := Lib.hid hH.2.out
        clear hH gg
        go_wp2_with fail
        go_ret2
        exact Or.inr (Or.inl ⟨3, HKN.out, rfl, HBZ.out⟩)
      · have HNum : Aside0 (onlyB num b = true) := ⟨by rw [only_num]; exact hd⟩
        have hle := lead_L b
        have hbt : ∀ h : 0 < b.size, ((b[0]'h).toNat : Int) = bt b 0 := bt_at b 0
        cases h1 : decide (1 < (b.size : Int))
        · have HO : Aside0 (goodN b = true) := ⟨by unfold goodN; rw [hd, hle, h1]; rfl⟩
          clear hd hle hbt
          go_wp2_with (go_at_call 19; (with_reducible refine (only18_any b num num_plain _).mono ?_); rintro e w2 ⟨rfl, hb⟩; rw [HNum.out]; have HF2 := Aside0.mk (HF.out.on hb); clear hb)
          go_roundg (gk - 1)
          case measure => have h := HI.out; omega
          case rel => exact ⟨2, by first | rfl | simp [wrap64], ⟨by have h := HI.out; omega⟩, ⟨⟨fun _ => HD.out.1 (by decide), fun _ => HO.out, fun h => absurd h (by decide)⟩⟩, HF2⟩
        · have hsz : (0 < b.size) = True := eq_true (by have := of_decide_eq_true h1; omega)
          cases h2 : (bt b 0 == 48)
          · have HO : Aside0 (goodN b = true) := ⟨by unfold goodN; rw [hd, hle, h1, h2]; rfl⟩
            clear hd hle
            go_wp2_with (go_at_call 19; (with_reducible refine (only18_any b num num_plain _).mono ?_); rintro e w2 ⟨rfl, hb⟩; rw [HNum.out]; have HF2 := Aside0.mk (HF.out.on hb); clear hb)
            go_roundg (gk - 1)
            case measure => have h := HI.out; omega
            case rel => exact ⟨2, by first | rfl | simp [wrap64], ⟨by have h := HI.out; omega⟩, ⟨⟨fun _ => HD.out.1 (by decide), fun _ => HO.out, fun h => absurd h (by decide)⟩⟩, HF2⟩
          · have HO : Aside0 (goodN b = false) := ⟨by unfold goodN; rw [hd, hle, h1, h2]; rfl⟩
            have HKN : Aside0 (kNum a b c2 = some 4) := ⟨by rw [kNum1 (HD.out.1 (by decide)) HO.out]; rw [hd]; rfl⟩
            clear hd hle
            go_upto_region 29 with (go_at_call 19; (with_reducible refine (only18_any b num num_plain _).mono ?_); rintro e w2 ⟨rfl, hb⟩; rw [HNum.out]; have HB2 := Aside0.mk (bl_on HF.out.hb hb); clear hb)
            have gg := globS_below HG.out HB2.out 4 (by decide)
            first | go_region_held3 (fun W => W.cell? ⟨4, 0, none⟩ = some (.iface 86 (.pointer (some (E 4)))) ∧ Hid (Below w.heap.size w W)) (first | assumption | exact ⟨cell_on (bl_drew (Below.refl _ _)) gg, Lib.hid (bl_drew (HB2.out))⟩ | fail) (first | fail) | fail
            rename_i hH
            have HBZ := Lib.hid hH.2.out
            clear hH gg
            go_wp2_with fail
            go_ret2
            exact Or.inr (Or.inl ⟨4, HKN.out, rfl, HBZ.out⟩)
    · skip
      obtain ⟨u0, u1, u2, u3, u4, k0, k1, k2, k3, k4⟩ := HF.out.cells
      have a0 := HF.out.a0
      have a1 := HF.out.a1
      have a2 := HF.out.a2
      have f2 := HF.out.f2
      have e1 : (g = V) = False := eq_false (by have := HF.out.ne; omega)
      have e2 : (V = g) = False := eq_false (by have := HF.out.ne; omega)
      cases hd : (L c2).all isD
      · have HNum : Aside0 (onlyB num c2 = false) := ⟨by rw [only_num]; exact hd⟩
        have HO : Aside0 (goodN c2 = false) := ⟨by unfold goodN; rw [hd]; rfl⟩
        have HKN : Aside0 (kNum a b c2 = some 3) := ⟨by rw [kNum2 (HD.out.1 (by decide)) (HD.out.2.1 (by decide)) HO.out]; rw [hd]; rfl⟩
        clear hd
        go_upto_region 27 with (go_at_call 19; (with_reducible refine (only18_any c2 num num_plain _).mono ?_); rintro e w2 ⟨rfl, hb⟩; rw [HNum.out]; have HB2 := Aside0.mk (bl_on HF.out.hb hb); clear hb)
        have gg := globS_below HG.out HB2.out 3 (by decide)
        first | go_region_held3 (fun W => W.cell? ⟨3, 0, none⟩ = some (.iface 86 (.pointer (some (E 3)))) ∧ Hid (Below w.heap.size w W)) (first | assumption | exact ⟨cell_on (bl_drew (Below.refl _ _)) gg, Lib.hid (bl_drew (HB2.out))⟩ | fail) (first | fail) | fail
        rename_i hH
        have HBZ := Lib.hid hH.2.out
        clear hH gg
        go_wp2_with fail
        go_ret2
        exact Or.inr (Or.inl ⟨3, HKN.out, rfl, HBZ.out⟩)
      · have HNum : Aside0 (onlyB num c2 = true) := ⟨by rw [only_num]; exact hd⟩
        have hle := lead_L c2
        have hbt : ∀ h : 0 < c2.size, ((c2[0]'h).toNat : Int) = bt c2 0 := bt_at c2 0
        cases h1 : decide (1 < (c2.size : Int))
        · have HO : Aside0 (goodN c2 = true) := ⟨by unfold goodN; rw [hd, hle, h1]; rfl⟩
          clear hd hle hbt
          go_wp2_with (go_at_call 19; (with_reducible refine (only18_any c2 num num_plain _).mono ?_); rintro e w2 ⟨rfl, hb⟩; rw [HNum.out]; have HF2 := Aside0.mk (HF.out.on hb); clear hb)
          go_roundg (gk - 1)
          case measure => have h := HI.out; omega
          case rel => exact ⟨3, by first | rfl | simp [wrap64], ⟨by have h := HI.out; omega⟩, ⟨⟨fun _ => HD.out.1 (by decide), fun _ => HD.out.2.1 (by decide), fun _ => HO.out⟩⟩, HF2⟩
        · have hsz : (0 < c2.size) = True := eq_true (by have := of_decide_eq_true h1; omega)
          cases h2 : (bt c2 0 == 48)
          · have HO : Aside0 (goodN c2 = true) := ⟨by unfold goodN; rw [hd, hle, h1, h2]; rfl⟩
            clear hd hle
            go_wp2_with (go_at_call 19; (with_reducible refine (only18_any c2 num num_plain _).mono ?_); rintro e w2 ⟨rfl, hb⟩; rw [HNum.out]; have HF2 := Aside0.mk (HF.out.on hb); clear hb)
            go_roundg (gk - 1)
            case measure => have h := HI.out; omega
            case rel => exact ⟨3, by first | rfl | simp [wrap64], ⟨by have h := HI.out; omega⟩, ⟨⟨fun _ => HD.out.1 (by decide), fun _ => HD.out.2.1 (by decide), fun _ => HO.out⟩⟩, HF2⟩
          · have HO : Aside0 (goodN c2 = false) := ⟨by unfold goodN; rw [hd, hle, h1, h2]; rfl⟩
            have HKN : Aside0 (kNum a b c2 = some 4) := ⟨by rw [kNum2 (HD.out.1 (by decide)) (HD.out.2.1 (by decide)) HO.out]; rw [hd]; rfl⟩
            clear hd hle
            go_upto_region 29 with (go_at_call 19; (with_reducible refine (only18_any c2 num num_plain _).mono ?_); rintro e w2 ⟨rfl, hb⟩; rw [HNum.out]; have HB2 := Aside0.mk (bl_on HF.out.hb hb); clear hb)
            have gg := globS_below HG.out HB2.out 4 (by decide)
            first | go_region_held3 (fun W => W.cell? ⟨4, 0, none⟩ = some (.iface 86 (.pointer (some (E 4)))) ∧ Hid (Below w.heap.size w W)) (first | assumption | exact ⟨cell_on (bl_drew (Below.refl _ _)) gg, Lib.hid (bl_drew (HB2.out))⟩ | fail) (first | fail) | fail
            rename_i hH
            have HBZ := Lib.hid hH.2.out
            clear hH gg
            go_wp2_with fail
            go_ret2
            exact Or.inr (Or.inl ⟨4, HKN.out, rfl, HBZ.out⟩)
    · skip
      obtain ⟨u0, u1, u2, u3, u4, k0, k1, k2, k3, k4⟩ := HF.out.cells
      have a0 := HF.out.a0
      have a1 := HF.out.a1
      have a2 := HF.out.a2
      have f2 := HF.out.f2
      have e1 : (g = V) = False := eq_false (by have := HF.out.ne; omega)
      have e2 : (V = g) = False := eq_false (by have := HF.out.ne; omega)
      have HGA := Aside0.mk (HD.out.1 (by decide))
      have HGB := Aside0.mk (HD.out.2.1 (by decide))
      have HGC := Aside0.mk (HD.out.2.2 (by decide))
      by_cases hpa : ∃ u, Lib.parseUintB 64 a.data.toList = .ok u
      · obtain ⟨ua, hua⟩ := hpa
        have HUA := Aside0.mk hua
        clear hua
        go_upto_region 35 with (go_at_call 20; (with_reducible refine (parse_ok a HSA.out.1 ua HUA.out _).mono ?_); rintro e w2 ⟨rfl, hb⟩; have HF0 := Aside0.mk (HF.out.on hb); obtain ⟨u0, u1, u2, u3, u4, k0, k1, k2, k3, k4⟩ := HF0.out.cells; clear hb)
        have HFn := Aside0.mk (HF0.out.pre 0 (.int .u64 ua) ua 0 0 pre ⟨#[]⟩ (fun _ => rfl))
        clear u0 u1 u2 u3 u4 k0 k1 k2 k3 k4 a0 a1 a2 f2 e1 e2
        clear HF HF0
        generalize w2.setCell ⟨V, 0, none⟩ (.int .u64 ua) = wp at HFn ⊢
        have HF := HFn
        clear HFn
        obtain ⟨u0, u1, u2, u3, u4, k0, k1, k2, k3, k4⟩ := HF.out.cells
        have a0 := HF.out.a0
        have a1 := HF.out.a1
        have a2 := HF.out.a2
        have f2 := HF.out.f2
        have e1 : (g = V) = False := eq_false (by have := HF.out.ne; omega)
        have e2 : (V = g) = False := eq_false (by have := HF.out.ne; omega)
        by_cases hpb : ∃ u, Lib.parseUintB 64 b.data.toList = .ok u
        · obtain ⟨ub, hub⟩ := hpb
          have HUB := Aside0.mk hub
          clear hub
          go_upto_region 38 with (go_at_call 20; (with_reducible refine (parse_ok b HSA.out.2.1 ub HUB.out _).mono ?_); rintro e w3 ⟨rfl, hb⟩; have HF0 := Aside0.mk (HF.out.on hb); obtain ⟨u0, u1, u2, u3, u4, k0, k1, k2, k3, k4⟩ := HF0.out.cells; clear hb)
          have HFn := Aside0.mk (HF0.out.pre 1 (.int .u64 ub) ua ub 0 pre ⟨#[]⟩ (fun _ => rfl))
          clear u0 u1 u2 u3 u4 k0 k1 k2 k3 k4 a0 a1 a2 f2 e1 e2
          clear HF HF0
          generalize w3.setCell ⟨V, 1, none⟩ (.int .u64 ub) = wq at HFn ⊢
          have HF := HFn
          clear HFn
          obtain ⟨u0, u1, u2, u3, u4, k0, k1, k2, k3, k4⟩ := HF.out.cells
          have a0 := HF.out.a0
          have a1 := HF.out.a1
          have a2 := HF.out.a2
          have f2 := HF.out.f2
          have e1 : (g = V) = False := eq_false (by have := HF.out.ne; omega)
          have e2 : (V = g) = False := eq_false (by have := HF.out.ne; omega)
          by_cases hpc : ∃ u, Lib.parseUintB 64 c2.data.toList = .ok u
          · obtain ⟨uc, huc⟩ := hpc
            have HUC := Aside0.mk huc
            clear huc
            go_upto_region 41 with (go_at_call 20; (with_reducible refine (parse_ok c2 HSA.out.2.2 uc HUC.out _).mono ?_); rintro e w4 ⟨rfl, hb⟩; have HF0 := Aside0.mk (HF.out.on hb); obtain ⟨u0, u1, u2, u3, u4, k0, k1, k2, k3, k4⟩ := HF0.out.cells; clear hb)
            have HFn := Aside0.mk (HF0.out.pre 2 (.int .u64 uc) ua ub uc pre ⟨#[]⟩ (fun _ => rfl))
            clear u0 u1 u2 u3 u4 k0 k1 k2 k3 k4 a0 a1 a2 f2 e1 e2
            clear HF HF0
            generalize w4.setCell ⟨V, 2, none⟩ (.int .u64 uc) = wr2 at HFn ⊢
            go_wp2
            go_ret2
            exact Or.inl ⟨ua, ub, uc, g, V, numV_ok HGA.out HUA.out, numV_ok HGB.out HUB.out, numV_ok HGC.out HUC.out, rfl, HFn.out⟩
          · have HPC := Aside0.mk (fun u h => hpc ⟨u, h⟩)
            clear hpc
            go_wp2_with (go_at_call 20; (with_reducible refine (parse_err E c2 HSA.out.2.2 HPC.out _ (globE_below HE.out HF.out.hb)).mono ?_); rintro e w4 ⟨vv, NN, rfl, hN, hE, hb⟩; have HNE := Aside0.mk hE; have HNV := Aside0.mk (show NN ≠ V by have h1 := st_lt HF.out; omega); clear hN hE; have HF0 := Aside0.mk (HF.out.on hb); obtain ⟨u0, u1, u2, u3, u4, k0, k1, k2, k3, k4⟩ := HF0.out.cells; clear hb)
            go_ret2
            exact Or.inr (Or.inr ⟨kNum_none HGA.out HGB.out HGC.out, Or.inr (Or.inr (numV_err HPC.out)), NN, rfl, numErr_set HNE.out HNV.out, bl_set HF0.out.hb (Nat.le_trans HF0.out.lo (Nat.le_of_lt HF0.out.ne)) _⟩)
        · have HPB := Aside0.mk (fun u h => hpb ⟨u, h⟩)
          clear hpb
          go_wp2_with (go_at_call 20; (with_reducible refine (parse_err E b HSA.out.2.1 HPB.out _ (globE_below HE.out HF.out.hb)).mono ?_); rintro e w4 ⟨vv, NN, rfl, hN, hE, hb⟩; have HNE := Aside0.mk hE; have HNV := Aside0.mk (show NN ≠ V by have h1 := st_lt HF.out; omega); clear hN hE; have HF0 := Aside0.mk (HF.out.on hb); obtain ⟨u0, u1, u2, u3, u4, k0, k1, k2, k3, k4⟩ := HF0.out.cells; clear hb)
          go_ret2
          exact Or.inr (Or.inr ⟨kNum_none HGA.out HGB.out HGC.out, Or.inr (Or.inl (numV_err HPB.out)), NN, rfl, numErr_set HNE.out HNV.out, bl_set HF0.out.hb (Nat.le_trans HF0.out.lo (Nat.le_of_lt HF0.out.ne)) _⟩)
      · have HPA := Aside0.mk (fun u h => hpa ⟨u, h⟩)
        clear hpa
        go_wp2_with (go_at_call 20; (with_reducible refine (parse_err E a HSA.out.1 HPA.out _ (globE_below HE.out HF.out.hb)).mono ?_); rintro e w4 ⟨vv, NN, rfl, hN, hE, hb⟩; have HNE := Aside0.mk hE; have HNV := Aside0.mk (show NN ≠ V by have h1 := st_lt HF.out; omega); clear hN hE; have HF0 := Aside0.mk (HF.out.on hb); obtain ⟨u0, u1, u2, u3, u4, k0, k1, k2, k3, k4⟩ := HF0.out.cells; clear hb)
        go_ret2
        exact Or.inr (Or.inr ⟨kNum_none HGA.out HGB.out HGC.out, Or.inl (numV_err HPA.out), NN, rfl, numErr_set HNE.out HNV.out, bl_set HF0.out.hb (Nat.le_trans HF0.out.lo (Nat.le_of_lt HF0.out.ne)) _⟩)
set_option maxHeartbeats 16000000 in
set_option maxRecDepth 100000 in
theorem strict_t10 (E : Nat → Addr) (s : ByteArray) (a b c0 c1 mt : ByteArray) (ks kp1 kp2 kp3 km1 : Nat) (psp : List ByteArray) (hz : ((s.size : Int) == 0) = false) (hl : decide (256 < (s.size : Int)) = false) (Aspl : semver_zzSplitN.f ks s ⟨#[46]⟩ 3 = some [a, b, c0]) (Ap1 : semver_zzContains.f kp1 c0 ⟨#[43]⟩ = some true) (Ap2 : semver_zzSplitN.f kp2 c0 ⟨#[43]⟩ 2 = some [c1, mt]) (Ap3 : semver_zzSplit.f kp3 mt ⟨#[46]⟩ = some psp) (Ap4 : psp.length ≤ 2147483647) (Ap5 : psp.all okM = true) (Am1 : semver_zzContains.f km1 c1 ⟨#[45]⟩ = some false) (Asa : a.size ≤ 281474976710656 ∧ b.size ≤ 281474976710656 ∧ c1.size ≤ 281474976710656) (w : World) (hG : GlobS E w) (hE : GlobE E w) :
    Calls Tryd.prog 7 #[.string s] w (PostN E w a b c1 ⟨#[]⟩ mt) := by
  have HG := Aside0.mk hG
  have HE := Aside0.mk hE
  clear hG hE
  have HSPL := Aside0.mk Aspl
  clear Aspl
  have HP1 := Aside0.mk Ap1
  clear Ap1
  have HP2 := Aside0.mk Ap2
  clear Ap2
  have HP3 := Aside0.mk Ap3
  clear Ap3
  have HP4 := Aside0.mk Ap4
  clear Ap4
  have HP5 := Aside0.mk Ap5
  clear Ap5
  have HM1 := Aside0.mk Am1
  clear Am1
  have HSA := Aside0.mk Asa
  clear Asa
  go_enter Tryd.func7, Tryd.ntmps7
  go_upto_region 9 with (go_at_call 15; (with_reducible refine (semver_zzSplitN.calls ks s ⟨#[46]⟩ 3 [a, b, c0] _ HSPL.out).mono ?_); rintro e w1 ⟨v, rfl, hR, hb⟩; obtain ⟨g, cap, e1, hg, hgl, -⟩ := Kd.R_form hR (by simp); subst e1; have HR := Aside0.mk hR; have HB := Aside0.mk hb; have HGL := Aside0.mk (And.intro hg hgl); clear hR hb hg hgl)
  have HF := Aside0.mk (st_start (s := s) HR.out HB.out HGL.out.1 HGL.out.2)
  clear HR HGL
  generalize w1.alloc (.cells #[.int .u64 0, .int .u64 0, .int .u64 0, .string ⟨#[]⟩, .string ⟨#[]⟩, .string s] 42) = W0 at HF ⊢
  generalize w1.heap.size = V at HF ⊢
  obtain ⟨u0, u1, u2, u3, u4, k0, k1, k2, k3, k4⟩ := HF.out.cells
  have a0 := HF.out.a0
  have a1 := HF.out.a1
  have a2 := HF.out.a2
  have f2 := HF.out.f2
  have e1 : (g = V) = False := eq_false (by have := HF.out.ne; omega)
  have e2 : (V = g) = False := eq_false (by have := HF.out.ne; omega)
  go_upto_region 10 with (go_at_call 16; (with_reducible refine (semver_zzContains.calls kp1 c0 ⟨#[43]⟩ true _ HP1.out).mono ?_); rintro e w2 ⟨rfl, hd⟩; have HF0 := Aside0.mk (HF.out.on (drawn_below hd)); clear hd)
  clear u0 u1 u2 u3 u4 k0 k1 k2 k3 k4 a0 a1 a2 f2 e1 e2
  clear HF
  have HF := HF0
  clear HF0
  obtain ⟨u0, u1, u2, u3, u4, k0, k1, k2, k3, k4⟩ := HF.out.cells
  have a0 := HF.out.a0
  have a1 := HF.out.a1
  have a2 := HF.out.a2
  have f2 := HF.out.f2
  have e1 : (g = V) = False := eq_false (by have := HF.out.ne; omega)
  have e2 : (V = g) = False := eq_false (by have := HF.out.ne; omega)
  go_upto_region 11 with (go_at_call 15; (with_reducible refine (semver_zzSplitN.calls kp2 c0 ⟨#[43]⟩ 2 [c1, mt] _ HP2.out).mono ?_); rintro e wx ⟨v, rfl, hR, hb⟩; obtain ⟨gx, capp, ex, hg, hgl, -⟩ := Kd.R_form hR (by simp); subst ex; have x0 := (Kd.R_cell ByteArray.empty hR 0 (by decide) (by simp)).1; have x1 := (Kd.R_cell ByteArray.empty hR 1 (by decide) (by simp)).1; have HX := Aside0.mk (show g < gx ∧ V < gx from ⟨Nat.lt_of_lt_of_le (World.block_lt_of_cell? _ _ a0) hg, Nat.lt_of_lt_of_le (World.block_lt_of_cell? _ _ u0) hg⟩); have HF0 := Aside0.mk (HF.out.on hb); clear hR hb hg hgl)
  clear u0 u1 u2 u3 u4 k0 k1 k2 k3 k4 a0 a1 a2 f2 e1 e2
  clear HF
  have HF := HF0
  clear HF0
  obtain ⟨u0, u1, u2, u3, u4, k0, k1, k2, k3, k4⟩ := HF.out.cells
  have a0 := HF.out.a0
  have a1 := HF.out.a1
  have a2 := HF.out.a2
  have f2 := HF.out.f2
  have e1 : (g = V) = False := eq_false (by have := HF.out.ne; omega)
  have e2 : (V = g) = False := eq_false (by have := HF.out.ne; omega)
  have y0 : wx.cell? ⟨gx, 0, none⟩ = some (.string c1) := x0
  have y1 : wx.cell? ⟨gx, 1, none⟩ = some (.string mt) := x1
  clear x0 x1
  go_upto_region 12 with fail
  have HFn := Aside0.mk (HF.out.pre 4 (.string mt) 0 0 0 ⟨#[]⟩ mt (fun _ => rfl))
  have z0 := cell_far (u := .string mt) (p := ⟨V, 4, none⟩) (fun ee => by have h1 := HX.out.2; have h2 := congrArg Addr.block ee; simp at h2; omega) y0
  clear u0 u1 u2 u3 u4 k0 k1 k2 k3 k4 a0 a1 a2 f2 e1 e2
  clear HF y0 y1
  generalize wx.setCell ⟨V, 4, none⟩ (.string mt) = wy at HFn z0 ⊢
  have HF := HFn
  clear HFn
  obtain ⟨u0, u1, u2, u3, u4, k0, k1, k2, k3, k4⟩ := HF.out.cells
  have a0 := HF.out.a0
  have a1 := HF.out.a1
  have a2 := HF.out.a2
  have f2 := HF.out.f2
  have e1 : (g = V) = False := eq_false (by have := HF.out.ne; omega)
  have e2 : (V = g) = False := eq_false (by have := HF.out.ne; omega)
  go_upto_region 13 with fail
  have HFn := Aside0.mk (HF.out.part c1)
  clear u0 u1 u2 u3 u4 k0 k1 k2 k3 k4 a0 a1 a2 f2 e1 e2
  clear HF z0 HX
  generalize wy.setCell ⟨g, 2, none⟩ (.string c1) = wz at HFn ⊢
  have HF := HFn
  clear HFn
  obtain ⟨u0, u1, u2, u3, u4, k0, k1, k2, k3, k4⟩ := HF.out.cells
  have a0 := HF.out.a0
  have a1 := HF.out.a1
  have a2 := HF.out.a2
  have f2 := HF.out.f2
  have e1 : (g = V) = False := eq_false (by have := HF.out.ne; omega)
  have e2 : (V = g) = False := eq_false (by have := HF.out.ne; omega)
  go_upto_region 16 with (go_at_call 17; (with_reducible refine (meta16 mt kp3 psp HP3.out HP4.out E _ (globS_below HG.out HF.out.hb)).mono ?_); rintro e wc ⟨hr, hb⟩; obtain rfl := res_ok HP5.out hr; have HF0 := Aside0.mk (HF.out.on hb); clear hr hb)
  clear u0 u1 u2 u3 u4 k0 k1 k2 k3 k4 a0 a1 a2 f2 e1 e2
  clear HF
  have HF := HF0
  clear HF0
  obtain ⟨u0, u1, u2, u3, u4, k0, k1, k2, k3, k4⟩ := HF.out.cells
  have a0 := HF.out.a0
  have a1 := HF.out.a1
  have a2 := HF.out.a2
  have f2 := HF.out.f2
  have e1 : (g = V) = False := eq_false (by have := HF.out.ne; omega)
  have e2 : (V = g) = False := eq_false (by have := HF.out.ne; omega)
  go_upto_region 23 with (go_at_call 16; (with_reducible refine (semver_zzContains.calls km1 c1 ⟨#[45]⟩ false _ HM1.out).mono ?_); rintro e w2 ⟨rfl, hd⟩; have HF0 := Aside0.mk (HF.out.on (drawn_below hd)); clear hd)
  clear u0 u1 u2 u3 u4 k0 k1 k2 k3 k4 a0 a1 a2 f2 e1 e2
  clear HF
  have HF := HF0
  clear HF0
  obtain ⟨u0, u1, u2, u3, u4, k0, k1, k2, k3, k4⟩ := HF.out.cells
  have a0 := HF.out.a0
  have a1 := HF.out.a1
  have a2 := HF.out.a2
  have f2 := HF.out.f2
  have e1 : (g = V) = False := eq_false (by have := HF.out.ne; omega)
  have e2 : (V = g) = False := eq_false (by have := HF.out.ne; omega)
  go_wp2
  clear u0 u1 u2 u3 u4 k0 k1 k2 k3 k4 a0 a1 a2 f2 e1 e2
  go_loopg [86] 4 (fun gq v86 w' => ∃ x : Int, v86 = .int .i64 x ∧ Aside0 (0 ≤ x ∧ x ≤ 3 ∧ gq + x.toNat = 4) ∧ Aside0 ((0 < x → goodN a = true) ∧ (1 < x → goodN b = true) ∧ (2 < x → goodN c1 = true)) ∧ Aside0 (ST w g V a b c1 0 0 0 ⟨#[]⟩ mt w'))
  case atStart => exact ⟨0, rfl, ⟨by omega, by omega, by omega⟩, ⟨⟨fun h => absurd h (by decide), fun h => absurd h (by decide), fun h => absurd h (by decide)⟩⟩, HF⟩
  case round =>
    clear HF
    obtain ⟨x, rfl, HI, HD, HF⟩ := hrel
    have hx : x = 0 ∨ x = 1 ∨ x = 2 ∨ x = 3 := by have h := HI.out; omega
    rcases hx with rfl | rfl | rfl | rfl
    · skip
      obtain ⟨u0, u1, u2, u3, u4, k0, k1, k2, k3, k4⟩ := HF.out.cells
      have a0 := HF.out.a0
      have a1 := HF.out.a1
      have a2 := HF.out.a2
      have f2 := HF.out.f2
      have e1 : (g = V) = False := eq_false (by have := HF.out.ne; omega)
      have e2 : (V = g) = False := eq_false (by have := HF.out.ne; omega)
      cases hd : (L a).all isD
      · have HNum : Aside0 (onlyB num a = false) := ⟨by rw [only_num]; exact hd⟩
        have HO : Aside0 (goodN a = false) := ⟨by unfold goodN; rw [hd]; rfl⟩
        have HKN : Aside0 (kNum a b c1 = some 3) := ⟨by rw [kNum0 HO.out]; rw [hd]; rfl⟩
        clear hd
        go_upto_region 27 with (go_at_call 19; (with_reducible refine (only18_any a num num_plain _).mono ?_); rintro e w2 ⟨rfl, hb⟩; rw [HNum.out]; have HB2 := Aside0.mk (bl_on HF.out.hb hb); clear hb)
        have gg := globS_below HG.out HB2.out 3 (by decide)
        first | go_region_held3 (fun W => W.cell? ⟨3, 0, none⟩ = some (.iface 86 (.pointer (some (E 3)))) ∧ Hid (Below w.heap.size w W)) (first | assumption | exact ⟨cell_on (bl_drew (Below.refl _ _)) gg, Lib.hid (bl_drew (HB2.out))⟩ | fail) (first | fail) | fail
        rename_i hH
        have HBZ := Lib.hid hH.2.out
        clear hH gg
        go_wp2_with fail
        go_ret2
        exact Or.inr (Or.inl ⟨3, HKN.out, rfl, HBZ.out⟩)
      · have HNum : Aside0 (onlyB num a = true) := ⟨by rw [only_num]; exact hd⟩
        have hle := lead_L a
        have hbt : ∀ h : 0 < a.size, ((a[0]'h).toNat : Int) = bt a 0 := bt_at a 0
        cases h1 : decide (1 < (a.size : Int))
        · have HO : Aside0 (goodN a = true) := ⟨by unfold goodN; rw [hd, hle, h1]; rfl⟩
          clear hd hle hbt
          go_wp2_with (go_at_call 19; (with_reducible refine (only18_any a num num_plain _).mono ?_); rintro e w2 ⟨rfl, hb⟩; rw [HNum.out]; have HF2 := Aside0.mk (HF.out.on hb); clear hb)
          go_roundg (gk - 1)
          case measure => have h := HI.out; omega
          case rel => exact ⟨1, by first | rfl | simp [wrap64], ⟨by have h := HI.out; omega⟩, ⟨⟨fun _ => HO.out, fun h => absurd h (by decide), fun h => absurd h (by decide)⟩⟩, HF2⟩
        · have hsz : (0 < a.size) = True := eq_true (by have := of_decide_eq_true h1; omega)
          cases h2 : (bt a 0 == 48)
          · have HO : Aside0 (goodN a = true) := ⟨by unfold goodN; rw [hd, hle, h1, h2]; rfl⟩
            clear hd hle
            go_wp2_with (go_at_call 19; (with_reducible refine (only18_any a num num_plain _).mono ?_); rintro e w2 ⟨rfl, hb⟩; rw [HNum.out]; have HF2 := Aside0.mk (HF.out.on hb); clear hb)
            go_roundg (gk - 1)
            case measure => have h := HI.out; omega
            case rel => exact ⟨1, by first | rfl | simp [wrap64], ⟨by have h := HI.out; omega⟩, ⟨⟨fun _ => HO.out, fun h => absurd h (by decide), fun h => absurd h (by decide)⟩⟩, HF2⟩
          · have HO : Aside0 (goodN a = false) := ⟨by unfold goodN; rw [hd, hle, h1, h2]; rfl⟩
            have HKN : Aside0 (kNum a b c1 = some 4) := ⟨by rw [kNum0 HO.out]; rw [hd]; rfl⟩
            clear hd hle
            go_upto_region 29 with (go_at_call 19; (with_reducible refine (only18_any a num num_plain _).mono ?_); rintro e w2 ⟨rfl, hb⟩; rw [HNum.out]; have HB2 := Aside0.mk (bl_on HF.out.hb hb); clear hb)
            have gg := globS_below HG.out HB2.out 4 (by decide)
            first | go_region_held3 (fun W => W.cell? ⟨4, 0, none⟩ = some (.iface 86 (.pointer (some (E 4)))) ∧ Hid (Below w.heap.size w W)) (first | assumption | exact ⟨cell_on (bl_drew (Below.refl _ _)) gg, Lib.hid (bl_drew (HB2.out))⟩ | fail) (first | fail) | fail
            rename_i hH
            have HBZ := Lib.hid hH.2.out
            clear hH gg
            go_wp2_with fail
            go_ret2
            exact Or.inr (Or.inl ⟨4, HKN.out, rfl, HBZ.out⟩)
    · skip
      obtain ⟨u0, u1, u2, u3, u4, k0, k1, k2, k3, k4⟩ := HF.out.cells
      have a0 := HF.out.a0
      have a1 := HF.out.a1
      have a2 := HF.out.a2
      have f2 := HF.out.f2
      have e1 : (g = V) = False := eq_false (by have := HF.out.ne; omega)
      have e2 : (V = g) = False := eq_false (by have := HF.out.ne; omega)
      cases hd : (L b).all isD
      · have HNum : Aside0 (onlyB num b = false) := ⟨by rw [only_num]; exact hd⟩
        have HO : Aside0 (goodN b = false) := ⟨by unfold goodN; rw [hd]; rfl⟩
        have HKN : Aside0 (kNum a b c1 = some 3) := ⟨by rw [kNum1 (HD.out.1 (by decide)) HO.out]; rw [hd]; rfl⟩
        clear hd
        go_upto_region 27 with (go_at_call 19; (with_reducible refine (only18_any b num num_plain _).mono ?_); rintro e w2 ⟨rfl, hb⟩; rw [HNum.out]; have HB2 := Aside0.mk (bl_on HF.out.hb hb); clear hb)
        have gg := globS_below HG.out HB2.out 3 (by decide)
        first | go_region_held3 (fun W => W.cell? ⟨3, 0, none⟩ = some (.iface 86 (.pointer (some (E 3)))) ∧ Hid (Below w.heap.size w W)) (first | assumption | exact ⟨cell_on (bl_drew (Below.refl _ _)) gg, Lib.hid (bl_drew (HB2.out))⟩ | fail) (first | fail) | fail
        rename_i hH
        have HBZ := Lib.hid hH.2.out
        clear hH gg
        go_wp2_with fail
        go_ret2
        exact Or.inr (Or.inl ⟨3, HKN.out, rfl, HBZ.out⟩)
      · have HNum : Aside0 (onlyB num b = true) := ⟨by rw [only_num]; exact hd⟩
        have hle := lead_L b
        have hbt : ∀ h : 0 < b.size, ((b[0]'h).toNat : Int) = bt b 0 := bt_at b 0
        cases h1 : decide (1 < (b.size : Int))
        · have HO : Aside0 (goodN b = true) := ⟨by unfold goodN; rw [hd, hle, h1]; rfl⟩
          clear hd hle hbt
          go_wp2_with (go_at_call 19; (with_reducible refine (only18_any b num num_plain _).mono ?_); rintro e w2 ⟨rfl, hb⟩; rw [HNum.out]; have HF2 := Aside0.mk (HF.out.on hb); clear hb)
          go_roundg (gk - 1)
          case measure => have h := HI.out; omega
          case rel => exact ⟨2, by first | rfl | simp [wrap64], ⟨by have h := HI.out; omega⟩, ⟨⟨fun _ => HD.out.1 (by decide), fun _ => HO.out, fun h => absurd h (by decide)⟩⟩, HF2⟩
        · have hsz : (0 < b.size) = True := eq_true (by have := of_decide_eq_true h1; omega)
          cases h2 : (bt b 0 == 48)
          · have HO : Aside0 (goodN b = true) := ⟨by unfold goodN; rw [hd, hle, h1, h2]; rfl⟩
            clear hd hle
            go_wp2_with (go_at_call 19; (with_reducible refine (only18_any b num num_plain _).mono ?_); rintro e w2 ⟨rfl, hb⟩; rw [HNum.out]; have HF2 := Aside0.mk (HF.out.on hb); clear hb)
            go_roundg (gk - 1)
            case measure => have h := HI.out; omega
            case rel => exact ⟨2, by first | rfl | simp [wrap64], ⟨by have h := HI.out; omega⟩, ⟨⟨fun _ => HD.out.1 (by decide), fun _ => HO.out, fun h => absurd h (by decide)⟩⟩, HF2⟩
          · have HO : Aside0 (goodN b = false) := ⟨by unfold goodN; rw [hd, hle, h1, h2]; rfl⟩
            have HKN : Aside0 (kNum a b c1 = some 4) := ⟨by rw [kNum1 (HD.out.1 (by decide)) HO.out]; rw [hd]; rfl⟩
            clear hd hle
            go_upto_region 29 with (go_at_call 19; (with_reducible refine (only18_any b num num_plain _).mono ?_); rintro e w2 ⟨rfl, hb⟩; rw [HNum.out]; have HB2 := Aside0.mk (bl_on HF.out.hb hb); clear hb)
            have gg := globS_below HG.out HB2.out 4 (by decide)
            first | go_region_held3 (fun W => W.cell? ⟨4, 0, none⟩ = some (.iface 86 (.pointer (some (E 4)))) ∧ Hid (Below w.heap.size w W)) (first | assumption | exact ⟨cell_on (bl_drew (Below.refl _ _)) gg, Lib.hid (bl_drew (HB2.out))⟩ | fail) (first | fail) | fail
            rename_i hH
            have HBZ := Lib.hid hH.2.out
            clear hH gg
            go_wp2_with fail
            go_ret2
            exact Or.inr (Or.inl ⟨4, HKN.out, rfl, HBZ.out⟩)
    · skip
      obtain ⟨u0, u1, u2, u3, u4, k0, k1, k2, k3, k4⟩ := HF.out.cells
      have a0 := HF.out.a0
      have a1 := HF.out.a1
      have a2 := HF.out.a2
      have f2 := HF.out.f2
      have e1 : (g = V) = False := eq_false (by have := HF.out.ne; omega)
      have e2 : (V = g) = False := eq_false (by have := HF.out.ne; omega)
      cases hd : (L c1).all isD
      · have HNum : Aside0 (onlyB num c1 = false) := ⟨by rw [only_num]; exact hd⟩
        have HO : Aside0 (goodN c1 = false) := ⟨by unfold goodN; rw [hd]; rfl⟩
        have HKN : Aside0 (kNum a b c1 = some 3) := ⟨by rw [kNum2 (HD.out.1 (by decide)) (HD.out.2.1 (by decide)) HO.out]; rw [hd]; rfl⟩
        clear hd
        go_upto_region 27 with (go_at_call 19; (with_reducible refine (only18_any c1 num num_plain _).mono ?_); rintro e w2 ⟨rfl, hb⟩; rw [HNum.out]; have HB2 := Aside0.mk (bl_on HF.out.hb hb); clear hb)
        have gg := globS_below HG.out HB2.out 3 (by decide)
        first | go_region_held3 (fun W => W.cell? ⟨3, 0, none⟩ = some (.iface 86 (.pointer (some (E 3)))) ∧ Hid (Below w.heap.size w W)) (first | assumption | exact ⟨cell_on (bl_drew (Below.refl _ _)) gg, Lib.hid (bl_drew (HB2.out))⟩ | fail) (first | fail) | fail
        rename_i hH
        have HBZ := Lib.hid hH.2.out
        clear hH gg
        go_wp2_with fail
        go_ret2
        exact Or.inr (Or.inl ⟨3, HKN.out, rfl, HBZ.out⟩)
      · have HNum : Aside0 (onlyB num c1 = true) := ⟨by rw [only_num]; exact hd⟩
        have hle := lead_L c1
        have hbt : ∀ h : 0 < c1.size, ((c1[0]'h).toNat : Int) = bt c1 0 := bt_at c1 0
        cases h1 : decide (1 < (c1.size : Int))
        · have HO : Aside0 (goodN c1 = true) := ⟨by unfold goodN; rw [hd, hle, h1]; rfl⟩
          clear hd hle hbt
          go_wp2_with (go_at_call 19; (with_reducible refine (only18_any c1 num num_plain _).mono ?_); rintro e w2 ⟨rfl, hb⟩; rw [HNum.out]; have HF2 := Aside0.mk (HF.out.on hb); clear hb)
          go_roundg (gk - 1)
          case measure => have h := HI.out; omega
          case rel => exact ⟨3, by first | rfl | simp [wrap64], ⟨by have h := HI.out; omega⟩, ⟨⟨fun _ => HD.out.1 (by decide), fun _ => HD.out.2.1 (by decide), fun _ => HO.out⟩⟩, HF2⟩
        · have hsz : (0 < c1.size) = True := eq_true (by have := of_decide_eq_true h1; omega)
          cases h2 : (bt c1 0 == 48)
          · have HO : Aside0 (goodN c1 = true) := ⟨by unfold goodN; rw [hd, hle, h1, h2]; rfl⟩
            clear hd hle
            go_wp2_with (go_at_call 19; (with_reducible refine (only18_any c1 num num_plain _).mono ?_); rintro e w2 ⟨rfl, hb⟩; rw [HNum.out]; have HF2 := Aside0.mk (HF.out.on hb); clear hb)
            go_roundg (gk - 1)
            case measure => have h := HI.out; omega
            case rel => exact ⟨3, by first | rfl | simp [wrap64], ⟨by have h := HI.out; omega⟩, ⟨⟨fun _ => HD.out.1 (by decide), fun _ => HD.out.2.1 (by decide), fun _ => HO.out⟩⟩, HF2⟩
          · have HO : Aside0 (goodN c1 = false) := ⟨by unfold goodN; rw [hd, hle, h1, h2]; rfl⟩
            have HKN : Aside0 (kNum a b c1 = some 4) := ⟨by rw [kNum2 (HD.out.1 (by decide)) (HD.out.2.1 (by decide)) HO.out]; rw [hd]; rfl⟩
            clear hd hle
            go_upto_region 29 with (go_at_call 19; (with_reducible refine (only18_any c1 num num_plain _).mono ?_); rintro e w2 ⟨rfl, hb⟩; rw [HNum.out]; have HB2 := Aside0.mk (bl_on HF.out.hb hb); clear hb)
            have gg := globS_below HG.out HB2.out 4 (by decide)
            first | go_region_held3 (fun W => W.cell? ⟨4, 0, none⟩ = some (.iface 86 (.pointer (some (E 4)))) ∧ Hid (Below w.heap.size w W)) (first | assumption | exact ⟨cell_on (bl_drew (Below.refl _ _)) gg, Lib.hid (bl_drew (HB2.out))⟩ | fail) (first | fail) | fail
            rename_i hH
            have HBZ := Lib.hid hH.2.out
            clear hH gg
            go_wp2_with fail
            go_ret2
            exact Or.inr (Or.inl ⟨4, HKN.out, rfl, HBZ.out⟩)
    · skip
      obtain ⟨u0, u1, u2, u3, u4, k0, k1, k2, k3, k4⟩ := HF.out.cells
      have a0 := HF.out.a0
      have a1 := HF.out.a1
      have a2 := HF.out.a2
      have f2 := HF.out.f2
      have e1 : (g = V) = False := eq_false (by have := HF.out.ne; omega)
      have e2 : (V = g) = False := eq_false (by have := HF.out.ne; omega)
      have HGA := Aside0.mk (HD.out.1 (by decide))
      have HGB := Aside0.mk (HD.out.2.1 (by decide))
      have HGC := Aside0.mk (HD.out.2.2 (by decide))
      by_cases hpa : ∃ u, Lib.parseUintB 64 a.data.toList = .ok u
      · obtain ⟨ua, hua⟩ := hpa
        have HUA := Aside0.mk hua
        clear hua
        go_upto_region 35 with (go_at_call 20; (with_reducible refine (parse_ok a HSA.out.1 ua HUA.out _).mono ?_); rintro e w2 ⟨rfl, hb⟩; have HF0 := Aside0.mk (HF.out.on hb); obtain ⟨u0, u1, u2, u3, u4, k0, k1, k2, k3, k4⟩ := HF0.out.cells; clear hb)
        have HFn := Aside0.mk (HF0.out.pre 0 (.int .u64 ua) ua 0 0 ⟨#[]⟩ mt (fun _ => rfl))
        clear u0 u1 u2 u3 u4 k0 k1 k2 k3 k4 a0 a1 a2 f2 e1 e2
        clear HF HF0
        generalize w2.setCell ⟨V, 0, none⟩ (.int .u64 ua) = wp at HFn ⊢
        have HF := HFn
        clear HFn
        obtain ⟨u0, u1, u2, u3, u4, k0, k1, k2, k3, k4⟩ := HF.out.cells
        have a0 := HF.out.a0
        have a1 := HF.out.a1
        have a2 := HF.out.a2
        have f2 := HF.out.f2
        have e1 : (g = V) = False := eq_false (by have := HF.out.ne; omega)
        have e2 : (V = g) = False := eq_false (by have := HF.out.ne; omega)
        by_cases hpb : ∃ u, Lib.parseUintB 64 b.data.toList = .ok u
        · obtain ⟨ub, hub⟩ := hpb
          have HUB := Aside0.mk hub
          clear hub
          go_upto_region 38 with (go_at_call 20; (with_reducible refine (parse_ok b HSA.out.2.1 ub HUB.out _).mono ?_); rintro e w3 ⟨rfl, hb⟩; have HF0 := Aside0.mk (HF.out.on hb); obtain ⟨u0, u1, u2, u3, u4, k0, k1, k2, k3, k4⟩ := HF0.out.cells; clear hb)
          have HFn := Aside0.mk (HF0.out.pre 1 (.int .u64 ub) ua ub 0 ⟨#[]⟩ mt (fun _ => rfl))
          clear u0 u1 u2 u3 u4 k0 k1 k2 k3 k4 a0 a1 a2 f2 e1 e2
          clear HF HF0
          generalize w3.setCell ⟨V, 1, none⟩ (.int .u64 ub) = wq at HFn ⊢
          have HF := HFn
          clear HFn
          obtain ⟨u0, u1, u2, u3, u4, k0, k1, k2, k3, k4⟩ := HF.out.cells
          have a0 := HF.out.a0
          have a1 := HF.out.a1
          have a2 := HF.out.a2
          have f2 := HF.out.f2
          have e1 : (g = V) = False := eq_false (by have := HF.out.ne; omega)
          have e2 : (V = g) = False := eq_false (by have := HF.out.ne; omega)
          by_cases hpc : ∃ u, Lib.parseUintB 64 c1.data.toList = .ok u
          · obtain ⟨uc, huc⟩ := hpc
            have HUC := Aside0.mk huc
            clear huc
            go_upto_region 41 with (go_at_call 20; (with_reducible refine (parse_ok c1 HSA.out.2.2 uc HUC.out _).mono ?_); rintro e w4 ⟨rfl, hb⟩; have HF0 := Aside0.mk (HF.out.on hb); obtain ⟨u0, u1, u2, u3, u4, k0, k1, k2, k3, k4⟩ := HF0.out.cells; clear hb)
            have HFn := Aside0.mk (HF0.out.pre 2 (.int .u64 uc) ua ub uc ⟨#[]⟩ mt (fun _ => rfl))
            clear u0 u1 u2 u3 u4 k0 k1 k2 k3 k4 a0 a1 a2 f2 e1 e2
            clear HF HF0
            generalize w4.setCell ⟨V, 2, none⟩ (.int .u64 uc) = wr2 at HFn ⊢
            go_wp2
            go_ret2
            exact Or.inl ⟨ua, ub, uc, g, V, numV_ok HGA.out HUA.out, numV_ok HGB.out HUB.out, numV_ok HGC.out HUC.out, rfl, HFn.out⟩
          · have HPC := Aside0.mk (fun u h => hpc ⟨u, h⟩)
            clear hpc
            go_wp2_with (go_at_call 20; (with_reducible refine (parse_err E c1 HSA.out.2.2 HPC.out _ (globE_below HE.out HF.out.hb)).mono ?_); rintro e w4 ⟨vv, NN, rfl, hN, hE, hb⟩; have HNE := Aside0.mk hE; have HNV := Aside0.mk (show NN ≠ V by have h1 := st_lt HF.out; omega); clear hN hE; have HF0 := Aside0.mk (HF.out.on hb); obtain ⟨u0, u1, u2, u3, u4, k0, k1, k2, k3, k4⟩ := HF0.out.cells; clear hb)
            go_ret2
            exact Or.inr (Or.inr ⟨kNum_none HGA.out HGB.out HGC.out, Or.inr (Or.inr (numV_err HPC.out)), NN, rfl, numErr_set HNE.out HNV.out, bl_set HF0.out.hb (Nat.le_trans HF0.out.lo (Nat.le_of_lt HF0.out.ne)) _⟩)
        · have HPB := Aside0.mk (fun u h => hpb ⟨u, h⟩)
          clear hpb
          go_wp2_with (go_at_call 20; (with_reducible refine (parse_err E b HSA.out.2.1 HPB.out _ (globE_below HE.out HF.out.hb)).mono ?_); rintro e w4 ⟨vv, NN, rfl, hN, hE, hb⟩; have HNE := Aside0.mk hE; have HNV := Aside0.mk (show NN ≠ V by have h1 := st_lt HF.out; omega); clear hN hE; have HF0 := Aside0.mk (HF.out.on hb); obtain ⟨u0, u1, u2, u3, u4, k0, k1, k2, k3, k4⟩ := HF0.out.cells; clear hb)
          go_ret2
          exact Or.inr (Or.inr ⟨kNum_none HGA.out HGB.out HGC.out, Or.inr (Or.inl (numV_err HPB.out)), NN, rfl, numErr_set HNE.out HNV.out, bl_set HF0.out.hb (Nat.le_trans HF0.out.lo (Nat.le_of_lt HF0.out.ne)) _⟩)
      · have HPA := Aside0.mk (fun u h => hpa ⟨u, h⟩)
        clear hpa
        go_wp2_with (go_at_call 20; (with_reducible refine (parse_err E a HSA.out.1 HPA.out _ (globE_below HE.out HF.out.hb)).mono ?_); rintro e w4 ⟨vv, NN, rfl, hN, hE, hb⟩; have HNE := Aside0.mk hE; have HNV := Aside0.mk (show NN ≠ V by have h1 := st_lt HF.out; omega); clear hN hE; have HF0 := Aside0.mk (HF.out.on hb); obtain ⟨u0, u1, u2, u3, u4, k0, k1, k2, k3, k4⟩ := HF0.out.cells; clear hb)
        go_ret2
        exact Or.inr (Or.inr ⟨kNum_none HGA.out HGB.out HGC.out, Or.inl (numV_err HPA.out), NN, rfl, numErr_set HNE.out HNV.out, bl_set HF0.out.hb (Nat.le_trans HF0.out.lo (Nat.le_of_lt HF0.out.ne)) _⟩)
set_option maxHeartbeats 16000000 in
set_option maxRecDepth 100000 in
theorem strict_t11 (E : Nat → Addr) (s : ByteArray) (a b c0 c1 mt c2 pre : ByteArray) (ks kp1 kp2 kp3 km1 km2 km3 : Nat) (psp psm : List ByteArray) (hz : ((s.size : Int) == 0) = false) (hl : decide (256 < (s.size : Int)) = false) (Aspl : semver_zzSplitN.f ks s ⟨#[46]⟩ 3 = some [a, b, c0]) (Ap1 : semver_zzContains.f kp1 c0 ⟨#[43]⟩ = some true) (Ap2 : semver_zzSplitN.f kp2 c0 ⟨#[43]⟩ 2 = some [c1, mt]) (Ap3 : semver_zzSplit.f kp3 mt ⟨#[46]⟩ = some psp) (Ap4 : psp.length ≤ 2147483647) (Ap5 : psp.all okM = true) (Am1 : semver_zzContains.f km1 c1 ⟨#[45]⟩ = some true) (Am2 : semver_zzSplitN.f km2 c1 ⟨#[45]⟩ 2 = some [c2, pre]) (Am3 : semver_zzSplit.f km3 pre ⟨#[46]⟩ = some psm) (Am4 : psm.length ≤ 2147483647) (Am5 : psm.all okP = true) (Asa : a.size ≤ 281474976710656 ∧ b.size ≤ 281474976710656 ∧ c2.size ≤ 281474976710656) (w : World) (hG : GlobS E w) (hE : GlobE E w) :
    Calls Tryd.prog 7 #[.string s] w (PostN E w a b c2 pre mt) := by
  have HG := Aside0.mk hG
  have HE := Aside0.mk hE
  clear hG hE
  have HSPL := Aside0.mk Aspl
  clear Aspl
  have HP1 := Aside0.mk Ap1
  clear Ap1
  have HP2 := Aside0.mk Ap2
  clear Ap2
  have HP3 := Aside0.mk Ap3
  clear Ap3
  have HP4 := Aside0.mk Ap4
  clear Ap4
  have HP5 := Aside0.mk Ap5
  clear Ap5
  have HM1 := Aside0.mk Am1
  clear Am1
  have HM2 := Aside0.mk Am2
  clear Am2
  have HM3 := Aside0.mk Am3
  clear Am3
  have HM4 := Aside0.mk Am4
  clear Am4
  have HM5 := Aside0.mk Am5
  clear Am5
  have HSA := Aside0.mk Asa
  clear Asa
  go_enter Tryd.func7, Tryd.ntmps7
  go_upto_region 9 with (go_at_call 15; (with_reducible refine (semver_zzSplitN.calls ks s ⟨#[46]⟩ 3 [a, b, c0] _ HSPL.out).mono ?_); rintro e w1 ⟨v, rfl, hR, hb⟩; obtain ⟨g, cap, e1, hg, hgl, -⟩ := Kd.R_form hR (by simp); subst e1; have HR := Aside0.mk hR; have HB := Aside0.mk hb; have HGL := Aside0.mk (And.intro hg hgl); clear hR hb hg hgl)
  have HF := Aside0.mk (st_start (s := s) HR.out HB.out HGL.out.1 HGL.out.2)
  clear HR HGL
  generalize w1.alloc (.cells #[.int .u64 0, .int .u64 0, .int .u64 0, .string ⟨#[]⟩, .string ⟨#[]⟩, .string s] 42) = W0 at HF ⊢
  generalize w1.heap.size = V at HF ⊢
  obtain ⟨u0, u1, u2, u3, u4, k0, k1, k2, k3, k4⟩ := HF.out.cells
  have a0 := HF.out.a0
  have a1 := HF.out.a1
  have a2 := HF.out.a2
  have f2 := HF.out.f2
  have e1 : (g = V) = False := eq_false (by have := HF.out.ne; omega)
  have e2 : (V = g) = False := eq_false (by have := HF.out.ne; omega)
  go_upto_region 10 with (go_at_call 16; (with_reducible refine (semver_zzContains.calls kp1 c0 ⟨#[43]⟩ true _ HP1.out).mono ?_); rintro e w2 ⟨rfl, hd⟩; have HF0 := Aside0.mk (HF.out.on (drawn_below hd)); clear hd)
  clear u0 u1 u2 u3 u4 k0 k1 k2 k3 k4 a0 a1 a2 f2 e1 e2
  clear HF
  have HF := HF0
  clear HF0
  obtain ⟨u0, u1, u2, u3, u4, k0, k1, k2, k3, k4⟩ := HF.out.cells
  have a0 := HF.out.a0
  have a1 := HF.out.a1
  have a2 := HF.out.a2
  have f2 := HF.out.f2
  have e1 : (g = V) = False := eq_false (by have := HF.out.ne; omega)
  have e2 : (V = g) = False := eq_false (by have := HF.out.ne; omega)
  go_upto_region 11 with (go_at_call 15; (with_reducible refine (semver_zzSplitN.calls kp2 c0 ⟨#[43]⟩ 2 [c1, mt] _ HP2.out).mono ?_); rintro e wx ⟨v, rfl, hR, hb⟩; obtain ⟨gx, capp, ex, hg, hgl, -⟩ := Kd.R_form hR (by simp); subst ex; have x0 := (Kd.R_cell ByteArray.empty hR 0 (by decide) (by simp)).1; have x1 := (Kd.R_cell ByteArray.empty hR 1 (by decide) (by simp)).1; have HX := Aside0.mk (show g < gx ∧ V < gx from ⟨Nat.lt_of_lt_of_le (World.block_lt_of_cell? _ _ a0) hg, Nat.lt_of_lt_of_le (World.block_lt_of_cell? _ _ u0) hg⟩); have HF0 := Aside0.mk (HF.out.on hb); clear hR hb hg hgl)
  clear u0 u1 u2 u3 u4 k0 k1 k2 k3 k4 a0 a1 a2 f2 e1 e2
  clear HF
  have HF := HF0
  clear HF0
  obtain ⟨u0, u1, u2, u3, u4, k0, k1, k2, k3, k4⟩ := HF.out.cells
  have a0 := HF.out.a0
  have a1 := HF.out.a1
  have a2 := HF.out.a2
  have f2 := HF.out.f2
  have e1 : (g = V) = False := eq_false (by have := HF.out.ne; omega)
  have e2 : (V = g) = False := eq_false (by have := HF.out.ne; omega)
  have y0 : wx.cell? ⟨gx, 0, none⟩ = some (.string c1) := x0
  have y1 : wx.cell? ⟨gx, 1, none⟩ = some (.string mt) := x1
  clear x0 x1
  go_upto_region 12 with fail
  have HFn := Aside0.mk (HF.out.pre 4 (.string mt) 0 0 0 ⟨#[]⟩ mt (fun _ => rfl))
  have z0 := cell_far (u := .string mt) (p := ⟨V, 4, none⟩) (fun ee => by have h1 := HX.out.2; have h2 := congrArg Addr.block ee; simp at h2; omega) y0
  clear u0 u1 u2 u3 u4 k0 k1 k2 k3 k4 a0 a1 a2 f2 e1 e2
  clear HF y0 y1
  generalize wx.setCell ⟨V, 4, none⟩ (.string mt) = wy at HFn z0 ⊢
  have HF := HFn
  clear HFn
  obtain ⟨u0, u1, u2, u3, u4, k0, k1, k2, k3, k4⟩ := HF.out.cells
  have a0 := HF.out.a0
  have a1 := HF.out.a1
  have a2 := HF.out.a2
  have f2 := HF.out.f2
  have e1 : (g = V) = False := eq_false (by have := HF.out.ne; omega)
  have e2 : (V = g) = False := eq_false (by have := HF.out.ne; omega)
  go_upto_region 13 with fail
  have HFn := Aside0.mk (HF.out.part c1)
  clear u0 u1 u2 u3 u4 k0 k1 k2 k3 k4 a0 a1 a2 f2 e1 e2
  clear HF z0 HX
  generalize wy.setCell ⟨g, 2, none⟩ (.string c1) = wz at HFn ⊢
  have HF := HFn
  clear HFn
  obtain ⟨u0, u1, u2, u3, u4, k0, k1, k2, k3, k4⟩ := HF.out.cells
  have a0 := HF.out.a0
  have a1 := HF.out.a1
  have a2 := HF.out.a2
  have f2 := HF.out.f2
  have e1 : (g = V) = False := eq_false (by have := HF.out.ne; omega)
  have e2 : (V = g) = False := eq_false (by have := HF.out.ne; omega)
  go_upto_region 16 with (go_at_call 17; (with_reducible refine (meta16 mt kp3 psp HP3.out HP4.out E _ (globS_below HG.out HF.out.hb)).mono ?_); rintro e wc ⟨hr, hb⟩; obtain rfl := res_ok HP5.out hr; have HF0 := Aside0.mk (HF.out.on hb); clear hr hb)
  clear u0 u1 u2 u3 u4 k0 k1 k2 k3 k4 a0 a1 a2 f2 e1 e2
  clear HF
  have HF := HF0
  clear HF0
  obtain ⟨u0, u1, u2, u3, u4, k0, k1, k2, k3, k4⟩ := HF.out.cells
  have a0 := HF.out.a0
  have a1 := HF.out.a1
  have a2 := HF.out.a2
  have f2 := HF.out.f2
  have e1 : (g = V) = False := eq_false (by have := HF.out.ne; omega)
  have e2 : (V = g) = False := eq_false (by have := HF.out.ne; omega)
  go_upto_region 17 with (go_at_call 16; (with_reducible refine (semver_zzContains.calls km1 c1 ⟨#[45]⟩ true _ HM1.out).mono ?_); rintro e w2 ⟨rfl, hd⟩; have HF0 := Aside0.mk (HF.out.on (drawn_below hd)); clear hd)
  clear u0 u1 u2 u3 u4 k0 k1 k2 k3 k4 a0 a1 a2 f2 e1 e2
  clear HF
  have HF := HF0
  clear HF0
  obtain ⟨u0, u1, u2, u3, u4, k0, k1, k2, k3, k4⟩ := HF.out.cells
  have a0 := HF.out.a0
  have a1 := HF.out.a1
  have a2 := HF.out.a2
  have f2 := HF.out.f2
  have e1 : (g = V) = False := eq_false (by have := HF.out.ne; omega)
  have e2 : (V = g) = False := eq_false (by have := HF.out.ne; omega)
  go_upto_region 18 with (go_at_call 15; (with_reducible refine (semver_zzSplitN.calls km2 c1 ⟨#[45]⟩ 2 [c2, pre] _ HM2.out).mono ?_); rintro e wx ⟨v, rfl, hR, hb⟩; obtain ⟨gx, capm, ex, hg, hgl, -⟩ := Kd.R_form hR (by simp); subst ex; have x0 := (Kd.R_cell ByteArray.empty hR 0 (by decide) (by simp)).1; have x1 := (Kd.R_cell ByteArray.empty hR 1 (by decide) (by simp)).1; have HX := Aside0.mk (show g < gx ∧ V < gx from ⟨Nat.lt_of_lt_of_le (World.block_lt_of_cell? _ _ a0) hg, Nat.lt_of_lt_of_le (World.block_lt_of_cell? _ _ u0) hg⟩); have HF0 := Aside0.mk (HF.out.on hb); clear hR hb hg hgl)
  clear u0 u1 u2 u3 u4 k0 k1 k2 k3 k4 a0 a1 a2 f2 e1 e2
  clear HF
  have HF := HF0
  clear HF0
  obtain ⟨u0, u1, u2, u3, u4, k0, k1, k2, k3, k4⟩ := HF.out.cells
  have a0 := HF.out.a0
  have a1 := HF.out.a1
  have a2 := HF.out.a2
  have f2 := HF.out.f2
  have e1 : (g = V) = False := eq_false (by have := HF.out.ne; omega)
  have e2 : (V = g) = False := eq_false (by have := HF.out.ne; omega)
  have y0 : wx.cell? ⟨gx, 0, none⟩ = some (.string c2) := x0
  have y1 : wx.cell? ⟨gx, 1, none⟩ = some (.string pre) := x1
  clear x0 x1
  go_upto_region 19 with fail
  have HFn := Aside0.mk (HF.out.pre 3 (.string pre) 0 0 0 pre mt (fun _ => rfl))
  have z0 := cell_far (u := .string pre) (p := ⟨V, 3, none⟩) (fun ee => by have h1 := HX.out.2; have h2 := congrArg Addr.block ee; simp at h2; omega) y0
  clear u0 u1 u2 u3 u4 k0 k1 k2 k3 k4 a0 a1 a2 f2 e1 e2
  clear HF y0 y1
  generalize wx.setCell ⟨V, 3, none⟩ (.string pre) = wy at HFn z0 ⊢
  have HF := HFn
  clear HFn
  obtain ⟨u0, u1, u2, u3, u4, k0, k1, k2, k3, k4⟩ := HF.out.cells
  have a0 := HF.out.a0
  have a1 := HF.out.a1
  have a2 := HF.out.a2
  have f2 := HF.out.f2
  have e1 : (g = V) = False := eq_false (by have := HF.out.ne; omega)
  have e2 : (V = g) = False := eq_false (by have := HF.out.ne; omega)
  go_upto_region 20 with fail
  have HFn := Aside0.mk (HF.out.part c2)
  clear u0 u1 u2 u3 u4 k0 k1 k2 k3 k4 a0 a1 a2 f2 e1 e2
  clear HF z0 HX
  generalize wy.setCell ⟨g, 2, none⟩ (.string c2) = wz at HFn ⊢
  have HF := HFn
  clear HFn
  obtain ⟨u0, u1, u2, u3, u4, k0, k1, k2, k3, k4⟩ := HF.out.cells
  have a0 := HF.out.a0
  have a1 := HF.out.a1
  have a2 := HF.out.a2
  have f2 := HF.out.f2
  have e1 : (g = V) = False := eq_false (by have := HF.out.ne; omega)
  have e2 : (V = g) = False := eq_false (by have := HF.out.ne; omega)
  go_upto_region 23 with (go_at_call 18; (with_reducible refine (pre17 pre km3 psm HM3.out HM4.out E _ (globS_below HG.out HF.out.hb)).mono ?_); rintro e wc ⟨hr, hb⟩; obtain rfl := res_ok HM5.out hr; have HF0 := Aside0.mk (HF.out.on hb); clear hr hb)
  clear u0 u1 u2 u3 u4 k0 k1 k2 k3 k4 a0 a1 a2 f2 e1 e2
  clear HF
  have HF := HF0
  clear HF0
  obtain ⟨u0, u1, u2, u3, u4, k0, k1, k2, k3, k4⟩ := HF.out.cells
  have a0 := HF.out.a0
  have a1 := HF.out.a1
  have a2 := HF.out.a2
  have f2 := HF.out.f2
  have e1 : (g = V) = False := eq_false (by have := HF.out.ne; omega)
  have e2 : (V = g) = False := eq_false (by have := HF.out.ne; omega)
  go_wp2
  clear u0 u1 u2 u3 u4 k0 k1 k2 k3 k4 a0 a1 a2 f2 e1 e2
  go_loopg [86] 4 (fun gq v86 w' => ∃ x : Int, v86 = .int .i64 x ∧ Aside0 (0 ≤ x ∧ x ≤ 3 ∧ gq + x.toNat = 4) ∧ Aside0 ((0 < x → goodN a = true) ∧ (1 < x → goodN b = true) ∧ (2 < x → goodN c2 = true)) ∧ Aside0 (ST w g V a b c2 0 0 0 pre mt w'))
  case atStart => exact ⟨0, rfl, ⟨by omega, by omega, by omega⟩, ⟨⟨fun h => absurd h (by decide), fun h => absurd h (by decide), fun h => absurd h (by decide)⟩⟩, HF⟩
  case round =>
    clear HF
    obtain ⟨x, rfl, HI, HD, HF⟩ := hrel
    have hx : x = 0 ∨ x = 1 ∨ x = 2 ∨ x = 3 := by have h := HI.out; omega
    rcases hx with rfl | rfl | rfl | rfl
    · skip
      obtain ⟨u0, u1, u2, u3, u4, k0, k1, k2, k3, k4⟩ := HF.out.cells
      have a0 := HF.out.a0
      have a1 := HF.out.a1
      have a2 := HF.out.a2
      have f2 := HF.out.f2
      have e1 : (g = V) = False := eq_false (by have := HF.out.ne; omega)
      have e2 : (V = g) = False := eq_false (by have := HF.out.ne; omega)
      cases hd : (L a).all isD
      · have HNum : Aside0 (onlyB num a = false) := ⟨by rw [only_num]; exact hd⟩
        have HO : Aside0 (goodN a = false) := ⟨by unfold goodN; rw [hd]; rfl⟩
        have HKN : Aside0 (kNum a b c2 = some 3) := ⟨by rw [kNum0 HO.out]; rw [hd]; rfl⟩
        clear hd
        go_upto_region 27 with (go_at_call 19; (with_reducible refine (only18_any a num num_plain _).mono ?_); rintro e w2 ⟨rfl, hb⟩; rw [HNum.out]; have HB2 := Aside0.mk (bl_on HF.out.hb hb); clear hb)
        have gg := globS_below HG.out HB2.out 3 (by decide)
        first | go_region_held3 (fun W => W.cell? ⟨3, 0, none⟩ = some (.iface 86 (.pointer (some (E 3)))) ∧ Hid (Below w.heap.size w W)) (first | assumption | exact ⟨cell_on (bl_drew (Below.refl _ _)) gg, Lib.hid (bl_drew (HB2.out))⟩ | fail) (first | fail) | fail
        rename_i hH
        have HBZ := Lib.hid hH.2.out
        clear hH gg
        go_wp2_with fail
        go_ret2
        exact Or.inr (Or.inl ⟨3, HKN.out, rfl, HBZ.out⟩)
      · have HNum : Aside0 (onlyB num a = true) := ⟨by rw [only_num]; exact hd⟩
        have hle := lead_L a
        have hbt : ∀ h : 0 < a.size, ((a[0]'h).toNat : Int) = bt a 0 := bt_at a 0
        cases h1 : decide (1 < (a.size : Int))
        · have HO : Aside0 (goodN a = true) := ⟨by unfold goodN; rw [hd, hle, h1]; rfl⟩
          clear hd hle hbt
          go_wp2_with (go_at_call 19; (with_reducible refine (only18_any a num num_plain _).mono ?_); rintro e w2 ⟨rfl, hb⟩; rw [HNum.out]; have HF2 := Aside0.mk (HF.out.on hb); clear hb)
          go_roundg (gk - 1)
          case measure => have h := HI.out; omega
          case rel => exact ⟨1, by first | rfl | simp [wrap64], ⟨by have h := HI.out; omega⟩, ⟨⟨fun _ => HO.out, fun h => absurd h (by decide), fun h => absurd h (by decide)⟩⟩, HF2⟩
        · have hsz : (0 < a.size) = True := eq_true (by have := of_decide_eq_true h1; omega)
          cases h2 : (bt a 0 == 48)
          · have HO : Aside0 (goodN a = true) := ⟨by unfold goodN; rw [hd, hle, h1, h2]; rfl⟩
            clear hd hle
            go_wp2_with (go_at_call 19; (with_reducible refine (only18_any a num num_plain _).mono ?_); rintro e w2 ⟨rfl, hb⟩; rw [HNum.out]; have HF2 := Aside0.mk (HF.out.on hb); clear hb)
            go_roundg (gk - 1)
            case measure => have h := HI.out; omega
            case rel => exact ⟨1, by first | rfl | simp [wrap64], ⟨by have h := HI.out; omega⟩, ⟨⟨fun _ => HO.out, fun h => absurd h (by decide), fun h => absurd h (by decide)⟩⟩, HF2⟩
          · have HO : Aside0 (goodN a = false) := ⟨by unfold goodN; rw [hd, hle, h1, h2]; rfl⟩
            have HKN : Aside0 (kNum a b c2 = some 4) := ⟨by rw [kNum0 HO.out]; rw [hd]; rfl⟩
            clear hd hle
            go_upto_region 29 with (go_at_call 19; (with_reducible refine (only18_any a num num_plain _).mono ?_); rintro e w2 ⟨rfl, hb⟩; rw [HNum.out]; have HB2 := Aside0.mk (bl_on HF.out.hb hb); clear hb)
            have gg := globS_below HG.out HB2.out 4 (by decide)
            first | go_region_held3 (fun W => W.cell? ⟨4, 0, none⟩ = some (.iface 86 (.pointer (some (E 4)))) ∧ Hid (Below w.heap.size w W)) (first | assumption | exact ⟨cell_on (bl_drew (Below.refl _ _)) gg, Lib.hid (bl_drew (HB2.out))⟩ | fail) (first | fail) | fail
            rename_i hH
            have HBZ := Lib.hid hH.2.out
            clear hH gg
            go_wp2_with fail
            go_ret2
            exact Or.inr (Or.inl ⟨4, HKN.out, rfl, HBZ.out⟩)
    · skip
      obtain ⟨u0, u1, u2, u3, u4, k0, k1, k2, k3, k4⟩ := HF.out.cells
      have a0 := HF.out.a0
      have a1 := HF.out.a1
      have a2 := HF.out.a2
      have f2 := HF.out.f2
      have e1 : (g = V) = False := eq_false (by have := HF.out.ne; omega)
      have e2 : (V = g) = False := eq_false (by have := HF.out.ne; omega)
      cases hd : (L b).all isD
      · have HNum : Aside0 (onlyB num b = false) := ⟨by rw [only_num]; exact hd⟩
        have HO : Aside0 (goodN b = false) := ⟨by unfold goodN; rw [hd]; rfl⟩
        have HKN : Aside0 (kNum a b c2 = some 3) := ⟨by rw [kNum1 (HD.out.1 (by decide)) HO.out]; rw [hd]; rfl⟩
        clear hd
        go_upto_region 27 with (go_at_call 19; (with_reducible refine (only18_any b num num_plain _).mono ?_); rintro e w2 ⟨rfl, hb⟩; rw [HNum.out]; have HB2 := Aside0.mk (bl_on HF.out.hb hb); clear hb)
        have gg := globS_below HG.out HB2.out 3 (by decide)
        first | go_region_held3 (fun W => W.cell? ⟨3, 0, none⟩ = some (.iface 86 (.pointer (some (E 3)))) ∧ Hid (Below w.heap.size w W)) (first | assumption | exact ⟨cell_on (bl_drew (Below.refl _ _)) gg, Lib.hid (bl_drew (HB2.out))⟩ | fail) (first | fail) | fail
        rename_i hH
        have HBZ := Lib.hid hH.2.out
        clear hH gg
        go_wp2_with fail
        go_ret2
        exact Or.inr (Or.inl ⟨3, HKN.out, rfl, HBZ.out⟩)
      · have HNum : Aside0 (onlyB num b = true) := ⟨by rw [only_num]; exact hd⟩
        have hle := lead_L b
        have hbt : ∀ h : 0 < b.size, ((b[0]'h).toNat : Int) = bt b 0 := bt_at b 0
        cases h1 : decide (1 < (b.size : Int))
        · have HO : Aside0 (goodN b = true) := ⟨by unfold goodN; rw [hd, hle, h1]; rfl⟩
          clear hd hle hbt
          go_wp2_with (go_at_call 19; (with_reducible refine (only18_any b num num_plain _).mono ?_); rintro e w2 ⟨rfl, hb⟩; rw [HNum.out]; have HF2 := Aside0.mk (HF.out.on hb); clear hb)
          go_roundg (gk - 1)
          case measure => have h := HI.out; omega
          case rel => exact ⟨2, by first | rfl | simp [wrap64], ⟨by have h := HI.out; omega⟩, ⟨⟨fun _ => HD.out.1 (by decide), fun _ => HO.out, fun h => absurd h (by decide)⟩⟩, HF2⟩
        · have hsz : (0 < b.size) = True := eq_true (by have := of_decide_eq_true h1; omega)
          cases h2 : (bt b 0 == 48)
          · have HO : Aside0 (goodN b = true) := ⟨by unfold goodN; rw [hd, hle, h1, h2]; rfl⟩
            clear hd hle
            go_wp2_with (go_at_call 19; (with_reducible refine (only18_any b num num_plain _).mono ?_); rintro e w2 ⟨rfl, hb⟩; rw [HNum.out]; have HF2 := Aside0.mk (HF.out.on hb); clear hb)
            go_roundg (gk - 1)
            case measure => have h := HI.out; omega
            case rel => exact ⟨2, by first | rfl | simp [wrap64], ⟨by have h := HI.out; omega⟩, ⟨⟨fun _ => HD.out.1 (by decide), fun _ => HO.out, fun h => absurd h (by decide)⟩⟩, HF2⟩
          · have HO : Aside0 (goodN b = false) := ⟨by unfold goodN; rw [hd, hle, h1, h2]; rfl⟩
            have HKN : Aside0 (kNum a b c2 = some 4) := ⟨by rw [kNum1 (HD.out.1 (by decide)) HO.out]; rw [hd]; rfl⟩
            clear hd hle
            go_upto_region 29 with (go_at_call 19; (with_reducible refine (only18_any b num num_plain _).mono ?_); rintro e w2 ⟨rfl, hb⟩; rw [HNum.out]; have HB2 := Aside0.mk (bl_on HF.out.hb hb); clear hb)
            have gg := globS_below HG.out HB2.out 4 (by decide)
            first | go_region_held3 (fun W => W.cell? ⟨4, 0, none⟩ = some (.iface 86 (.pointer (some (E 4)))) ∧ Hid (Below w.heap.size w W)) (first | assumption | exact ⟨cell_on (bl_drew (Below.refl _ _)) gg, Lib.hid (bl_drew (HB2.out))⟩ | fail) (first | fail) | fail
            rename_i hH
            have HBZ := Lib.hid hH.2.out
            clear hH gg
            go_wp2_with fail
            go_ret2
            exact Or.inr (Or.inl ⟨4, HKN.out, rfl, HBZ.out⟩)
    · skip
      obtain ⟨u0, u1, u2, u3, u4, k0, k1, k2, k3, k4⟩ := HF.out.cells
      have a0 := HF.out.a0
      have a1 := HF.out.a1
      have a2 := HF.out.a2
      have f2 := HF.out.f2
      have e1 : (g = V) = False := eq_false (by have := HF.out.ne; omega)
      have e2 : (V = g) = False := eq_false (by have := HF.out.ne; omega)
      cases hd : (L c2).all isD
      · have HNum : Aside0 (onlyB num c2 = false) := ⟨by rw [only_num]; exact hd⟩
        have HO : Aside0 (goodN c2 = false) := ⟨by unfold goodN; rw [hd]; rfl⟩
        have HKN : Aside0 (kNum a b c2 = some 3) := ⟨by rw [kNum2 (HD.out.1 (by decide)) (HD.out.2.1 (by decide)) HO.out]; rw [hd]; rfl⟩
        clear hd
        go_upto_region 27 with (go_at_call 19; (with_reducible refine (only18_any c2 num num_plain _).mono ?_); rintro e w2 ⟨rfl, hb⟩; rw [HNum.out]; have HB2 := Aside0.mk (bl_on HF.out.hb hb); clear hb)
        have gg := globS_below HG.out HB2.out 3 (by decide)
        first | go_region_held3 (fun W => W.cell? ⟨3, 0, none⟩ = some (.iface 86 (.pointer (some (E 3)))) ∧ Hid (Below w.heap.size w W)) (first | assumption | exact ⟨cell_on (bl_drew (Below.refl _ _)) gg, Lib.hid (bl_drew (HB2.out))⟩ | fail) (first | fail) | fail
        rename_i hH
        have HBZ := Lib.hid hH.2.out
        clear hH gg
        go_wp2_with fail
        go_ret2
        exact Or.inr (Or.inl ⟨3, HKN.out, rfl, HBZ.out⟩)
      · have HNum : Aside0 (onlyB num c2 = true) := ⟨by rw [only_num]; exact hd⟩
        have hle := lead_L c2
        have hbt : ∀ h : 0 < c2.size, ((c2[0]'h).toNat : Int) = bt c2 0 := bt_at c2 0
        cases h1 : decide (1 < (c2.size : Int))
        · have HO : Aside0 (goodN c2 = true) := ⟨by unfold goodN; rw [hd, hle, h1]; rfl⟩
          clear hd hle hbt
          go_wp2_with (go_at_call 19; (with_reducible refine (only18_any c2 num num_plain _).mono ?_); rintro e w2 ⟨rfl, hb⟩; rw [HNum.out]; have HF2 := Aside0.mk (HF.out.on hb); clear hb)
          go_roundg (gk - 1)
          case measure => have h := HI.out; omega
          case rel => exact ⟨3, by first | rfl | simp [wrap64], ⟨by have h := HI.out; omega⟩, ⟨⟨fun _ => HD.out.1 (by decide), fun _ => HD.out.2.1 (by decide), fun _ => HO.out⟩⟩, HF2⟩
        · have hsz : (0 < c2.size) = True := eq_true (by have := of_decide_eq_true h1; omega)
          cases h2 : (bt c2 0 == 48)
          · have HO : Aside0 (goodN c2 = true) := ⟨by unfold goodN; rw [hd, hle, h1, h2]; rfl⟩
            clear hd hle
            go_wp2_with (go_at_call 19; (with_reducible refine (only18_any c2 num num_plain _).mono ?_); rintro e w2 ⟨rfl, hb⟩; rw [HNum.out]; have HF2 := Aside0.mk (HF.out.on hb); clear hb)
            go_roundg (gk - 1)
            case measure => have h := HI.out; omega
            case rel => exact ⟨3, by first | rfl | simp [wrap64], ⟨by have h := HI.out; omega⟩, ⟨⟨fun _ => HD.out.1 (by decide), fun _ => HD.out.2.1 (by decide), fun _ => HO.out⟩⟩, HF2⟩
          · have HO : Aside0 (goodN c2 = false) := ⟨by unfold goodN; rw [hd, hle, h1, h2]; rfl⟩
            have HKN : Aside0 (kNum a b c2 = some 4) := ⟨by rw [kNum2 (HD.out.1 (by decide)) (HD.out.2.1 (by decide)) HO.out]; rw [hd]; rfl⟩
            clear hd hle
            go_upto_region 29 with (go_at_call 19; (with_reducible refine (only18_any c2 num num_plain _).mono ?_); rintro e w2 ⟨rfl, hb⟩; rw [HNum.out]; have HB2 := Aside0.mk (bl_on HF.out.hb hb); clear hb)
            have gg := globS_below HG.out HB2.out 4 (by decide)
            first | go_region_held3 (fun W => W.cell? ⟨4, 0, none⟩ = some (.iface 86 (.pointer (some (E 4)))) ∧ Hid (Below w.heap.size w W)) (first | assumption | exact ⟨cell_on (bl_drew (Below.refl _ _)) gg, Lib.hid (bl_drew (HB2.out))⟩ | fail) (first | fail) | fail
            rename_i hH
            have HBZ := Lib.hid hH.2.out
            clear hH gg
            go_wp2_with fail
            go_ret2
            exact Or.inr (Or.inl ⟨4, HKN.out, rfl, HBZ.out⟩)
    · skip
      obtain ⟨u0, u1, u2, u3, u4, k0, k1, k2, k3, k4⟩ := HF.out.cells
      have a0 := HF.out.a0
      have a1 := HF.out.a1
      have a2 := HF.out.a2
      have f2 := HF.out.f2
      have e1 : (g = V) = False := eq_false (by have := HF.out.ne; omega)
      have e2 : (V = g) = False := eq_false (by have := HF.out.ne; omega)
      have HGA := Aside0.mk (HD.out.1 (by decide))
      have HGB := Aside0.mk (HD.out.2.1 (by decide))
      have HGC := Aside0.mk (HD.out.2.2 (by decide))
      by_cases hpa : ∃ u, Lib.parseUintB 64 a.data.toList = .ok u
      · obtain ⟨ua, hua⟩ := hpa
        have HUA := Aside0.mk hua
        clear hua
        go_upto_region 35 with (go_at_call 20; (with_reducible refine (parse_ok a HSA.out.1 ua HUA.out _).mono ?_); rintro e w2 ⟨rfl, hb⟩; have HF0 := Aside0.mk (HF.out.on hb); obtain ⟨u0, u1, u2, u3, u4, k0, k1, k2, k3, k4⟩ := HF0.out.cells; clear hb)
        have HFn := Aside0.mk (HF0.out.pre 0 (.int .u64 ua) ua 0 0 pre mt (fun _ => rfl))
        clear u0 u1 u2 u3 u4 k0 k1 k2 k3 k4 a0 a1 a2 f2 e1 e2
        clear HF HF0
        generalize w2.setCell ⟨V, 0, none⟩ (.int .u64 ua) = wp at HFn ⊢
        have HF := HFn
        clear HFn
        obtain ⟨u0, u1, u2, u3, u4, k0, k1, k2, k3, k4⟩ := HF.out.cells
        have a0 := HF.out.a0
        have a1 := HF.out.a1
        have a2 := HF.out.a2
        have f2 := HF.out.f2
        have e1 : (g = V) = False := eq_false (by have := HF.out.ne; omega)
        have e2 : (V = g) = False := eq_false (by have := HF.out.ne; omega)
        by_cases hpb : ∃ u, Lib.parseUintB 64 b.data.toList = .ok u
        · obtain ⟨ub, hub⟩ := hpb
          have HUB := Aside0.mk hub
          clear hub
          go_upto_region 38 with (go_at_call 20; (with_reducible refine (parse_ok b HSA.out.2.1 ub HUB.out _).mono ?_); rintro e w3 ⟨rfl, hb⟩; have HF0 := Aside0.mk (HF.out.on hb); obtain ⟨u0, u1, u2, u3, u4, k0, k1, k2, k3, k4⟩ := HF0.out.cells; clear hb)
          have HFn := Aside0.mk (HF0.out.pre 1 (.int .u64 ub) ua ub 0 pre mt (fun _ => rfl))
          clear u0 u1 u2 u3 u4 k0 k1 k2 k3 k4 a0 a1 a2 f2 e1 e2
          clear HF HF0
          generalize w3.setCell ⟨V, 1, none⟩ (.int .u64 ub) = wq at HFn ⊢
          have HF := HFn
          clear HFn
          obtain ⟨u0, u1, u2, u3, u4, k0, k1, k2, k3, k4⟩ := HF.out.cells
          have a0 := HF.out.a0
          have a1 := HF.out.a1
          have a2 := HF.out.a2
          have f2 := HF.out.f2
          have e1 : (g = V) = False := eq_false (by have := HF.out.ne; omega)
          have e2 : (V = g) = False := eq_false (by have := HF.out.ne; omega)
          by_cases hpc : ∃ u, Lib.parseUintB 64 c2.data.toList = .ok u
          · obtain ⟨uc, huc⟩ := hpc
            have HUC := Aside0.mk huc
            clear huc
            go_upto_region 41 with (go_at_call 20; (with_reducible refine (parse_ok c2 HSA.out.2.2 uc HUC.out _).mono ?_); rintro e w4 ⟨rfl, hb⟩; have HF0 := Aside0.mk (HF.out.on hb); obtain ⟨u0, u1, u2, u3, u4, k0, k1, k2, k3, k4⟩ := HF0.out.cells; clear hb)
            have HFn := Aside0.mk (HF0.out.pre 2 (.int .u64 uc) ua ub uc pre mt (fun _ => rfl))
            clear u0 u1 u2 u3 u4 k0 k1 k2 k3 k4 a0 a1 a2 f2 e1 e2
            clear HF HF0
            generalize w4.setCell ⟨V, 2, none⟩ (.int .u64 uc) = wr2 at HFn ⊢
            go_wp2
            go_ret2
            exact Or.inl ⟨ua, ub, uc, g, V, numV_ok HGA.out HUA.out, numV_ok HGB.out HUB.out, numV_ok HGC.out HUC.out, rfl, HFn.out⟩
          · have HPC := Aside0.mk (fun u h => hpc ⟨u, h⟩)
            clear hpc
            go_wp2_with (go_at_call 20; (with_reducible refine (parse_err E c2 HSA.out.2.2 HPC.out _ (globE_below HE.out HF.out.hb)).mono ?_); rintro e w4 ⟨vv, NN, rfl, hN, hE, hb⟩; have HNE := Aside0.mk hE; have HNV := Aside0.mk (show NN ≠ V by have h1 := st_lt HF.out; omega); clear hN hE; have HF0 := Aside0.mk (HF.out.on hb); obtain ⟨u0, u1, u2, u3, u4, k0, k1, k2, k3, k4⟩ := HF0.out.cells; clear hb)
            go_ret2
            exact Or.inr (Or.inr ⟨kNum_none HGA.out HGB.out HGC.out, Or.inr (Or.inr (numV_err HPC.out)), NN, rfl, numErr_set HNE.out HNV.out, bl_set HF0.out.hb (Nat.le_trans HF0.out.lo (Nat.le_of_lt HF0.out.ne)) _⟩)
        · have HPB := Aside0.mk (fun u h => hpb ⟨u, h⟩)
          clear hpb
          go_wp2_with (go_at_call 20; (with_reducible refine (parse_err E b HSA.out.2.1 HPB.out _ (globE_below HE.out HF.out.hb)).mono ?_); rintro e w4 ⟨vv, NN, rfl, hN, hE, hb⟩; have HNE := Aside0.mk hE; have HNV := Aside0.mk (show NN ≠ V by have h1 := st_lt HF.out; omega); clear hN hE; have HF0 := Aside0.mk (HF.out.on hb); obtain ⟨u0, u1, u2, u3, u4, k0, k1, k2, k3, k4⟩ := HF0.out.cells; clear hb)
          go_ret2
          exact Or.inr (Or.inr ⟨kNum_none HGA.out HGB.out HGC.out, Or.inr (Or.inl (numV_err HPB.out)), NN, rfl, numErr_set HNE.out HNV.out, bl_set HF0.out.hb (Nat.le_trans HF0.out.lo (Nat.le_of_lt HF0.out.ne)) _⟩)
      · have HPA := Aside0.mk (fun u h => hpa ⟨u, h⟩)
        clear hpa
        go_wp2_with (go_at_call 20; (with_reducible refine (parse_err E a HSA.out.1 HPA.out _ (globE_below HE.out HF.out.hb)).mono ?_); rintro e w4 ⟨vv, NN, rfl, hN, hE, hb⟩; have HNE := Aside0.mk hE; have HNV := Aside0.mk (show NN ≠ V by have h1 := st_lt HF.out; omega); clear hN hE; have HF0 := Aside0.mk (HF.out.on hb); obtain ⟨u0, u1, u2, u3, u4, k0, k1, k2, k3, k4⟩ := HF0.out.cells; clear hb)
        go_ret2
        exact Or.inr (Or.inr ⟨kNum_none HGA.out HGB.out HGC.out, Or.inl (numV_err HPA.out), NN, rfl, numErr_set HNE.out HNV.out, bl_set HF0.out.hb (Nat.le_trans HF0.out.lo (Nat.le_of_lt HF0.out.ne)) _⟩)
set_option maxHeartbeats 16000000 in
set_option maxRecDepth 100000 in
theorem strict_e3 (E : Nat → Addr) (s : ByteArray) (a b c0 c1 mt : ByteArray) (ks kp1 kp2 kp3 : Nat) (psp : List ByteArray) (hz : ((s.size : Int) == 0) = false) (hl : decide (256 < (s.size : Int)) = false) (Aspl : semver_zzSplitN.f ks s ⟨#[46]⟩ 3 = some [a, b, c0]) (Ap1 : semver_zzContains.f kp1 c0 ⟨#[43]⟩ = some true) (Ap2 : semver_zzSplitN.f kp2 c0 ⟨#[43]⟩ 2 = some [c1, mt]) (Ap3 : semver_zzSplit.f kp3 mt ⟨#[46]⟩ = some psp) (Ap4 : psp.length ≤ 2147483647) (Ap5 : psp.all okM = false) (w : World) (hG : GlobS E w) (hE : GlobE E w) :
    Calls Tryd.prog 7 #[.string s] w (PostE E 6 w) := by
  have HG := Aside0.mk hG
  have HE := Aside0.mk hE
  clear hG hE
  have HSPL := Aside0.mk Aspl
  clear Aspl
  have HP1 := Aside0.mk Ap1
  clear Ap1
  have HP2 := Aside0.mk Ap2
  clear Ap2
  have HP3 := Aside0.mk Ap3
  clear Ap3
  have HP4 := Aside0.mk Ap4
  clear Ap4
  have HP5 := Aside0.mk Ap5
  clear Ap5
  go_enter Tryd.func7, Tryd.ntmps7
  go_upto_region 9 with (go_at_call 15; (with_reducible refine (semver_zzSplitN.calls ks s ⟨#[46]⟩ 3 [a, b, c0] _ HSPL.out).mono ?_); rintro e w1 ⟨v, rfl, hR, hb⟩; obtain ⟨g, cap, e1, hg, hgl, -⟩ := Kd.R_form hR (by simp); subst e1; have HR := Aside0.mk hR; have HB := Aside0.mk hb; have HGL := Aside0.mk (And.intro hg hgl); clear hR hb hg hgl)
  have HF := Aside0.mk (st_start (s := s) HR.out HB.out HGL.out.1 HGL.out.2)
  clear HR HGL
  generalize w1.alloc (.cells #[.int .u64 0, .int .u64 0, .int .u64 0, .string ⟨#[]⟩, .string ⟨#[]⟩, .string s] 42) = W0 at HF ⊢
  generalize w1.heap.size = V at HF ⊢
  obtain ⟨u0, u1, u2, u3, u4, k0, k1, k2, k3, k4⟩ := HF.out.cells
  have a0 := HF.out.a0
  have a1 := HF.out.a1
  have a2 := HF.out.a2
  have f2 := HF.out.f2
  have e1 : (g = V) = False := eq_false (by have := HF.out.ne; omega)
  have e2 : (V = g) = False := eq_false (by have := HF.out.ne; omega)
  go_upto_region 10 with (go_at_call 16; (with_reducible refine (semver_zzContains.calls kp1 c0 ⟨#[43]⟩ true _ HP1.out).mono ?_); rintro e w2 ⟨rfl, hd⟩; have HF0 := Aside0.mk (HF.out.on (drawn_below hd)); clear hd)
  clear u0 u1 u2 u3 u4 k0 k1 k2 k3 k4 a0 a1 a2 f2 e1 e2
  clear HF
  have HF := HF0
  clear HF0
  obtain ⟨u0, u1, u2, u3, u4, k0, k1, k2, k3, k4⟩ := HF.out.cells
  have a0 := HF.out.a0
  have a1 := HF.out.a1
  have a2 := HF.out.a2
  have f2 := HF.out.f2
  have e1 : (g = V) = False := eq_false (by have := HF.out.ne; omega)
  have e2 : (V = g) = False := eq_false (by have := HF.out.ne; omega)
  go_upto_region 11 with (go_at_call 15; (with_reducible refine (semver_zzSplitN.calls kp2 c0 ⟨#[43]⟩ 2 [c1, mt] _ HP2.out).mono ?_); rintro e wx ⟨v, rfl, hR, hb⟩; obtain ⟨gx, capp, ex, hg, hgl, -⟩ := Kd.R_form hR (by simp); subst ex; have x0 := (Kd.R_cell ByteArray.empty hR 0 (by decide) (by simp)).1; have x1 := (Kd.R_cell ByteArray.empty hR 1 (by decide) (by simp)).1; have HX := Aside0.mk (show g < gx ∧ V < gx from ⟨Nat.lt_of_lt_of_le (World.block_lt_of_cell? _ _ a0) hg, Nat.lt_of_lt_of_le (World.block_lt_of_cell? _ _ u0) hg⟩); have HF0 := Aside0.mk (HF.out.on hb); clear hR hb hg hgl)
  clear u0 u1 u2 u3 u4 k0 k1 k2 k3 k4 a0 a1 a2 f2 e1 e2
  clear HF
  have HF := HF0
  clear HF0
  obtain ⟨u0, u1, u2, u3, u4, k0, k1, k2, k3, k4⟩ := HF.out.cells
  have a0 := HF.out.a0
  have a1 := HF.out.a1
  have a2 := HF.out.a2
  have f2 := HF.out.f2
  have e1 : (g = V) = False := eq_false (by have := HF.out.ne; omega)
  have e2 : (V = g) = False := eq_false (by have := HF.out.ne; omega)
  have y0 : wx.cell? ⟨gx, 0, none⟩ = some (.string c1) := x0
  have y1 : wx.cell? ⟨gx, 1, none⟩ = some (.string mt) := x1
  clear x0 x1
  go_upto_region 12 with fail
  have HFn := Aside0.mk (HF.out.pre 4 (.string mt) 0 0 0 ⟨#[]⟩ mt (fun _ => rfl))
  have z0 := cell_far (u := .string mt) (p := ⟨V, 4, none⟩) (fun ee => by have h1 := HX.out.2; have h2 := congrArg Addr.block ee; simp at h2; omega) y0
  clear u0 u1 u2 u3 u4 k0 k1 k2 k3 k4 a0 a1 a2 f2 e1 e2
  clear HF y0 y1
  generalize wx.setCell ⟨V, 4, none⟩ (.string mt) = wy at HFn z0 ⊢
  have HF := HFn
  clear HFn
  obtain ⟨u0, u1, u2, u3, u4, k0, k1, k2, k3, k4⟩ := HF.out.cells
  have a0 := HF.out.a0
  have a1 := HF.out.a1
  have a2 := HF.out.a2
  have f2 := HF.out.f2
  have e1 : (g = V) = False := eq_false (by have := HF.out.ne; omega)
  have e2 : (V = g) = False := eq_false (by have := HF.out.ne; omega)
  go_upto_region 13 with fail
  have HFn := Aside0.mk (HF.out.part c1)
  clear u0 u1 u2 u3 u4 k0 k1 k2 k3 k4 a0 a1 a2 f2 e1 e2
  clear HF z0 HX
  generalize wy.setCell ⟨g, 2, none⟩ (.string c1) = wz at HFn ⊢
  have HF := HFn
  clear HFn
  obtain ⟨u0, u1, u2, u3, u4, k0, k1, k2, k3, k4⟩ := HF.out.cells
  have a0 := HF.out.a0
  have a1 := HF.out.a1
  have a2 := HF.out.a2
  have f2 := HF.out.f2
  have e1 : (g = V) = False := eq_false (by have := HF.out.ne; omega)
  have e2 : (V = g) = False := eq_false (by have := HF.out.ne; omega)
  go_wp2_with (go_at_call 17; (with_reducible refine (meta16 mt kp3 psp HP3.out HP4.out E _ (globS_below HG.out HF.out.hb)).mono ?_); rintro e wc ⟨hr, hb⟩; obtain rfl := (show e = .returned (.iface 86 (.pointer (some (E 6)))) from res_bad HP5.out hr); have HF0 := Aside0.mk (HF.out.on hb); clear hr hb)
  go_ret2
  exact ⟨rfl, HF0.out.hb⟩
set_option maxHeartbeats 16000000 in
set_option maxRecDepth 100000 in
theorem strict_e4 (E : Nat → Addr) (s : ByteArray) (a b c0 c2 pre : ByteArray) (ks kp1 km1 km2 km3 : Nat) (psm : List ByteArray) (hz : ((s.size : Int) == 0) = false) (hl : decide (256 < (s.size : Int)) = false) (Aspl : semver_zzSplitN.f ks s ⟨#[46]⟩ 3 = some [a, b, c0]) (Ap1 : semver_zzContains.f kp1 c0 ⟨#[43]⟩ = some false) (Am1 : semver_zzContains.f km1 c0 ⟨#[45]⟩ = some true) (Am2 : semver_zzSplitN.f km2 c0 ⟨#[45]⟩ 2 = some [c2, pre]) (Am3 : semver_zzSplit.f km3 pre ⟨#[46]⟩ = some psm) (Am4 : psm.length ≤ 2147483647) (Am5 : psm.all okP = false) (w : World) (hG : GlobS E w) (hE : GlobE E w) :
    Calls Tryd.prog 7 #[.string s] w (PostE E (kPre psm) w) := by
  have HG := Aside0.mk hG
  have HE := Aside0.mk hE
  clear hG hE
  have HSPL := Aside0.mk Aspl
  clear Aspl
  have HP1 := Aside0.mk Ap1
  clear Ap1
  have HM1 := Aside0.mk Am1
  clear Am1
  have HM2 := Aside0.mk Am2
  clear Am2
  have HM3 := Aside0.mk Am3
  clear Am3
  have HM4 := Aside0.mk Am4
  clear Am4
  have HM5 := Aside0.mk Am5
  clear Am5
  go_enter Tryd.func7, Tryd.ntmps7
  go_upto_region 9 with (go_at_call 15; (with_reducible refine (semver_zzSplitN.calls ks s ⟨#[46]⟩ 3 [a, b, c0] _ HSPL.out).mono ?_); rintro e w1 ⟨v, rfl, hR, hb⟩; obtain ⟨g, cap, e1, hg, hgl, -⟩ := Kd.R_form hR (by simp); subst e1; have HR := Aside0.mk hR; have HB := Aside0.mk hb; have HGL := Aside0.mk (And.intro hg hgl); clear hR hb hg hgl)
  have HF := Aside0.mk (st_start (s := s) HR.out HB.out HGL.out.1 HGL.out.2)
  clear HR HGL
  generalize w1.alloc (.cells #[.int .u64 0, .int .u64 0, .int .u64 0, .string ⟨#[]⟩, .string ⟨#[]⟩, .string s] 42) = W0 at HF ⊢
  generalize w1.heap.size = V at HF ⊢
  obtain ⟨u0, u1, u2, u3, u4, k0, k1, k2, k3, k4⟩ := HF.out.cells
  have a0 := HF.out.a0
  have a1 := HF.out.a1
  have a2 := HF.out.a2
  have f2 := HF.out.f2
  have e1 : (g = V) = False := eq_false (by have := HF.out.ne; omega)
  have e2 : (V = g) = False := eq_false (by have := HF.out.ne; omega)
  go_upto_region 16 with (go_at_call 16; (with_reducible refine (semver_zzContains.calls kp1 c0 ⟨#[43]⟩ false _ HP1.out).mono ?_); rintro e w2 ⟨rfl, hd⟩; have HF0 := Aside0.mk (HF.out.on (drawn_below hd)); clear hd)
  clear u0 u1 u2 u3 u4 k0 k1 k2 k3 k4 a0 a1 a2 f2 e1 e2
  clear HF
  have HF := HF0
  clear HF0
  obtain ⟨u0, u1, u2, u3, u4, k0, k1, k2, k3, k4⟩ := HF.out.cells
  have a0 := HF.out.a0
  have a1 := HF.out.a1
  have a2 := HF.out.a2
  have f2 := HF.out.f2
  have e1 : (g = V) = False := eq_false (by have := HF.out.ne; omega)
  have e2 : (V = g) = False := eq_false (by have := HF.out.ne; omega)
  go_upto_region 17 with (go_at_call 16; (with_reducible refine (semver_zzContains.calls km1 c0 ⟨#[45]⟩ true _ HM1.out).mono ?_); rintro e w2 ⟨rfl, hd⟩; have HF0 := Aside0.mk (HF.out.on (drawn_below hd)); clear hd)
  clear u0 u1 u2 u3 u4 k0 k1 k2 k3 k4 a0 a1 a2 f2 e1 e2
  clear HF
  have HF := HF0
  clear HF0
  obtain ⟨u0, u1, u2, u3, u4, k0, k1, k2, k3, k4⟩ := HF.out.cells
  have a0 := HF.out.a0
  have a1 := HF.out.a1
  have a2 := HF.out.a2
  have f2 := HF.out.f2
  have e1 : (g = V) = False := eq_false (by have := HF.out.ne; omega)
  have e2 : (V = g) = False := eq_false (by have := HF.out.ne; omega)
  go_upto_region 18 with (go_at_call 15; (with_reducible refine (semver_zzSplitN.calls km2 c0 ⟨#[45]⟩ 2 [c2, pre] _ HM2.out).mono ?_); rintro e wx ⟨v, rfl, hR, hb⟩; obtain ⟨gx, capm, ex, hg, hgl, -⟩ := Kd.R_form hR (by simp); subst ex; have x0 := (Kd.R_cell ByteArray.empty hR 0 (by decide) (by simp)).1; have x1 := (Kd.R_cell ByteArray.empty hR 1 (by decide) (by simp)).1; have HX := Aside0.mk (show g < gx ∧ V < gx from ⟨Nat.lt_of_lt_of_le (World.block_lt_of_cell? _ _ a0) hg, Nat.lt_of_lt_of_le (World.block_lt_of_cell? _ _ u0) hg⟩); have HF0 := Aside0.mk (HF.out.on hb); clear hR hb hg hgl)
  clear u0 u1 u2 u3 u4 k0 k1 k2 k3 k4 a0 a1 a2 f2 e1 e2
  clear HF
  have HF := HF0
  clear HF0
  obtain ⟨u0, u1, u2, u3, u4, k0, k1, k2, k3, k4⟩ := HF.out.cells
  have a0 := HF.out.a0
  have a1 := HF.out.a1
  have a2 := HF.out.a2
  have f2 := HF.out.f2
  have e1 : (g = V) = False := eq_false (by have := HF.out.ne; omega)
  have e2 : (V = g) = False := eq_false (by have := HF.out.ne; omega)
  have y0 : wx.cell? ⟨gx, 0, none⟩ = some (.string c2) := x0
  have y1 : wx.cell? ⟨gx, 1, none⟩ = some (.string pre) := x1
  clear x0 x1
  go_upto_region 19 with fail
  have HFn := Aside0.mk (HF.out.pre 3 (.string pre) 0 0 0 pre ⟨#[]⟩ (fun _ => rfl))
  have z0 := cell_far (u := .string pre) (p := ⟨V, 3, none⟩) (fun ee => by have h1 := HX.out.2; have h2 := congrArg Addr.block ee; simp at h2; omega) y0
  clear u0 u1 u2 u3 u4 k0 k1 k2 k3 k4 a0 a1 a2 f2 e1 e2
  clear HF y0 y1
  generalize wx.setCell ⟨V, 3, none⟩ (.string pre) = wy at HFn z0 ⊢
  have HF := HFn
  clear HFn
  obtain ⟨u0, u1, u2, u3, u4, k0, k1, k2, k3, k4⟩ := HF.out.cells
  have a0 := HF.out.a0
  have a1 := HF.out.a1
  have a2 := HF.out.a2
  have f2 := HF.out.f2
  have e1 : (g = V) = False := eq_false (by have := HF.out.ne; omega)
  have e2 : (V = g) = False := eq_false (by have := HF.out.ne; omega)
  go_upto_region 20 with fail
  have HFn := Aside0.mk (HF.out.part c2)
  clear u0 u1 u2 u3 u4 k0 k1 k2 k3 k4 a0 a1 a2 f2 e1 e2
  clear HF z0 HX
  generalize wy.setCell ⟨g, 2, none⟩ (.string c2) = wz at HFn ⊢
  have HF := HFn
  clear HFn
  obtain ⟨u0, u1, u2, u3, u4, k0, k1, k2, k3, k4⟩ := HF.out.cells
  have a0 := HF.out.a0
  have a1 := HF.out.a1
  have a2 := HF.out.a2
  have f2 := HF.out.f2
  have e1 : (g = V) = False := eq_false (by have := HF.out.ne; omega)
  have e2 : (V = g) = False := eq_false (by have := HF.out.ne; omega)
  go_wp2_with (go_at_call 18; (with_reducible refine (pre17 pre km3 psm HM3.out HM4.out E _ (globS_below HG.out HF.out.hb)).mono ?_); rintro e wc ⟨hr, hb⟩; obtain rfl := (show e = .returned (.iface 86 (.pointer (some (E (kPre psm))))) from res_bad HM5.out hr); have HF0 := Aside0.mk (HF.out.on hb); clear hr hb)
  go_ret2
  exact ⟨rfl, HF0.out.hb⟩
set_option maxHeartbeats 16000000 in
set_option maxRecDepth 100000 in
theorem strict_e5 (E : Nat → Addr) (s : ByteArray) (a b c0 c1 mt c2 pre : ByteArray) (ks kp1 kp2 kp3 km1 km2 km3 : Nat) (psp psm : List ByteArray) (hz : ((s.size : Int) == 0) = false) (hl : decide (256 < (s.size : Int)) = false) (Aspl : semver_zzSplitN.f ks s ⟨#[46]⟩ 3 = some [a, b, c0]) (Ap1 : semver_zzContains.f kp1 c0 ⟨#[43]⟩ = some true) (Ap2 : semver_zzSplitN.f kp2 c0 ⟨#[43]⟩ 2 = some [c1, mt]) (Ap3 : semver_zzSplit.f kp3 mt ⟨#[46]⟩ = some psp) (Ap4 : psp.length ≤ 2147483647) (Ap5 : psp.all okM = true) (Am1 : semver_zzContains.f km1 c1 ⟨#[45]⟩ = some true) (Am2 : semver_zzSplitN.f km2 c1 ⟨#[45]⟩ 2 = some [c2, pre]) (Am3 : semver_zzSplit.f km3 pre ⟨#[46]⟩ = some psm) (Am4 : psm.length ≤ 2147483647) (Am5 : psm.all okP = false) (w : World) (hG : GlobS E w) (hE : GlobE E w) :
    Calls Tryd.prog 7 #[.string s] w (PostE E (kPre psm) w) := by
  have HG := Aside0.mk hG
  have HE := Aside0.mk hE
  clear hG hE
  have HSPL := Aside0.mk Aspl
  clear Aspl
  have HP1 := Aside0.mk Ap1
  clear Ap1
  have HP2 := Aside0.mk Ap2
  clear Ap2
  have HP3 := Aside0.mk Ap3
  clear Ap3
  have HP4 := Aside0.mk Ap4
  clear Ap4
  have HP5 := Aside0.mk Ap5
  clear Ap5
  have HM1 := Aside0.mk Am1
  clear Am1
  have HM2 := Aside0.mk Am2
  clear Am2
  have HM3 := Aside0.mk Am3
  clear Am3
  have HM4 := Aside0.mk Am4
  clear Am4
  have HM5 := Aside0.mk Am5
  clear Am5
  go_enter Tryd.func7, Tryd.ntmps7
  go_upto_region 9 with (go_at_call 15; (with_reducible refine (semver_zzSplitN.calls ks s ⟨#[46]⟩ 3 [a, b, c0] _ HSPL.out).mono ?_); rintro e w1 ⟨v, rfl, hR, hb⟩; obtain ⟨g, cap, e1, hg, hgl, -⟩ := Kd.R_form hR (by simp); subst e1; have HR := Aside0.mk hR; have HB := Aside0.mk hb; have HGL := Aside0.mk (And.intro hg hgl); clear hR hb hg hgl)
  have HF := Aside0.mk (st_start (s := s) HR.out HB.out HGL.out.1 HGL.out.2)
  clear HR HGL
  generalize w1.alloc (.cells #[.int .u64 0, .int .u64 0, .int .u64 0, .string ⟨#[]⟩, .string ⟨#[]⟩, .string s] 42) = W0 at HF ⊢
  generalize w1.heap.size = V at HF ⊢
  obtain ⟨u0, u1, u2, u3, u4, k0, k1, k2, k3, k4⟩ := HF.out.cells
  have a0 := HF.out.a0
  have a1 := HF.out.a1
  have a2 := HF.out.a2
  have f2 := HF.out.f2
  have e1 : (g = V) = False := eq_false (by have := HF.out.ne; omega)
  have e2 : (V = g) = False := eq_false (by have := HF.out.ne; omega)
  go_upto_region 10 with (go_at_call 16; (with_reducible refine (semver_zzContains.calls kp1 c0 ⟨#[43]⟩ true _ HP1.out).mono ?_); rintro e w2 ⟨rfl, hd⟩; have HF0 := Aside0.mk (HF.out.on (drawn_below hd)); clear hd)
  clear u0 u1 u2 u3 u4 k0 k1 k2 k3 k4 a0 a1 a2 f2 e1 e2
  clear HF
  have HF := HF0
  clear HF0
  obtain ⟨u0, u1, u2, u3, u4, k0, k1, k2, k3, k4⟩ := HF.out.cells
  have a0 := HF.out.a0
  have a1 := HF.out.a1
  have a2 := HF.out.a2
  have f2 := HF.out.f2
  have e1 : (g = V) = False := eq_false (by have := HF.out.ne; omega)
  have e2 : (V = g) = False := eq_false (by have := HF.out.ne; omega)
  go_upto_region 11 with (go_at_call 15; (with_reducible refine (semver_zzSplitN.calls kp2 c0 ⟨#[43]⟩ 2 [c1, mt] _ HP2.out).mono ?_); rintro e wx ⟨v, rfl, hR, hb⟩; obtain ⟨gx, capp, ex, hg, hgl, -⟩ := Kd.R_form hR (by simp); subst ex; have x0 := (Kd.R_cell ByteArray.empty hR 0 (by decide) (by simp)).1; have x1 := (Kd.R_cell ByteArray.empty hR 1 (by decide) (by simp)).1; have HX := Aside0.mk (show g < gx ∧ V < gx from ⟨Nat.lt_of_lt_of_le (World.block_lt_of_cell? _ _ a0) hg, Nat.lt_of_lt_of_le (World.block_lt_of_cell? _ _ u0) hg⟩); have HF0 := Aside0.mk (HF.out.on hb); clear hR hb hg hgl)
  clear u0 u1 u2 u3 u4 k0 k1 k2 k3 k4 a0 a1 a2 f2 e1 e2
  clear HF
  have HF := HF0
  clear HF0
  obtain ⟨u0, u1, u2, u3, u4, k0, k1, k2, k3, k4⟩ := HF.out.cells
  have a0 := HF.out.a0
  have a1 := HF.out.a1
  have a2 := HF.out.a2
  have f2 := HF.out.f2
  have e1 : (g = V) = False := eq_false (by have := HF.out.ne; omega)
  have e2 : (V = g) = False := eq_false (by have := HF.out.ne; omega)
  have y0 : wx.cell? ⟨gx, 0, none⟩ = some (.string c1) := x0
  have y1 : wx.cell? ⟨gx, 1, none⟩ = some (.string mt) := x1
  clear x0 x1
  go_upto_region 12 with fail
  have HFn := Aside0.mk (HF.out.pre 4 (.string mt) 0 0 0 ⟨#[]⟩ mt (fun _ => rfl))
  have z0 := cell_far (u := .string mt) (p := ⟨V, 4, none⟩) (fun ee => by have h1 := HX.out.2; have h2 := congrArg Addr.block ee; simp at h2; omega) y0
  clear u0 u1 u2 u3 u4 k0 k1 k2 k3 k4 a0 a1 a2 f2 e1 e2
  clear HF y0 y1
  generalize wx.setCell ⟨V, 4, none⟩ (.string mt) = wy at HFn z0 ⊢
  have HF := HFn
  clear HFn
  obtain ⟨u0, u1, u2, u3, u4, k0, k1, k2, k3, k4⟩ := HF.out.cells
  have a0 := HF.out.a0
  have a1 := HF.out.a1
  have a2 := HF.out.a2
  have f2 := HF.out.f2
  have e1 : (g = V) = False := eq_false (by have := HF.out.ne; omega)
  have e2 : (V = g) = False := eq_false (by have := HF.out.ne; omega)
  go_upto_region 13 with fail
  have HFn := Aside0.mk (HF.out.part c1)
  clear u0 u1 u2 u3 u4 k0 k1 k2 k3 k4 a0 a1 a2 f2 e1 e2
  clear HF z0 HX
  generalize wy.setCell ⟨g, 2, none⟩ (.string c1) = wz at HFn ⊢
  have HF := HFn
  clear HFn
  obtain ⟨u0, u1, u2, u3, u4, k0, k1, k2, k3, k4⟩ := HF.out.cells
  have a0 := HF.out.a0
  have a1 := HF.out.a1
  have a2 := HF.out.a2
  have f2 := HF.out.f2
  have e1 : (g = V) = False := eq_false (by have := HF.out.ne; omega)
  have e2 : (V = g) = False := eq_false (by have := HF.out.ne; omega)
  go_upto_region 16 with (go_at_call 17; (with_reducible refine (meta16 mt kp3 psp HP3.out HP4.out E _ (globS_below HG.out HF.out.hb)).mono ?_); rintro e wc ⟨hr, hb⟩; obtain rfl := res_ok HP5.out hr; have HF0 := Aside0.mk (HF.out.on hb); clear hr hb)
  clear u0 u1 u2 u3 u4 k0 k1 k2 k3 k4 a0 a1 a2 f2 e1 e2
  clear HF
  have HF := HF0
  clear HF0
  obtain ⟨u0, u1, u2, u3, u4, k0, k1, k2, k3, k4⟩ := HF.out.cells
  have a0 := HF.out.a0
  have a1 := HF.out.a1
  have a2 := HF.out.a2
  have f2 := HF.out.f2
  have e1 : (g = V) = False := eq_false (by have := HF.out.ne; omega)
  have e2 : (V = g) = False := eq_false (by have := HF.out.ne; omega)
  go_upto_region 17 with (go_at_call 16; (with_reducible refine (semver_zzContains.calls km1 c1 ⟨#[45]⟩ true _ HM1.out).mono ?_); rintro e w2 ⟨rfl, hd⟩; have HF0 := Aside0.mk (HF.out.on (drawn_below hd)); clear hd)
  clear u0 u1 u2 u3 u4 k0 k1 k2 k3 k4 a0 a1 a2 f2 e1 e2
  clear HF
  have HF := HF0
  clear HF0
  obtain ⟨u0, u1, u2, u3, u4, k0, k1, k2, k3, k4⟩ := HF.out.cells
  have a0 := HF.out.a0
  have a1 := HF.out.a1
  have a2 := HF.out.a2
  have f2 := HF.out.f2
  have e1 : (g = V) = False := eq_false (by have := HF.out.ne; omega)
  have e2 : (V = g) = False := eq_false (by have := HF.out.ne; omega)
  go_upto_region 18 with (go_at_call 15; (with_reducible refine (semver_zzSplitN.calls km2 c1 ⟨#[45]⟩ 2 [c2, pre] _ HM2.out).mono ?_); rintro e wx ⟨v, rfl, hR, hb⟩; obtain ⟨gx, capm, ex, hg, hgl, -⟩ := Kd.R_form hR (by simp); subst ex; have x0 := (Kd.R_cell ByteArray.empty hR 0 (by decide) (by simp)).1; have x1 := (Kd.R_cell ByteArray.empty hR 1 (by decide) (by simp)).1; have HX := Aside0.mk (show g < gx ∧ V < gx from ⟨Nat.lt_of_lt_of_le (World.block_lt_of_cell? _ _ a0) hg, Nat.lt_of_lt_of_le (World.block_lt_of_cell? _ _ u0) hg⟩); have HF0 := Aside0.mk (HF.out.on hb); clear hR hb hg hgl)
  clear u0 u1 u2 u3 u4 k0 k1 k2 k3 k4 a0 a1 a2 f2 e1 e2
  clear HF
  have HF := HF0
  clear HF0
  obtain ⟨u0, u1, u2, u3, u4, k0, k1, k2, k3, k4⟩ := HF.out.cells
  have a0 := HF.out.a0
  have a1 := HF.out.a1
  have a2 := HF.out.a2
  have f2 := HF.out.f2
  have e1 : (g = V) = False := eq_false (by have := HF.out.ne; omega)
  have e2 : (V = g) = False := eq_false (by have := HF.out.ne; omega)
  have y0 : wx.cell? ⟨gx, 0, none⟩ = some (.string c2) := x0
  have y1 : wx.cell? ⟨gx, 1, none⟩ = some (.string pre) := x1
  clear x0 x1
  go_upto_region 19 with fail
  have HFn := Aside0.mk (HF.out.pre 3 (.string pre) 0 0 0 pre mt (fun _ => rfl))
  have z0 := cell_far (u := .string pre) (p := ⟨V, 3, none⟩) (fun ee => by have h1 := HX.out.2; have h2 := congrArg Addr.block ee; simp at h2; omega) y0
  clear u0 u1 u2 u3 u4 k0 k1 k2 k3 k4 a0 a1 a2 f2 e1 e2
  clear HF y0 y1
  generalize wx.setCell ⟨V, 3, none⟩ (.string pre) = wy at HFn z0 ⊢
  have HF := HFn
  clear HFn
  obtain ⟨u0, u1, u2, u3, u4, k0, k1, k2, k3, k4⟩ := HF.out.cells
  have a0 := HF.out.a0
  have a1 := HF.out.a1
  have a2 := HF.out.a2
  have f2 := HF.out.f2
  have e1 : (g = V) = False := eq_false (by have := HF.out.ne; omega)
  have e2 : (V = g) = False := eq_false (by have := HF.out.ne; omega)
  go_upto_region 20 with fail
  have HFn := Aside0.mk (HF.out.part c2)
  clear u0 u1 u2 u3 u4 k0 k1 k2 k3 k4 a0 a1 a2 f2 e1 e2
  clear HF z0 HX
  generalize wy.setCell ⟨g, 2, none⟩ (.string c2) = wz at HFn ⊢
  have HF := HFn
  clear HFn
  obtain ⟨u0, u1, u2, u3, u4, k0, k1, k2, k3, k4⟩ := HF.out.cells
  have a0 := HF.out.a0
  have a1 := HF.out.a1
  have a2 := HF.out.a2
  have f2 := HF.out.f2
  have e1 : (g = V) = False := eq_false (by have := HF.out.ne; omega)
  have e2 : (V = g) = False := eq_false (by have := HF.out.ne; omega)
  go_wp2_with (go_at_call 18; (with_reducible refine (pre17 pre km3 psm HM3.out HM4.out E _ (globS_below HG.out HF.out.hb)).mono ?_); rintro e wc ⟨hr, hb⟩; obtain rfl := (show e = .returned (.iface 86 (.pointer (some (E (kPre psm))))) from res_bad HM5.out hr); have HF0 := Aside0.mk (HF.out.on hb); clear hr hb)
  go_ret2
  exact ⟨rfl, HF0.out.hb⟩
end Go.Proofs.YtmbdpkaplnjopaaDoor
