/-
  The checks of metadata and of prereleases, walked.
-/
import Derived.Test.YtmbdpkaplnjopaaDoorOnl2
import Derived.Test.YtmbdpkaplnjopaaDoorGram
import Derived.Test.YtmbdpkaplnjopaaDoorPFnSemverStrictKindx1
set_option linter.unusedVariables false
set_option linter.unusedSimpArgs false
namespace Go.Proofs.YtmbdpkaplnjopaaDoor
open Go Go.RowKit Go.Proofs.YtmbdpkaplnjopaaDoorW.PrintWords Go.Proofs.YtmbdpkaplnjopaaDoorW.PrintLast Go.Proofs.YtmbdpkaplnjopaaDoor.PFnSemverStrictKind Go.Proofs.YtmbdpkaplnjopaaDoor.Gram

abbrev L (s : ByteArray) : List UInt8 := s.data.toList
theorem L_len (s : ByteArray) : (L s).length = s.size := (Lib.size_eq s).symm
theorem L_ext {s t : ByteArray} (h : L s = L t) : s = t := ByteArray.ext (Array.ext' h)
theorem toList_L (s : ByteArray) : s.toList = L s := Lib.toList_data s
abbrev alw : ByteArray := ⟨#[97, 98, 99, 100, 101, 102, 103, 104, 105, 106, 107, 108, 109, 110, 111, 112, 113, 114, 115, 116, 117, 118, 119, 120, 121, 122, 65, 66, 67, 68, 69, 70, 71, 72, 73, 74, 75, 76, 77, 78, 79, 80, 81, 82, 83, 84, 85, 86, 87, 88, 89, 90, 45, 48, 49, 50, 51, 52, 53, 54, 55, 56, 57]⟩
abbrev num : ByteArray := ⟨#[48, 49, 50, 51, 52, 53, 54, 55, 56, 57]⟩
theorem alw_plain : Plain alw := by unfold Plain; decide +kernel
theorem num_plain : Plain num := by unfold Plain; decide +kernel
theorem alw_has : ∀ n : Fin 256, hasR alw (n.val : Int) = isId (UInt8.ofNat n.val) := by decide +kernel
theorem num_has : ∀ n : Fin 256, hasR num (n.val : Int) = isD (UInt8.ofNat n.val) := by decide +kernel
theorem alw_byte (b : UInt8) : hasR alw (b.toNat : Int) = isId b := by
  have h := alw_has ⟨b.toNat, b.toNat_lt⟩
  simpa using h
theorem num_byte (b : UInt8) : hasR num (b.toNat : Int) = isD b := by
  have h := num_has ⟨b.toNat, b.toNat_lt⟩
  simpa using h
theorem only_alw (s : ByteArray) : onlyB alw s = (L s).all isId := by
  unfold onlyB
  congr 1
  funext b
  exact alw_byte b
theorem only_num (s : ByteArray) : onlyB num s = (L s).all isD := by
  unfold onlyB
  congr 1
  funext b
  exact num_byte b
/-- the sentinels: pointers to errors.errorString -/
def errV (E : Nat → Addr) (g : Nat) : Value := .iface 86 (.pointer (some (E g)))
def GlobS (E : Nat → Addr) (w : World) : Prop := ∀ g, g < 9 → w.cell? ⟨g, 0, none⟩ = some (.iface 86 (.pointer (some (E g))))
theorem globS_below {E : Nat → Addr} {w w' : World} (h : GlobS E w) (hb : Below w.heap.size w w') : GlobS E w' := fun g hg => cell_on hb (h g hg)
def okM (s : ByteArray) : Bool := okId (L s)
def okP (s : ByteArray) : Bool := okId (L s) && !((L s).all isD && lead (L s))
/-- the kind of the first identifier of a prerelease that is wrong -/
def kPre (ps : List ByteArray) : Nat := match ps.find? (fun t => !okP t) with
  | some t => if !(L t).isEmpty && (L t).all isD then 4 else 5
  | none => 0
theorem find_at {α : Type} (z : α) (p : α → Bool) : ∀ (l : List α) (n : Nat), n < l.length → (l.take n).all p = true → p (l.getD n z) = false → l.find? (fun t => !p t) = some (l.getD n z)
  | [], n, h, _, _ => absurd h (Nat.not_lt_zero n)
  | a :: l, 0, _, _, h => by
    have h1 : p a = false := h
    rw [List.find?_cons, h1]
    rfl
  | a :: l, n + 1, h, ha, hp => by
    rw [List.take_succ_cons, List.all_cons, Bool.and_eq_true] at ha
    rw [List.find?_cons, ha.1]
    exact find_at z p l n (Nat.lt_of_succ_lt_succ h) ha.2 hp
theorem take_next {α : Type} (z : α) (l : List α) (y : Int) (h0 : 0 ≤ y) (h1 : y < (l.length : Int)) : l.take (y + 1).toNat = l.take y.toNat ++ [l.getD y.toNat z] := by
  have e : (y + 1).toNat = y.toNat + 1 := by omega
  have h : y.toNat < l.length := by omega
  rw [e, List.take_succ_eq_append_getElem h, List.getD_eq_getElem?_getD, List.getElem?_eq_getElem h]
  rfl
theorem wrap_next {y n : Int} (h0 : 0 ≤ y) (h1 : y < n) (hn : n ≤ 4294967296) : wrap64 (y + 1) = y + 1 := by unfold wrap64; omega
theorem getD_mem {α : Type} (z : α) (l : List α) (y : Int) (h0 : 0 ≤ y) (h1 : y < (l.length : Int)) : l.getD y.toNat z ∈ l := by
  have h : y.toNat < l.length := by omega
  rw [List.getD_eq_getElem?_getD, List.getElem?_eq_getElem h]
  exact List.getElem_mem h
theorem all_bad {α : Type} {p : α → Bool} {l : List α} {x : α} (h : x ∈ l) (hp : p x = false) : l.all p = false := by
  cases ha : l.all p
  · rfl
  · rw [List.all_eq_true.1 ha x h] at hp; cases hp
theorem empty_L {s : ByteArray} (b : Bool) (h : (L s).isEmpty = b) : s.toList.isEmpty = b ∧ (s.toList == []) = b := by
  rw [toList_L]
  refine ⟨h, ?_⟩
  rw [← h]
  cases L s <;> rfl
theorem lead_L (s : ByteArray) : lead (L s) = (decide (1 < (s.size : Int)) && (bt s 0 == 48)) := by
  rw [← L_len]
  have hb : bt s 0 = (((L s).getD 0 0).toNat : Int) ∨ (L s).length = 0 := by
    by_cases h : 0 < s.size
    · refine Or.inl ?_
      unfold bt
      rw [dif_pos (show (0 : Int).toNat < s.size from h), List.getD_eq_getElem?_getD, List.getElem?_eq_getElem (by rw [L_len]; exact h)]
      rfl
    · exact Or.inr (by rw [L_len]; omega)
  match hl : L s with
  | [] => rfl
  | [x] => rfl
  | x :: y :: r =>
    rw [hl] at hb
    rcases hb with hb | hb
    · rw [hb]
      have hd : decide (1 < ((x :: y :: r).length : Int)) = true := decide_eq_true (by simp only [List.length_cons]; omega)
      rw [hd, Bool.true_and]
      show (x == 48) = (((x.toNat : Nat) : Int) == 48)
      rw [Bool.eq_iff_iff, beq_iff_eq, beq_iff_eq]
      constructor
      · intro h; rw [h]; rfl
      · intro h; exact UInt8.toNat.inj (by have h1 : x.toNat = 48 := by omega
                                           rw [h1]; rfl)
    · simp at hb
theorem isD_isId {l : List UInt8} (h : l.all isD = true) : l.all isId = true := by
  rw [List.all_eq_true] at h ⊢
  intro b hb
  unfold isId
  rw [h b hb]
  rfl
set_option maxHeartbeats 8000000 in
set_option maxRecDepth 100000 in
/-- metadata is let in just if each of its identifiers is valid -/
theorem meta16 (s : ByteArray) (ks : Nat) (ps : List ByteArray) (hps : semver_zzSplit.f ks s ⟨#[46]⟩ = some ps) (hn : ps.length ≤ 2147483647) (E : Nat → Addr) (w : World) (hG : GlobS E w) :
    Calls Tryd.prog 17 #[.string s] w fun e w' => ((ps.all okM = true ∧ e = .returned .nilIface) ∨ (ps.all okM = false ∧ e = .returned (errV E 6))) ∧ Below w.heap.size w w' := by
  have HS := Aside0.mk hps
  have HN := Aside0.mk hn
  have HG := Aside0.mk hG
  clear hps hn hG
  go_enter Tryd.func17, Tryd.ntmps17
  go_wp2_with (go_at_call 26; (with_reducible refine (semver_zzSplit.calls ks s ⟨#[46]⟩ ps _ HS.out).mono ?_); rintro e w1 ⟨v, rfl, hR, hb⟩; obtain ⟨A, c, e1, -, hC⟩ := Kd.R_reads hR; subst e1; have HC := Aside0.mk hC; have HB := Aside0.mk hb; clear hR hC hb)
  go_loopg [10] (ps.length + 1) (fun g v10 w' => ∃ x : Int, v10 = .int .i64 x ∧ Aside0 (0 ≤ x ∧ x ≤ ps.length ∧ g + x.toNat = ps.length + 1) ∧ Aside0 ((ps.take x.toNat).all okM = true) ∧ Aside0 (Below w1.heap.size w1 w'))
  case atStart => exact ⟨0, rfl, ⟨by omega, by omega, by simp⟩, ⟨rfl⟩, ⟨Below.refl _ _⟩⟩
  case round =>
    obtain ⟨x, rfl, HI, HZ, HW⟩ := hrel
    have HB2 := Aside0.mk (bl_on HB.out HW.out)
    by_cases hlt : x < (ps.length : Int)
    · have c1 : decide (x < (ps.length : Int)) = true := decide_eq_true hlt
      have p0 : 0 ≤ x := HI.out.1
      have p1 : x < (ps.length : Int) := hlt
      obtain ⟨ad, e0, g0⟩ := Kd.at_string HC.out x p0 p1
      cases e0
      replace g0 := cell_on HW.out g0
      obtain ⟨t, ht⟩ : ∃ t, t = rdOf ByteArray.empty ps x := ⟨_, rfl⟩
      rw [← ht] at g0
      have HM := Aside0.mk (show t ∈ ps by rw [ht]; exact getD_mem _ _ _ p0 p1)
      have E1 := Aside0.mk (wrap_next p0 p1 (show (ps.length : Int) ≤ 4294967296 by have h1 := HN.out; omega))
      have E2 : Aside0 (ps.take (x + 1).toNat = ps.take x.toNat ++ [t]) := ⟨by rw [ht]; exact take_next _ ps x p0 p1⟩
      clear ht hlt
      replace p0 := eq_true p0
      replace p1 := eq_true p1
      cases he : (L t).isEmpty
      · obtain ⟨q1, q2⟩ := empty_L false he
        cases ha : (L t).all isId
        · have HAlw : Aside0 (onlyB alw t = false) := ⟨by rw [only_alw]; exact ha⟩
          have HO : Aside0 (okM t = false) := ⟨by unfold okM okId; rw [ha, Bool.and_false]⟩
          clear he ha
          go_wp2_with (go_at_call 19; (with_reducible refine (only18_any t alw alw_plain _).mono ?_); rintro e w3 ⟨rfl, hb⟩; rw [HAlw.out]; have HW3 := Aside0.mk (bl_on HW.out hb); have HB3 := Aside0.mk (bl_on HB2.out hb); have gg := globS_below HG.out HB3.out 6 (by decide); clear hb)
          go_ret
          exact ⟨Or.inr ⟨all_bad HM.out HO.out, rfl⟩, HB3.out⟩
        · have HAlw : Aside0 (onlyB alw t = true) := ⟨by rw [only_alw]; exact ha⟩
          have HO : Aside0 (okM t = true) := ⟨by unfold okM okId; rw [he, ha]; rfl⟩
          clear he ha
          go_wp2_with (go_at_call 19; (with_reducible refine (only18_any t alw alw_plain _).mono ?_); rintro e w3 ⟨rfl, hb⟩; rw [HAlw.out]; have HW3 := Aside0.mk (bl_on HW.out hb); clear hb)
          go_roundg (gk - 1)
          case measure => have h1 := HI.out; have h2 := of_eq_true p1; omega
          case rel => exact ⟨wrap64 (x + 1), rfl, ⟨by rw [E1.out]; have h1 := HI.out; have h2 := of_eq_true p1; omega⟩, ⟨by rw [E1.out, E2.out, List.all_append, HZ.out, Bool.true_and, List.all_cons, HO.out]; rfl⟩, ⟨HW3.out⟩⟩
      · obtain ⟨q1, q2⟩ := empty_L true he
        have HO : Aside0 (okM t = false) := ⟨by unfold okM okId; rw [he]; rfl⟩
        have gg := globS_below HG.out HB2.out 6 (by decide)
        clear he
        go_wp2
        go_ret
        exact ⟨Or.inr ⟨all_bad HM.out HO.out, rfl⟩, HB2.out⟩
    · have c1 : decide (x < (ps.length : Int)) = false := decide_eq_false hlt
      have E0 : Aside0 (ps.all okM = true) := ⟨by have h1 := HI.out; have h2 := HZ.out; rw [List.take_of_length_le (by omega)] at h2; exact h2⟩
      clear hlt
      go_wp2
      go_ret
      exact ⟨Or.inl ⟨E0.out, rfl⟩, HB2.out⟩
set_option maxHeartbeats 8000000 in
set_option maxRecDepth 100000 in
/-- a prerelease is let in just if each of its identifiers is valid and no number among them has a leading zero -/
theorem pre17 (s : ByteArray) (ks : Nat) (ps : List ByteArray) (hps : semver_zzSplit.f ks s ⟨#[46]⟩ = some ps) (hn : ps.length ≤ 2147483647) (E : Nat → Addr) (w : World) (hG : GlobS E w) :
    Calls Tryd.prog 18 #[.string s] w fun e w' => ((ps.all okP = true ∧ e = .returned .nilIface) ∨ (ps.all okP = false ∧ e = .returned (errV E (kPre ps)))) ∧ Below w.heap.size w w' := by
  have HS := Aside0.mk hps
  have HN := Aside0.mk hn
  have HG := Aside0.mk hG
  clear hps hn hG
  go_enter Tryd.func18, Tryd.ntmps18
  go_wp2_with (go_at_call 26; (with_reducible refine (semver_zzSplit.calls ks s ⟨#[46]⟩ ps _ HS.out).mono ?_); rintro e w1 ⟨v, rfl, hR, hb⟩; obtain ⟨A, c, e1, -, hC⟩ := Kd.R_reads hR; subst e1; have HC := Aside0.mk hC; have HB := Aside0.mk hb; clear hR hC hb)
  go_loopg [10] (ps.length + 1) (fun g v10 w' => ∃ x : Int, v10 = .int .i64 x ∧ Aside0 (0 ≤ x ∧ x ≤ ps.length ∧ g + x.toNat = ps.length + 1) ∧ Aside0 ((ps.take x.toNat).all okP = true) ∧ Aside0 (Below w1.heap.size w1 w'))
  case atStart => exact ⟨0, rfl, ⟨by omega, by omega, by simp⟩, ⟨rfl⟩, ⟨Below.refl _ _⟩⟩
  case round =>
    obtain ⟨x, rfl, HI, HZ, HW⟩ := hrel
    have HB2 := Aside0.mk (bl_on HB.out HW.out)
    by_cases hlt : x < (ps.length : Int)
    · have c1 : decide (x < (ps.length : Int)) = true := decide_eq_true hlt
      have p0 : 0 ≤ x := HI.out.1
      have p1 : x < (ps.length : Int) := hlt
      obtain ⟨ad, e0, g0⟩ := Kd.at_string HC.out x p0 p1
      cases e0
      replace g0 := cell_on HW.out g0
      obtain ⟨t, ht⟩ : ∃ t, t = rdOf ByteArray.empty ps x := ⟨_, rfl⟩
      rw [← ht] at g0
      have HM := Aside0.mk (show t ∈ ps by rw [ht]; exact getD_mem _ _ _ p0 p1)
      have HFI : Aside0 (okP t = false → ps.find? (fun t => !okP t) = some t) := ⟨fun h => by rw [ht]; exact find_at ByteArray.empty okP ps x.toNat (by omega) HZ.out (by rw [ht] at h; exact h)⟩
      have E1 := Aside0.mk (wrap_next p0 p1 (show (ps.length : Int) ≤ 4294967296 by have h1 := HN.out; omega))
      have E2 : Aside0 (ps.take (x + 1).toNat = ps.take x.toNat ++ [t]) := ⟨by rw [ht]; exact take_next _ ps x p0 p1⟩
      clear ht hlt
      replace p0 := eq_true p0
      replace p1 := eq_true p1
      cases he : (L t).isEmpty
      · obtain ⟨q1, q2⟩ := empty_L false he
        have hsz : (0 < t.size) = True := eq_true (by rw [← L_len]; cases hl : L t with | nil => rw [hl] at he; cases he | cons a l => simp)
        have hbt : ∀ h : 0 < t.size, ((t[0]'h).toNat : Int) = bt t 0 := bt_at t 0
        have hle := lead_L t
        cases hnn : (L t).all isD
        · have HNum : Aside0 (onlyB num t = false) := ⟨by rw [only_num]; exact hnn⟩
          cases ha : (L t).all isId
          · have HAlw : Aside0 (onlyB alw t = false) := ⟨by rw [only_alw]; exact ha⟩
            have HO : Aside0 (okP t = false) := ⟨by unfold okP okId; rw [ha, Bool.and_false, Bool.false_and]⟩
            have HKI : Aside0 (kPre ps = 5) := ⟨by unfold kPre; rw [HFI.out HO.out]; show (if _ then 4 else 5) = 5; rw [hnn, Bool.and_false]; rfl⟩
            clear he ha hnn hle
            go_wp2_with (first | (go_at_call 19; (with_reducible refine (only18_any t num num_plain _).mono ?_); rintro e w2 ⟨rfl, hb⟩; rw [HNum.out]; have HW2 := Aside0.mk (bl_on HW.out hb); have HB3 := Aside0.mk (bl_on HB2.out hb); clear hb) | (go_at_call 19; (with_reducible refine (only18_any t alw alw_plain _).mono ?_); rintro e w3 ⟨rfl, hb⟩; rw [HAlw.out]; have HB4 := Aside0.mk (bl_on HB3.out hb); have gg := globS_below HG.out HB4.out 5 (by decide); clear hb))
            go_ret
            exact ⟨Or.inr ⟨all_bad HM.out HO.out, by rw [HKI.out]; rfl⟩, HB4.out⟩
          · have HAlw : Aside0 (onlyB alw t = true) := ⟨by rw [only_alw]; exact ha⟩
            have HO : Aside0 (okP t = true) := ⟨by unfold okP okId; rw [he, ha, hnn]; rfl⟩
            clear he ha hnn hle
            go_wp2_with (first | (go_at_call 19; (with_reducible refine (only18_any t num num_plain _).mono ?_); rintro e w2 ⟨rfl, hb⟩; rw [HNum.out]; have HW2 := Aside0.mk (bl_on HW.out hb); clear hb) | (go_at_call 19; (with_reducible refine (only18_any t alw alw_plain _).mono ?_); rintro e w3 ⟨rfl, hb⟩; rw [HAlw.out]; have HW3 := Aside0.mk (bl_on HW2.out hb); clear hb))
            go_roundg (gk - 1)
            case measure => have h1 := HI.out; have h2 := of_eq_true p1; omega
            case rel => exact ⟨wrap64 (x + 1), rfl, ⟨by rw [E1.out]; have h1 := HI.out; have h2 := of_eq_true p1; omega⟩, ⟨by rw [E1.out, E2.out, List.all_append, HZ.out, Bool.true_and, List.all_cons, HO.out]; rfl⟩, ⟨HW3.out⟩⟩
        · have HNum : Aside0 (onlyB num t = true) := ⟨by rw [only_num]; exact hnn⟩
          have hid := isD_isId hnn
          cases h1 : decide (1 < (t.size : Int))
          · have HO : Aside0 (okP t = true) := ⟨by unfold okP okId; rw [he, hid, hnn, hle, h1]; rfl⟩
            clear he hnn hle hid
            go_wp2_with (go_at_call 19; (with_reducible refine (only18_any t num num_plain _).mono ?_); rintro e w2 ⟨rfl, hb⟩; rw [HNum.out]; have HW2 := Aside0.mk (bl_on HW.out hb); clear hb)
            go_roundg (gk - 1)
            case measure => have h1 := HI.out; have h2 := of_eq_true p1; omega
            case rel => exact ⟨wrap64 (x + 1), rfl, ⟨by rw [E1.out]; have h1 := HI.out; have h2 := of_eq_true p1; omega⟩, ⟨by rw [E1.out, E2.out, List.all_append, HZ.out, Bool.true_and, List.all_cons, HO.out]; rfl⟩, ⟨HW2.out⟩⟩
          · cases h2 : (bt t 0 == 48)
            · have HO : Aside0 (okP t = true) := ⟨by unfold okP okId; rw [he, hid, hnn, hle, h1, h2]; rfl⟩
              clear he hnn hle hid
              go_wp2_with (go_at_call 19; (with_reducible refine (only18_any t num num_plain _).mono ?_); rintro e w2 ⟨rfl, hb⟩; rw [HNum.out]; have HW2 := Aside0.mk (bl_on HW.out hb); clear hb)
              go_roundg (gk - 1)
              case measure => have h1 := HI.out; have h2 := of_eq_true p1; omega
              case rel => exact ⟨wrap64 (x + 1), rfl, ⟨by rw [E1.out]; have h1 := HI.out; have h2 := of_eq_true p1; omega⟩, ⟨by rw [E1.out, E2.out, List.all_append, HZ.out, Bool.true_and, List.all_cons, HO.out]; rfl⟩, ⟨HW2.out⟩⟩
            · have HO : Aside0 (okP t = false) := ⟨by unfold okP okId; rw [hnn, hle, h1, h2, hid, he]; rfl⟩
              have HKI : Aside0 (kPre ps = 4) := ⟨by unfold kPre; rw [HFI.out HO.out]; show (if _ then 4 else 5) = 4; rw [hnn, he]; rfl⟩
              clear he hnn hle hid
              go_wp2_with (go_at_call 19; (with_reducible refine (only18_any t num num_plain _).mono ?_); rintro e w2 ⟨rfl, hb⟩; rw [HNum.out]; have HB3 := Aside0.mk (bl_on HB2.out hb); have gg := globS_below HG.out HB3.out 4 (by decide); clear hb)
              go_ret
              exact ⟨Or.inr ⟨all_bad HM.out HO.out, by rw [HKI.out]; rfl⟩, HB3.out⟩
      · obtain ⟨q1, q2⟩ := empty_L true he
        have HO : Aside0 (okP t = false) := ⟨by unfold okP okId; rw [he]; rfl⟩
        have HKI : Aside0 (kPre ps = 5) := ⟨by unfold kPre; rw [HFI.out HO.out]; show (if _ then 4 else 5) = 5; rw [he]; rfl⟩
        have gg := globS_below HG.out HB2.out 5 (by decide)
        clear he
        go_wp2
        go_ret
        exact ⟨Or.inr ⟨all_bad HM.out HO.out, by rw [HKI.out]; rfl⟩, HB2.out⟩
    · have c1 : decide (x < (ps.length : Int)) = false := decide_eq_false hlt
      have E0 : Aside0 (ps.all okP = true) := ⟨by have h1 := HI.out; have h2 := HZ.out; rw [List.take_of_length_le (by omega)] at h2; exact h2⟩
      clear hlt
      go_wp2
      go_ret
      exact ⟨Or.inl ⟨E0.out, rfl⟩, HB2.out⟩
end Go.Proofs.YtmbdpkaplnjopaaDoor
