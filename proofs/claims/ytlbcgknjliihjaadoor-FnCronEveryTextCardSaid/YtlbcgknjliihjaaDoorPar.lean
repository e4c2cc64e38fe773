/-
  ParseDuration of a row of whole numbers with units, with a sign ahead or without.
-/
import Derived.Test.YtlbcgknjliihjaaDoorDur
set_option linter.unusedVariables false
set_option linter.unusedSimpArgs false
namespace Go.Proofs.YtlbcgknjliihjaaDoor
open Go Go.Maps Go.RowKit Go.Proofs.YtlbcgknjliihjaaDoorW.PrintWords Go.Proofs.YtlbcgknjliihjaaDoorW.PrintLast
theorem wi {x : Int} (h0 : -9223372036854775808 ≤ x) (h1 : x < 9223372036854775808) : IntKind.i64.wrap x = x := by
  unfold IntKind.wrap
  simp [IntKind.signed, IntKind.bits]
  omega
theorem str_ne (s : ByteArray) (h : L s ≠ []) : (s.toList == []) = false ∧ s.toList.isEmpty = false := by
  rw [toList_L]
  refine ⟨beq_eq_false_iff_ne.2 h, ?_⟩
  cases he : L s with
  | nil => exact absurd he h
  | cons a b => rfl
set_option maxHeartbeats 8000000 in
set_option maxRecDepth 100000 in
theorem dur27_plain (s : ByteArray) (items : List (Nat × Nat)) (D : Int) (hL : L s = textL items) (hne : items ≠ []) (hI : ∀ p ∈ items, p.1 ≤ 1125899906842624) (hD : durN items = D) (hD9 : D ≤ 9000000000000000000) (hz : s.size ≤ 100000) (w : World) :
    Calls Tryd.prog 27 #[.string s] w fun e w' => e = .returned (.tuple #[.int .i64 D, .nilIface]) ∧ Below w.heap.size w w' := by
  have HL := Aside0.mk hL
  have HI := Aside0.mk hI
  have HDD := Aside0.mk hD
  have HD9 := Aside0.mk hD9
  have HZ := Aside0.mk hz
  obtain ⟨c, r, hcr, hcd⟩ : ∃ c r, L s = c :: r ∧ isDg c = true := by
    rcases text_head items with h | ⟨c, r, h, hd⟩
    · cases items with
      | nil => exact absurd rfl hne
      | cons p l => rw [text_cons] at h; exact absurd (List.append_eq_nil_iff.1 h).1 (dec_ne _)
    · exact ⟨c, r, by rw [hL]; exact h, hd⟩
  have hs1 : 1 < s.size := by
    cases items with
    | nil => exact absurd rfl hne
    | cons p l =>
      have h := congrArg List.length hL
      rw [L_len, text_cons, List.length_append, List.length_append] at h
      have h1 := (unit_ne p.2).1
      have h2 : 0 < (Lib.decDigits p.1).length := List.length_pos_iff.2 (dec_ne p.1)
      omega
  obtain ⟨q1, q2⟩ := str_ne s (by rw [hcr]; simp)
  have q3 : (s.toList == [48]) = false := by
    rw [toList_L]
    exact beq_eq_false_iff_ne.2 (fun h => by
      have h1 := congrArg List.length h
      rw [L_len] at h1
      simp at h1
      omega)
  have p4 : (0 : Int) ≤ 0 := Int.le_refl _
  have q4 : (0 : Int) < (s.size : Int) := by omega
  have hx4 : ∀ h : 0 < s.size, ((s[0]'h).toNat : Int) = bt s 0 := bt_at s 0
  obtain ⟨b, hb⟩ : ∃ b, b = bt s 0 := ⟨_, rfl⟩
  have hbL : b = (c.toNat : Int) := by
    rw [hb, bt_Z s 0 p4 q4, hcr]
    rfl
  rw [← hb] at hx4
  have hd0 : 48 ≤ b ∧ b ≤ 57 := by
    unfold isDg at hcd
    rw [Bool.and_eq_true] at hcd
    have h0 := of_decide_eq_true hcd.1
    have h1 := of_decide_eq_true hcd.2
    omega
  have e0 : (b == 45) = false := beq_eq_false_iff_ne.2 (by omega)
  have e1 : (b == 43) = false := beq_eq_false_iff_ne.2 (by omega)
  replace q4 := eq_true q4
  have hs1' : 0 < s.size := by omega
  clear hL hI hD hD9 hz hne hcr hcd hs1 hb hbL hd0
  have q5 : (0 < s.size) = True := eq_true hs1'
  clear hs1'
  go_enter Tryd.func27, Tryd.ntmps27
  go_wp2
  go_loopg [0, 5] (items.length + 1) (fun g v0 v5 w' => ∃ (s : ByteArray) (l : List (Nat × Nat)) (d : Int), v0 = .string s ∧ v5 = .int .u64 d ∧ Aside0 (L s = textL l) ∧ Aside0 (g = l.length + 1) ∧ Aside0 (0 ≤ d ∧ d + durN l = D) ∧ Aside0 (∀ p ∈ l, p.1 ≤ 1125899906842624) ∧ Aside0 (s.size ≤ 100000) ∧ Aside0 (Below w.heap.size w w'))
  case atStart => exact ⟨_, items, 0, rfl, rfl, HL, ⟨rfl⟩, ⟨by omega, by have := HDD.out; omega⟩, HI, HZ, ⟨Below.refl _ _⟩⟩
  case round =>
    clear HL HI HZ HDD q1 q2 q3 q4 q5 hx4 e0 e1 p4
    obtain ⟨s, l, d, rfl, rfl, HL, HG, HD, HI, HZ1, HW⟩ := hrel
    cases l with
    | nil =>
      have h0 : L s = [] := HL.out
      have q1 : (s.toList == []) = true := by rw [toList_L, h0]; rfl
      have q2 : s.toList.isEmpty = true := by rw [toList_L, h0]; rfl
      have HE : Aside0 (d = D) := ⟨by have h1 := HD.out.2; rw [durN] at h1; omega⟩
      have c56 : decide (9223372036854775807 < d) = false := decide_eq_false (by have h1 := HE.out; have h2 := HD9.out; omega)
      have hi : IntKind.i64.wrap d = d := wi (by have h1 := HD.out.1; omega) (by have h1 := HE.out; have h2 := HD9.out; omega)
      have hj : IntKind.i64.wrap (-d) = -d := wi (by have h1 := HE.out; have h2 := HD9.out; omega) (by have h1 := HD.out.1; omega)
      have hk : wrap64 D = D := by have h1 := HE.out; have h2 := HD9.out; have h3 := HD.out.1; unfold wrap64; omega
      have hl : wrap64 (-D) = -D := by have h1 := HE.out; have h2 := HD9.out; have h3 := HD.out.1; unfold wrap64; omega
      have HI1 := Aside0.mk hi
      have HI2 := Aside0.mk hj
      have HI3 := Aside0.mk hk
      have HI4 := Aside0.mk hl
      clear h0 hi hj hk hl
      go_wp2
      refine bodyPost_ret (v := .tuple #[.int .i64 (D), .nilIface]) (by simp [results, Tryd.results27, go_sem, HI1.out, HI2.out, HI3.out, HI4.out, HE.out]) rfl ⟨rfl, HW.out⟩
    | cons p r =>
     cases gk with
     | zero => exact absurd HG.out (by rw [List.length_cons]; omega)
     | succ kO =>
      obtain ⟨n, u⟩ := p
      obtain ⟨s3, HL3⟩ : ∃ s3, Aside0 (L s3 = textL r) := ⟨mkB (textL r), ⟨rfl⟩⟩
      obtain ⟨us, HUS⟩ : ∃ us, Aside0 (L us = unitL u) := ⟨mkB (unitL u), ⟨rfl⟩⟩
      obtain ⟨s2, HL2'⟩ : ∃ s2, Aside0 (L s2 = L us ++ L s3) := ⟨mkB (L us ++ L s3), ⟨rfl⟩⟩
      obtain ⟨N, HN⟩ : ∃ N, Aside0 (N = (n : Int)) := ⟨_, ⟨rfl⟩⟩
      obtain ⟨U, HU⟩ : ∃ U, Aside0 (U = unitV u) := ⟨_, ⟨rfl⟩⟩
      have HL2 : Aside0 (L s = Lib.decDigits n ++ L s2) := ⟨by rw [HL.out, text_cons, HL2'.out, HUS.out, HL3.out]⟩
      have HNL : Aside0 (n ≤ 1125899906842624) := ⟨HI.out (n, u) (List.mem_cons_self)⟩
      have hul := unit_ne u
      have hl2 : s2.size = (unitL u).length + s3.size := by have h := congrArg List.length HL2'.out; rw [L_len, List.length_append, HUS.out, L_len] at h; exact h
      have hls : s.size = (Lib.decDigits n).length + s2.size := by have h := congrArg List.length HL2.out; rw [L_len, List.length_append, L_len] at h; exact h
      have hdl : 0 < (Lib.decDigits n).length := List.length_pos_iff.2 (dec_ne n)
      have HLZ : Aside0 (s3.size < s2.size ∧ s2.size < s.size ∧ s2.size = (unitL u).length + s3.size) := ⟨by omega⟩
      have hub : ∀ k, k < (unitL u).length → 97 ≤ ((L s2).getD k 0).toNat := fun k hk => by
        rw [HL2'.out, HUS.out, List.getD_eq_getElem?_getD, List.getElem?_append_left hk, List.getElem?_eq_getElem hk]
        exact unit_byte u _ (List.getElem_mem hk)
      have HUB := Aside0.mk hub
      have HR2 : Aside0 (∀ c r, L s2 = c :: r → isDg c = false) := ⟨fun c r' h => by
        have h1 := hub 0 (by omega)
        rw [h, List.getD_cons_zero] at h1
        unfold isDg
        rw [decide_eq_false (show ¬ c.toNat ≤ 57 by omega), Bool.and_false]⟩
      obtain ⟨c0, r0, hcr, hcd⟩ : ∃ c r, L s = c :: r ∧ isDg c = true := by
        have hdd := (dec_dg n n (Nat.le_refl _)).1
        cases he : Lib.decDigits n with
        | nil => exact absurd he (dec_ne n)
        | cons c r =>
          rw [he, List.all_cons, Bool.and_eq_true] at hdd
          exact ⟨c, r ++ L s2, by rw [HL2.out, he]; rfl, hdd.1⟩
      obtain ⟨q1, q2⟩ := str_ne s (by rw [hcr]; simp)
      have q5 : (0 < s.size) = True := eq_true (by omega)
      have hx4 : ∀ h : 0 < s.size, ((s[0]'h).toNat : Int) = bt s 0 := bt_at s 0
      obtain ⟨b, hb⟩ : ∃ b, b = bt s 0 := ⟨_, rfl⟩
      have hbL : b = (c0.toNat : Int) := by
        rw [hb, bt_Z s 0 (Int.le_refl _) (by omega), hcr]
        rfl
      rw [← hb] at hx4
      have hd0 : 48 ≤ b ∧ b ≤ 57 := by
        unfold isDg at hcd
        rw [Bool.and_eq_true] at hcd
        have h0 := of_decide_eq_true hcd.1
        have h1 := of_decide_eq_true hcd.2
        omega
      have e0 : (b == 46) = false := beq_eq_false_iff_ne.2 (by omega)
      have e1 : decide (48 ≤ b) = true := decide_eq_true hd0.1
      have e2 : decide (b ≤ 57) = true := decide_eq_true hd0.2
      have e3 : ((s.size : Int) != (s2.size : Int)) = true := bne_iff_ne.2 (by omega)
      obtain ⟨q21, q22⟩ := str_ne s2 (by intro h; have h1 := congrArg List.length h; rw [L_len, List.length_nil] at h1; omega)
      have q25 : (0 < s2.size) = True := eq_true (by omega)
      have hx24 : ∀ h : 0 < s2.size, ((s2[0]'h).toNat : Int) = bt s2 0 := bt_at s2 0
      obtain ⟨b2, hb2⟩ : ∃ b, b = bt s2 0 := ⟨_, rfl⟩
      have e20 : (b2 == 46) = false := beq_eq_false_iff_ne.2 (by
        rw [hb2, bt_Z s2 0 (Int.le_refl _) (by omega)]
        have h1 := hub 0 (by omega)
        intro h
        have h2 : ((L s2).getD 0 0).toNat = 46 := by exact_mod_cast h
        omega)
      rw [← hb2] at hx24
      have hup := unit_pos u
      have hdn := dur_nonneg r
      have hDr : d + ((n : Int) * unitV u + durN r) = D := by have h := HD.out.2; rw [durN] at h; exact h
      have hmn : 0 ≤ (n : Int) * unitV u := Int.mul_nonneg (by omega) (by omega)
      have h9 := HD9.out
      have hdz := HD.out.1
      have hm : IntKind.u64.wrap (N * U) = N * U := wu (by rw [HN.out, HU.out]; omega) (by rw [HN.out, HU.out]; omega)
      have hnu : N * U = (n : Int) * unitV u := by rw [HN.out, HU.out]
      have hda : IntKind.u64.wrap (d + IntKind.u64.wrap (N * U)) = d + (n : Int) * unitV u := by rw [hm, hnu]; exact wu (by omega) (by omega)
      have HDM := Aside0.mk hda
      have c52 : decide (9223372036854775808 < IntKind.u64.wrap (d + IntKind.u64.wrap (N * U))) = false := decide_eq_false (by rw [hda]; omega)
      have c44 : decide (IntKind.u64.wrap (Int.tdiv 9223372036854775808 U) < N) = false := decide_eq_false (by
        rw [HN.out, HU.out, Int.tdiv_eq_ediv_of_nonneg (by omega)]
        have h2 : (9223372036854775808 : Int) / unitV u ≤ 9223372036854775808 := Int.ediv_le_self _ (by omega)
        have h3 : 0 ≤ (9223372036854775808 : Int) / unitV u := Int.ediv_nonneg (by omega) (by omega)
        rw [wu h3 (by omega)]
        have h1 : (n : Int) ≤ 9223372036854775808 / unitV u := (Int.le_ediv_iff_mul_le (by omega)).2 (by omega)
        omega)
      have c44z : (U = 0) = False := eq_false (by rw [HU.out]; omega)
      clear hm hnu hda hul hl2 hls hdl hub hcr hcd hb hbL hd0 hb2 hup hdn hDr hmn h9 hdz
      go_wp2_with (first | (go_at_call 44; (with_reducible refine (lead44n s s2 n N HN.out HL2.out HR2.out HNL.out HZ1.out _).mono ?_); rintro e w1 ⟨rfl, hb⟩; have HW1 := Aside0.mk (bl_on HW.out hb); clear hb) | go_in)
      go_loopg [16] ((unitL u).length + 1) (fun g v16 w' => ∃ x : Int, v16 = .int .i64 x ∧ Aside0 (0 ≤ x ∧ x ≤ (unitL u).length ∧ g + x.toNat = (unitL u).length + 1) ∧ Aside0 (Below w.heap.size w w'))
      case atStart => exact ⟨0, rfl, ⟨by omega, by omega, by simp⟩, HW1⟩
      case round =>
        clear HW1
        obtain ⟨x, rfl, HX, HW1⟩ := hrel
        have hp4 : 0 ≤ x := HX.out.1
        have hq5 : x ≤ (s2.size : Int) := by have h1 := HX.out; have h2 := HLZ.out; omega
        by_cases hlt : x < ((unitL u).length : Int)
        · have HXL := Aside0.mk hlt
          have hq4 : x < (s2.size : Int) := by have h2 := HLZ.out; omega
          have c33 : decide (x < (s2.size : Int)) = true := decide_eq_true hq4
          have hx34 := bt_at s2 x
          obtain ⟨b3, hb3⟩ : ∃ b, b = bt s2 x := ⟨_, rfl⟩
          have h97 : 97 ≤ b3 := by
            rw [hb3, bt_Z s2 x hp4 hq4]
            have h1 := HUB.out x.toNat (by omega)
            omega
          rw [← hb3] at hx34
          have e30 : (b3 == 46) = false := beq_eq_false_iff_ne.2 (by omega)
          have e31 : decide (48 ≤ b3) = true := decide_eq_true (by omega)
          have e32 : decide (b3 ≤ 57) = false := decide_eq_false (by omega)
          clear hlt hb3 h97
          have p4 := eq_true hp4
          have q4 := eq_true hq4
          clear hp4 hq4 hq5
          go_wp2
          go_roundg (gk - 1)
          case measure => have h1 := HX.out; have h2 := HXL.out; omega
          case rel =>
            have h1 := HX.out
            have h2 := HXL.out
            have h3 := (unit_ne u).2
            have hw : wrap64 (x + 1) = x + 1 := by unfold wrap64; omega
            exact ⟨_, rfl, ⟨by rw [hw]; omega⟩, HW1⟩
        · have HXE := Aside0.mk (show x = ((unitL u).length : Int) by have h1 := HX.out; omega)
          have HSL0 : Aside0 (s2.extract 0 x.toNat = us) := ⟨L_ext (by
            have h1 := HXE.out
            rw [ext_mk, L_mk, HL2'.out, HUS.out, show x.toNat = (unitL u).length by omega, List.drop_zero, Nat.sub_zero, List.take_left])⟩
          have HSL1 : Aside0 (s2.extract x.toNat s2.size = s3) := ⟨L_ext (by
            have h1 := HXE.out
            have h2 := HLZ.out
            rw [ext_mk, L_mk, HL2'.out, HUS.out, show x.toNat = (unitL u).length by omega, List.drop_left, List.take_of_length_le (by rw [L_len]; omega)])⟩
          clear hlt
          rcases text_head r with ht | ⟨c3, r3, ht, hd3⟩
          · have c33 : decide (x < (s2.size : Int)) = false := decide_eq_false (by
              have h1 := HXE.out
              have h2 := HLZ.out
              have h3 := congrArg List.length (HL3.out.trans ht)
              rw [L_len, List.length_nil] at h3
              omega)
            clear ht
            have p4 := eq_true hp4
            have q5 := eq_true hq5
            clear hp4 hq5
            have c37 : (x == 0) = false := beq_eq_false_iff_ne.2 (by have := HXE.out; have := (unit_ne u).1; omega)
            have hsl0 : s2.extract 0 x.toNat = us := HSL0.out
            have hsl1 : s2.extract x.toNat s2.size = s3 := HSL1.out
            go_wp2_with (first | (go_at_call 46; (with_reducible refine (units46 _).mono ?_); rintro e w2 ⟨B, rfl, ho, hb⟩; have HOW := Aside0.mk ho; have HW2 := Aside0.mk (bl_on HW1.out hb); clear ho hb) | (refine look_unit rfl _ _ rfl B rfl HOW.out us u U rfl HUS.out HU.out ?_) | go_in)
            go_roundg kO
            case measure => omega
            case rel =>
              refine ⟨s3, r, _, rfl, rfl, ⟨HL3.out⟩, ⟨by have h1 := HG.out; rw [List.length_cons] at h1; omega⟩, ⟨?_⟩, ⟨?_⟩, ⟨?_⟩, ⟨HW2.out⟩⟩
              · have h1 : 0 ≤ d ∧ d + ((n : Int) * unitV u + durN r) = D := HD.out; rw [HDM.out]; have h2 := unit_pos u; have h3 : 0 ≤ (n : Int) * unitV u := Int.mul_nonneg (by omega) (by omega); omega
              · intro p hp; exact HI.out p (List.mem_cons_of_mem _ hp)
              · have h1 := HZ1.out; have h2 := HLZ.out; omega
          · have hq4 : x < (s2.size : Int) := by
              have h1 := HXE.out
              have h2 := HLZ.out
              have h3 := congrArg List.length (HL3.out.trans ht)
              rw [L_len, List.length_cons] at h3
              omega
            have c33 : decide (x < (s2.size : Int)) = true := decide_eq_true hq4
            have hx34 := bt_at s2 x
            obtain ⟨b3, hb3⟩ : ∃ b, b = bt s2 x := ⟨_, rfl⟩
            have hb4 : b3 = (c3.toNat : Int) := by
              have h1 := HXE.out
              rw [hb3, bt_Z s2 x hp4 hq4, HL2'.out, HUS.out, HL3.out, ht, show x.toNat = (unitL u).length by omega, List.getD_eq_getElem?_getD, List.getElem?_append_right (Nat.le_refl _), Nat.sub_self]
              rfl
            rw [← hb3] at hx34
            have hdd : 48 ≤ b3 ∧ b3 ≤ 57 := by
              unfold isDg at hd3
              rw [Bool.and_eq_true] at hd3
              have h0 := of_decide_eq_true hd3.1
              have h1 := of_decide_eq_true hd3.2
              omega
            have e30 : (b3 == 46) = false := beq_eq_false_iff_ne.2 (by omega)
            have e31 : decide (48 ≤ b3) = true := decide_eq_true hdd.1
            have e32 : decide (b3 ≤ 57) = true := decide_eq_true hdd.2
            clear ht hb3 hb4 hdd hd3
            have p4 := eq_true hp4
            have q4 := eq_true hq4
            have q5 := eq_true hq5
            clear hp4 hq4 hq5
            have c37 : (x == 0) = false := beq_eq_false_iff_ne.2 (by have := HXE.out; have := (unit_ne u).1; omega)
            have hsl0 : s2.extract 0 x.toNat = us := HSL0.out
            have hsl1 : s2.extract x.toNat s2.size = s3 := HSL1.out
            go_wp2_with (first | (go_at_call 46; (with_reducible refine (units46 _).mono ?_); rintro e w2 ⟨B, rfl, ho, hb⟩; have HOW := Aside0.mk ho; have HW2 := Aside0.mk (bl_on HW1.out hb); clear ho hb) | (refine look_unit rfl _ _ rfl B rfl HOW.out us u U rfl HUS.out HU.out ?_) | go_in)
            go_roundg kO
            case measure => omega
            case rel =>
              refine ⟨s3, r, _, rfl, rfl, ⟨HL3.out⟩, ⟨by have h1 := HG.out; rw [List.length_cons] at h1; omega⟩, ⟨?_⟩, ⟨?_⟩, ⟨?_⟩, ⟨HW2.out⟩⟩
              · have h1 : 0 ≤ d ∧ d + ((n : Int) * unitV u + durN r) = D := HD.out; rw [HDM.out]; have h2 := unit_pos u; have h3 : 0 ≤ (n : Int) * unitV u := Int.mul_nonneg (by omega) (by omega); omega
              · intro p hp; exact HI.out p (List.mem_cons_of_mem _ hp)
              · have h1 := HZ1.out; have h2 := HLZ.out; omega
set_option maxHeartbeats 8000000 in
set_option maxRecDepth 100000 in
theorem dur27_neg (s0 : ByteArray) (items : List (Nat × Nat)) (D : Int) (hL : L s0 = 45 :: textL items) (hne : items ≠ []) (hI : ∀ p ∈ items, p.1 ≤ 1125899906842624) (hD : durN items = D) (hD9 : D ≤ 9000000000000000000) (hz : s0.size ≤ 100000) (w : World) :
    Calls Tryd.prog 27 #[.string s0] w fun e w' => e = .returned (.tuple #[.int .i64 (-D), .nilIface]) ∧ Below w.heap.size w w' := by
  obtain ⟨s, hs⟩ : ∃ s, s = mkB (textL items) := ⟨_, rfl⟩
  have hsz : s0.size = s.size + 1 := by
    have h := congrArg List.length hL
    rw [L_len, List.length_cons] at h
    rw [hs, mk_size]
    exact h
  have HL : Aside0 (L s = textL items) := ⟨by rw [hs]⟩
  have hsl : s0.extract 1 s0.size = s := L_ext (by rw [ext_mk, L_mk, hL, HL.out, List.drop_succ_cons, List.drop_zero, List.take_of_length_le (by have h := congrArg List.length HL.out; rw [L_len] at h; omega)])
  have HI := Aside0.mk hI
  have HDD := Aside0.mk hD
  have HD9 := Aside0.mk hD9
  have HZ : Aside0 (s.size ≤ 100000) := ⟨by omega⟩
  have hs1 : 1 < s.size := by
    cases items with
    | nil => exact absurd rfl hne
    | cons p l =>
      have h := congrArg List.length HL.out
      rw [L_len, text_cons, List.length_append, List.length_append] at h
      have h1 := (unit_ne p.2).1
      have h2 : 0 < (Lib.decDigits p.1).length := List.length_pos_iff.2 (dec_ne p.1)
      omega
  obtain ⟨q1, q2⟩ := str_ne s0 (by rw [hL]; simp)
  obtain ⟨q21, q22⟩ := str_ne s (by intro h; have h1 := congrArg List.length h; rw [L_len, List.length_nil] at h1; omega)
  have q3 : (s.toList == [48]) = false := by
    rw [toList_L]
    exact beq_eq_false_iff_ne.2 (fun h => by
      have h1 := congrArg List.length h
      rw [L_len] at h1
      simp at h1
      omega)
  have hx4 : ∀ h : 0 < s0.size, ((s0[0]'h).toNat : Int) = bt s0 0 := bt_at s0 0
  have hbL : bt s0 0 = 45 := by
    rw [bt_Z s0 0 (Int.le_refl _) (by omega), hL]
    rfl
  rw [hbL] at hx4
  have q5 : (0 < s0.size) = True := eq_true (by omega)
  have q4 : (0 < (s0.size : Int)) = True := eq_true (by omega)
  have p4 : (1 ≤ (s0.size : Int)) = True := eq_true (by omega)
  have e0 : (1 ≤ s0.size) = True := eq_true (by omega)
  clear hL hI hD hD9 hz hne hs1 hs hsz hbL
  go_enter Tryd.func27, Tryd.ntmps27
  go_wp2
  go_loopg [0, 5] (items.length + 1) (fun g v0 v5 w' => ∃ (s : ByteArray) (l : List (Nat × Nat)) (d : Int), v0 = .string s ∧ v5 = .int .u64 d ∧ Aside0 (L s = textL l) ∧ Aside0 (g = l.length + 1) ∧ Aside0 (0 ≤ d ∧ d + durN l = D) ∧ Aside0 (∀ p ∈ l, p.1 ≤ 1125899906842624) ∧ Aside0 (s.size ≤ 100000) ∧ Aside0 (Below w.heap.size w w'))
  case atStart => exact ⟨_, items, 0, rfl, rfl, HL, ⟨rfl⟩, ⟨by omega, by have := HDD.out; omega⟩, HI, HZ, ⟨Below.refl _ _⟩⟩
  case round =>
    clear HL HI HZ HDD q1 q2 q3 q4 q5 q21 q22 hx4 e0 p4 hsl
    obtain ⟨s, l, d, rfl, rfl, HL, HG, HD, HI, HZ1, HW⟩ := hrel
    cases l with
    | nil =>
      have h0 : L s = [] := HL.out
      have q1 : (s.toList == []) = true := by rw [toList_L, h0]; rfl
      have q2 : s.toList.isEmpty = true := by rw [toList_L, h0]; rfl
      have HE : Aside0 (d = D) := ⟨by have h1 := HD.out.2; rw [durN] at h1; omega⟩
      have c56 : decide (9223372036854775807 < d) = false := decide_eq_false (by have h1 := HE.out; have h2 := HD9.out; omega)
      have hi : IntKind.i64.wrap d = d := wi (by have h1 := HD.out.1; omega) (by have h1 := HE.out; have h2 := HD9.out; omega)
      have hj : IntKind.i64.wrap (-d) = -d := wi (by have h1 := HE.out; have h2 := HD9.out; omega) (by have h1 := HD.out.1; omega)
      have hk : wrap64 D = D := by have h1 := HE.out; have h2 := HD9.out; have h3 := HD.out.1; unfold wrap64; omega
      have hl : wrap64 (-D) = -D := by have h1 := HE.out; have h2 := HD9.out; have h3 := HD.out.1; unfold wrap64; omega
      have HI1 := Aside0.mk hi
      have HI2 := Aside0.mk hj
      have HI3 := Aside0.mk hk
      have HI4 := Aside0.mk hl
      clear h0 hi hj hk hl
      go_wp2
      refine bodyPost_ret (v := .tuple #[.int .i64 (-D), .nilIface]) (by simp [results, Tryd.results27, go_sem, HI1.out, HI2.out, HI3.out, HI4.out, HE.out]) rfl ⟨rfl, HW.out⟩
    | cons p r =>
     cases gk with
     | zero => exact absurd HG.out (by rw [List.length_cons]; omega)
     | succ kO =>
      obtain ⟨n, u⟩ := p
      obtain ⟨s3, HL3⟩ : ∃ s3, Aside0 (L s3 = textL r) := ⟨mkB (textL r), ⟨rfl⟩⟩
      obtain ⟨us, HUS⟩ : ∃ us, Aside0 (L us = unitL u) := ⟨mkB (unitL u), ⟨rfl⟩⟩
      obtain ⟨s2, HL2'⟩ : ∃ s2, Aside0 (L s2 = L us ++ L s3) := ⟨mkB (L us ++ L s3), ⟨rfl⟩⟩
      obtain ⟨N, HN⟩ : ∃ N, Aside0 (N = (n : Int)) := ⟨_, ⟨rfl⟩⟩
      obtain ⟨U, HU⟩ : ∃ U, Aside0 (U = unitV u) := ⟨_, ⟨rfl⟩⟩
      have HL2 : Aside0 (L s = Lib.decDigits n ++ L s2) := ⟨by rw [HL.out, text_cons, HL2'.out, HUS.out, HL3.out]⟩
      have HNL : Aside0 (n ≤ 1125899906842624) := ⟨HI.out (n, u) (List.mem_cons_self)⟩
      have hul := unit_ne u
      have hl2 : s2.size = (unitL u).length + s3.size := by have h := congrArg List.length HL2'.out; rw [L_len, List.length_append, HUS.out, L_len] at h; exact h
      have hls : s.size = (Lib.decDigits n).length + s2.size := by have h := congrArg List.length HL2.out; rw [L_len, List.length_append, L_len] at h; exact h
      have hdl : 0 < (Lib.decDigits n).length := List.length_pos_iff.2 (dec_ne n)
      have HLZ : Aside0 (s3.size < s2.size ∧ s2.size < s.size ∧ s2.size = (unitL u).length + s3.size) := ⟨by omega⟩
      have hub : ∀ k, k < (unitL u).length → 97 ≤ ((L s2).getD k 0).toNat := fun k hk => by
        rw [HL2'.out, HUS.out, List.getD_eq_getElem?_getD, List.getElem?_append_left hk, List.getElem?_eq_getElem hk]
        exact unit_byte u _ (List.getElem_mem hk)
      have HUB := Aside0.mk hub
      have HR2 : Aside0 (∀ c r, L s2 = c :: r → isDg c = false) := ⟨fun c r' h => by
        have h1 := hub 0 (by omega)
        rw [h, List.getD_cons_zero] at h1
        unfold isDg
        rw [decide_eq_false (show ¬ c.toNat ≤ 57 by omega), Bool.and_false]⟩
      obtain ⟨c0, r0, hcr, hcd⟩ : ∃ c r, L s = c :: r ∧ isDg c = true := by
        have hdd := (dec_dg n n (Nat.le_refl _)).1
        cases he : Lib.decDigits n with
        | nil => exact absurd he (dec_ne n)
        | cons c r =>
          rw [he, List.all_cons, Bool.and_eq_true] at hdd
          exact ⟨c, r ++ L s2, by rw [HL2.out, he]; rfl, hdd.1⟩
      obtain ⟨q1, q2⟩ := str_ne s (by rw [hcr]; simp)
      have q5 : (0 < s.size) = True := eq_true (by omega)
      have hx4 : ∀ h : 0 < s.size, ((s[0]'h).toNat : Int) = bt s 0 := bt_at s 0
      obtain ⟨b, hb⟩ : ∃ b, b = bt s 0 := ⟨_, rfl⟩
      have hbL : b = (c0.toNat : Int) := by
        rw [hb, bt_Z s 0 (Int.le_refl _) (by omega), hcr]
        rfl
      rw [← hb] at hx4
      have hd0 : 48 ≤ b ∧ b ≤ 57 := by
        unfold isDg at hcd
        rw [Bool.and_eq_true] at hcd
        have h0 := of_decide_eq_true hcd.1
        have h1 := of_decide_eq_true hcd.2
        omega
      have e0 : (b == 46) = false := beq_eq_false_iff_ne.2 (by omega)
      have e1 : decide (48 ≤ b) = true := decide_eq_true hd0.1
      have e2 : decide (b ≤ 57) = true := decide_eq_true hd0.2
      have e3 : ((s.size : Int) != (s2.size : Int)) = true := bne_iff_ne.2 (by omega)
      obtain ⟨q21, q22⟩ := str_ne s2 (by intro h; have h1 := congrArg List.length h; rw [L_len, List.length_nil] at h1; omega)
      have q25 : (0 < s2.size) = True := eq_true (by omega)
      have hx24 : ∀ h : 0 < s2.size, ((s2[0]'h).toNat : Int) = bt s2 0 := bt_at s2 0
      obtain ⟨b2, hb2⟩ : ∃ b, b = bt s2 0 := ⟨_, rfl⟩
      have e20 : (b2 == 46) = false := beq_eq_false_iff_ne.2 (by
        rw [hb2, bt_Z s2 0 (Int.le_refl _) (by omega)]
        have h1 := hub 0 (by omega)
        intro h
        have h2 : ((L s2).getD 0 0).toNat = 46 := by exact_mod_cast h
        omega)
      rw [← hb2] at hx24
      have hup := unit_pos u
      have hdn := dur_nonneg r
      have hDr : d + ((n : Int) * unitV u + durN r) = D := by have h := HD.out.2; rw [durN] at h; exact h
      have hmn : 0 ≤ (n : Int) * unitV u := Int.mul_nonneg (by omega) (by omega)
      have h9 := HD9.out
      have hdz := HD.out.1
      have hm : IntKind.u64.wrap (N * U) = N * U := wu (by rw [HN.out, HU.out]; omega) (by rw [HN.out, HU.out]; omega)
      have hnu : N * U = (n : Int) * unitV u := by rw [HN.out, HU.out]
      have hda : IntKind.u64.wrap (d + IntKind.u64.wrap (N * U)) = d + (n : Int) * unitV u := by rw [hm, hnu]; exact wu (by omega) (by omega)
      have HDM := Aside0.mk hda
      have c52 : decide (9223372036854775808 < IntKind.u64.wrap (d + IntKind.u64.wrap (N * U))) = false := decide_eq_false (by rw [hda]; omega)
      have c44 : decide (IntKind.u64.wrap (Int.tdiv 9223372036854775808 U) < N) = false := decide_eq_false (by
        rw [HN.out, HU.out, Int.tdiv_eq_ediv_of_nonneg (by omega)]
        have h2 : (9223372036854775808 : Int) / unitV u ≤ 9223372036854775808 := Int.ediv_le_self _ (by omega)
        have h3 : 0 ≤ (9223372036854775808 : Int) / unitV u := Int.ediv_nonneg (by omega) (by omega)
        rw [wu h3 (by omega)]
        have h1 : (n : Int) ≤ 9223372036854775808 / unitV u := (Int.le_ediv_iff_mul_le (by omega)).2 (by omega)
        omega)
      have c44z : (U = 0) = False := eq_false (by rw [HU.out]; omega)
      clear hm hnu hda hul hl2 hls hdl hub hcr hcd hb hbL hd0 hb2 hup hdn hDr hmn h9 hdz
      go_wp2_with (first | (go_at_call 44; (with_reducible refine (lead44n s s2 n N HN.out HL2.out HR2.out HNL.out HZ1.out _).mono ?_); rintro e w1 ⟨rfl, hb⟩; have HW1 := Aside0.mk (bl_on HW.out hb); clear hb) | go_in)
      go_loopg [16] ((unitL u).length + 1) (fun g v16 w' => ∃ x : Int, v16 = .int .i64 x ∧ Aside0 (0 ≤ x ∧ x ≤ (unitL u).length ∧ g + x.toNat = (unitL u).length + 1) ∧ Aside0 (Below w.heap.size w w'))
      case atStart => exact ⟨0, rfl, ⟨by omega, by omega, by simp⟩, HW1⟩
      case round =>
        clear HW1
        obtain ⟨x, rfl, HX, HW1⟩ := hrel
        have hp4 : 0 ≤ x := HX.out.1
        have hq5 : x ≤ (s2.size : Int) := by have h1 := HX.out; have h2 := HLZ.out; omega
        by_cases hlt : x < ((unitL u).length : Int)
        · have HXL := Aside0.mk hlt
          have hq4 : x < (s2.size : Int) := by have h2 := HLZ.out; omega
          have c33 : decide (x < (s2.size : Int)) = true := decide_eq_true hq4
          have hx34 := bt_at s2 x
          obtain ⟨b3, hb3⟩ : ∃ b, b = bt s2 x := ⟨_, rfl⟩
          have h97 : 97 ≤ b3 := by
            rw [hb3, bt_Z s2 x hp4 hq4]
            have h1 := HUB.out x.toNat (by omega)
            omega
          rw [← hb3] at hx34
          have e30 : (b3 == 46) = false := beq_eq_false_iff_ne.2 (by omega)
          have e31 : decide (48 ≤ b3) = true := decide_eq_true (by omega)
          have e32 : decide (b3 ≤ 57) = false := decide_eq_false (by omega)
          clear hlt hb3 h97
          have p4 := eq_true hp4
          have q4 := eq_true hq4
          clear hp4 hq4 hq5
          go_wp2
          go_roundg (gk - 1)
          case measure => have h1 := HX.out; have h2 := HXL.out; omega
          case rel =>
            have h1 := HX.out
            have h2 := HXL.out
            have h3 := (unit_ne u).2
            have hw : wrap64 (x + 1) = x + 1 := by unfold wrap64; omega
            exact ⟨_, rfl, ⟨by rw [hw]; omega⟩, HW1⟩
        · have HXE := Aside0.mk (show x = ((unitL u).length : Int) by have h1 := HX.out; omega)
          have HSL0 : Aside0 (s2.extract 0 x.toNat = us) := ⟨L_ext (by
            have h1 := HXE.out
            rw [ext_mk, L_mk, HL2'.out, HUS.out, show x.toNat = (unitL u).length by omega, List.drop_zero, Nat.sub_zero, List.take_left])⟩
          have HSL1 : Aside0 (s2.extract x.toNat s2.size = s3) := ⟨L_ext (by
            have h1 := HXE.out
            have h2 := HLZ.out
            rw [ext_mk, L_mk, HL2'.out, HUS.out, show x.toNat = (unitL u).length by omega, List.drop_left, List.take_of_length_le (by rw [L_len]; omega)])⟩
          clear hlt
          rcases text_head r with ht | ⟨c3, r3, ht, hd3⟩
          · have c33 : decide (x < (s2.size : Int)) = false := decide_eq_false (by
              have h1 := HXE.out
              have h2 := HLZ.out
              have h3 := congrArg List.length (HL3.out.trans ht)
              rw [L_len, List.length_nil] at h3
              omega)
            clear ht
            have p4 := eq_true hp4
            have q5 := eq_true hq5
            clear hp4 hq5
            have c37 : (x == 0) = false := beq_eq_false_iff_ne.2 (by have := HXE.out; have := (unit_ne u).1; omega)
            have hsl0 : s2.extract 0 x.toNat = us := HSL0.out
            have hsl1 : s2.extract x.toNat s2.size = s3 := HSL1.out
            go_wp2_with (first | (go_at_call 46; (with_reducible refine (units46 _).mono ?_); rintro e w2 ⟨B, rfl, ho, hb⟩; have HOW := Aside0.mk ho; have HW2 := Aside0.mk (bl_on HW1.out hb); clear ho hb) | (refine look_unit rfl _ _ rfl B rfl HOW.out us u U rfl HUS.out HU.out ?_) | go_in)
            go_roundg kO
            case measure => omega
            case rel =>
              refine ⟨s3, r, _, rfl, rfl, ⟨HL3.out⟩, ⟨by have h1 := HG.out; rw [List.length_cons] at h1; omega⟩, ⟨?_⟩, ⟨?_⟩, ⟨?_⟩, ⟨HW2.out⟩⟩
              · have h1 : 0 ≤ d ∧ d + ((n : Int) * unitV u + durN r) = D := HD.out; rw [HDM.out]; have h2 := unit_pos u; have h3 : 0 ≤ (n : Int) * unitV u := Int.mul_nonneg (by omega) (by omega); omega
              · intro p hp; exact HI.out p (List.mem_cons_of_mem _ hp)
              · have h1 := HZ1.out; have h2 := HLZ.out; omega
          · have hq4 : x < (s2.size : Int) := by
              have h1 := HXE.out
              have h2 := HLZ.out
              have h3 := congrArg List.length (HL3.out.trans ht)
              rw [L_len, List.length_cons] at h3
              omega
            have c33 : decide (x < (s2.size : Int)) = true := decide_eq_true hq4
            have hx34 := bt_at s2 x
            obtain ⟨b3, hb3⟩ : ∃ b, b = bt s2 x := ⟨_, rfl⟩
            have hb4 : b3 = (c3.toNat : Int) := by
              have h1 := HXE.out
              rw [hb3, bt_Z s2 x hp4 hq4, HL2'.out, HUS.out, HL3.out, ht, show x.toNat = (unitL u).length by omega, List.getD_eq_getElem?_getD, List.getElem?_append_right (Nat.le_refl _), Nat.sub_self]
              rfl
            rw [← hb3] at hx34
            have hdd : 48 ≤ b3 ∧ b3 ≤ 57 := by
              unfold isDg at hd3
              rw [Bool.and_eq_true] at hd3
              have h0 := of_decide_eq_true hd3.1
              have h1 := of_decide_eq_true hd3.2
              omega
            have e30 : (b3 == 46) = false := beq_eq_false_iff_ne.2 (by omega)
            have e31 : decide (48 ≤ b3) = true := decide_eq_true hdd.1
            have e32 : decide (b3 ≤ 57) = true := decide_eq_true hdd.2
            clear ht hb3 hb4 hdd hd3
            have p4 := eq_true hp4
            have q4 := eq_true hq4
            have q5 := eq_true hq5
            clear hp4 hq4 hq5
            have c37 : (x == 0) = false := beq_eq_false_iff_ne.2 (by have := HXE.out; have := (unit_ne u).1; omega)
            have hsl0 : s2.extract 0 x.toNat = us := HSL0.out
            have hsl1 : s2.extract x.toNat s2.size = s3 := HSL1.out
            go_wp2_with (first | (go_at_call 46; (with_reducible refine (units46 _).mono ?_); rintro e w2 ⟨B, rfl, ho, hb⟩; have HOW := Aside0.mk ho; have HW2 := Aside0.mk (bl_on HW1.out hb); clear ho hb) | (refine look_unit rfl _ _ rfl B rfl HOW.out us u U rfl HUS.out HU.out ?_) | go_in)
            go_roundg kO
            case measure => omega
            case rel =>
              refine ⟨s3, r, _, rfl, rfl, ⟨HL3.out⟩, ⟨by have h1 := HG.out; rw [List.length_cons] at h1; omega⟩, ⟨?_⟩, ⟨?_⟩, ⟨?_⟩, ⟨HW2.out⟩⟩
              · have h1 : 0 ≤ d ∧ d + ((n : Int) * unitV u + durN r) = D := HD.out; rw [HDM.out]; have h2 := unit_pos u; have h3 : 0 ≤ (n : Int) * unitV u := Int.mul_nonneg (by omega) (by omega); omega
              · intro p hp; exact HI.out p (List.mem_cons_of_mem _ hp)
              · have h1 := HZ1.out; have h2 := HLZ.out; omega
end Go.Proofs.YtlbcgknjliihjaaDoor
