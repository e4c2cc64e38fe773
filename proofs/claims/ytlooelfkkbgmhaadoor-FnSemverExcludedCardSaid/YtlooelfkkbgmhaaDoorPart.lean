/-
  The facts on the package-level variables that the contracts of strconv ask, and that calls keep.
-/
/-
  strconv.ParseUint(s, 10, 64) in one contract for each of its two ends, and what comparePrePart returns.
-/
import Derived.Test.YtlooelfkkbgmhaaDoorProg
import Derived.Test.YtlooelfkkbgmhaaDoorShelf
import Derived.WalkSmall
import Derived.Lib.LaidTab
import Derived.Lib.ItoaNum
import Derived.Below
import Derived.WalkKit
import Derived.ProofKit
import Derived.Lib.Hide
import Derived.WalkLawsBesides
namespace Go.Proofs.YtlooelfkkbgmhaaDoor
open Go Go.RowKit

theorem gSyntax : Tryd.prog.globalNamed "strconv.ErrSyntax" = some 1 := by kernel_rfl
theorem gRange : Tryd.prog.globalNamed "strconv.ErrRange" = some 2 := by kernel_rfl
theorem gPow : Tryd.prog.globalNamed "internal/strconv.uint64pow10" = some 0 := by kernel_rfl

/-- the two errors of strconv are errors -/
def GlobE (w : World) : Prop := (∃ tp p, w.var? Tryd.prog "strconv.ErrSyntax" = some #[.iface tp p]) ∧ (∃ tp p, w.var? Tryd.prog "strconv.ErrRange" = some #[.iface tp p])
/-- the table of the powers of ten -/
def GlobT (w : World) : Prop := Lib.TabIs Tryd.prog w "internal/strconv.uint64pow10" .u64 Lib.pow10Tab

theorem var_lt {w : World} {n : String} {g : Nat} {cs : Array Value} (hg : Tryd.prog.globalNamed n = some g) (h : w.var? Tryd.prog n = some cs) : g < w.heap.size := by
  unfold World.var? at h
  simp only [hg, Option.bind_some] at h
  by_cases hlt : g < w.heap.size
  · exact hlt
  · rw [Array.getElem?_eq_none (by omega)] at h
    cases h

theorem var_keeps {w w' : World} {n : String} {g : Nat} {cs : Array Value} (hg : Tryd.prog.globalNamed n = some g) (hb : Below w.heap.size w w') (h : w.var? Tryd.prog n = some cs) : w'.var? Tryd.prog n = some cs :=
  var?_below hb hg (var_lt hg h) h

theorem globE_below {w w' : World} (h : GlobE w) (hb : Below w.heap.size w w') : GlobE w' := by
  obtain ⟨⟨t1, p1, h1⟩, ⟨t2, p2, h2⟩⟩ := h
  exact ⟨⟨t1, p1, var_keeps gSyntax hb h1⟩, ⟨t2, p2, var_keeps gRange hb h2⟩⟩
theorem globT_below {w w' : World} (h : GlobT w) (hb : Below w.heap.size w w') : GlobT w' := var_keeps gPow hb h

end Go.Proofs.YtlooelfkkbgmhaaDoor

namespace Go.Proofs.YtlooelfkkbgmhaaDoor
open Go Go.RowKit

theorem parse_ok (s : ByteArray) (hs : s.size ≤ 281474976710656) (u : Nat) (h : Lib.parseUintB 64 s.data.toList = .ok u) (w : World) :
    Calls Tryd.prog 137 #[.string s, .int .i64 10, .int .i64 64] w fun e w' => e = .returned (.tuple #[.int .u64 u, .nilIface]) ∧ Below w.heap.size w w' :=
  (Tryd.strconv_ParseUint_10_at64_ok s (by omega) u h w).mono fun e w' ⟨he, hw⟩ => ⟨he, by
    rcases hw with rfl | rfl
    · exact Below.refl _ _
    · exact Lib.bytesWorld_below _ _ _⟩

theorem parse_err (s : ByteArray) (hs : s.size ≤ 281474976710656) (h : ∀ u, Lib.parseUintB 64 s.data.toList ≠ .ok u) (w : World) (hG : GlobE w) :
    Calls Tryd.prog 137 #[.string s, .int .i64 10, .int .i64 64] w fun e w' => ∃ (v : Int) (N : Nat), e = .returned (.tuple #[.int .u64 v, .iface 138 (.pointer (some ⟨N, 0, none⟩))]) ∧ Below w.heap.size w w' := by
  obtain ⟨⟨t1, p1, h1⟩, ⟨t2, p2, h2⟩⟩ := hG
  rcases hp : Lib.parseUintB 64 s.data.toList with u | _ | _
  · exact absurd hp (h u)
  · exact (Tryd.strconv_ParseUint_10_at64_nodigits_var s hs (hp.trans (Eq.symm (by unfold Lib.parseUintB; exact if_pos rfl))) t1 p1 w h1).mono fun e w' ⟨N, he, _, _, hb⟩ => ⟨0, N, he, hb⟩
  · exact (Tryd.strconv_ParseUint_10_at64_range_var s hs hp t2 p2 w h2).mono fun e w' ⟨N, he, _, _, hb⟩ => ⟨18446744073709551615, N, he, hb⟩

set_option maxRecDepth 100000 in
theorem part_numbers (s o : ByteArray) (hs : s.size ≤ 281474976710656) (ho : o.size ≤ 281474976710656) (hne : (s.toList == o.toList) = false) (hs0 : s.toList.isEmpty = false) (ho0 : o.toList.isEmpty = false)
    (u : Nat) (hu : Lib.parseUintB 64 s.data.toList = .ok u) (v : Nat) (hv : Lib.parseUintB 64 o.data.toList = .ok v) (w : World) (hG : GlobE w) :
    Calls Tryd.prog 118 #[.string s, .string o] w fun e w' => e = .returned (.int .i64 (if v < u then 1 else -1)) ∧ Below w.heap.size w w' := by
  have HU := Lib.hid hu
  have HV := Lib.hid hv
  clear hu hv
  have HG := Lib.hid hG
  clear hG
  go_enter Tryd.func118, Tryd.ntmps118
  go_wp2_with fail
  refine (parse_ok o ho v HV.out _).mono ?_; rintro e w1 ⟨rfl, hb1⟩
  go_wp2_with fail
  refine (parse_ok s hs u HU.out _).mono ?_; rintro e w2 ⟨rfl, hb2⟩
  go_wp2
  all_goals go_ret
  all_goals exact ⟨by first | rfl | (rw [if_pos (by assumption)]) | (rw [if_neg (by assumption)]), hb1.trans (hb2.mono hb1.size)⟩
set_option maxRecDepth 100000 in
theorem part_oerr (s o : ByteArray) (hs : s.size ≤ 281474976710656) (ho : o.size ≤ 281474976710656) (hne : (s.toList == o.toList) = false) (hs0 : s.toList.isEmpty = false) (ho0 : o.toList.isEmpty = false)
    (u : Nat) (hu : Lib.parseUintB 64 s.data.toList = .ok u) (hv : ∀ u, Lib.parseUintB 64 o.data.toList ≠ .ok u) (w : World) (hG : GlobE w) :
    Calls Tryd.prog 118 #[.string s, .string o] w fun e w' => e = .returned (.int .i64 (-1)) ∧ Below w.heap.size w w' := by
  have HU := Lib.hid hu
  have HV := Lib.hid hv
  clear hu hv
  have HG := Lib.hid hG
  clear hG
  go_enter Tryd.func118, Tryd.ntmps118
  go_wp2_with fail
  refine (parse_err o ho HV.out _ HG.out).mono ?_; rintro e w1 ⟨x1, n1, rfl, hb1⟩
  go_wp2_with fail
  refine (parse_ok s hs u HU.out _).mono ?_; rintro e w2 ⟨rfl, hb2⟩
  go_wp2
  all_goals go_ret
  all_goals exact ⟨by first | rfl | (rw [if_pos (by assumption)]) | (rw [if_neg (by assumption)]), hb1.trans (hb2.mono hb1.size)⟩
set_option maxRecDepth 100000 in
theorem part_serr (s o : ByteArray) (hs : s.size ≤ 281474976710656) (ho : o.size ≤ 281474976710656) (hne : (s.toList == o.toList) = false) (hs0 : s.toList.isEmpty = false) (ho0 : o.toList.isEmpty = false)
    (hu : ∀ u, Lib.parseUintB 64 s.data.toList ≠ .ok u) (v : Nat) (hv : Lib.parseUintB 64 o.data.toList = .ok v) (w : World) (hG : GlobE w) :
    Calls Tryd.prog 118 #[.string s, .string o] w fun e w' => e = .returned (.int .i64 (1)) ∧ Below w.heap.size w w' := by
  have HU := Lib.hid hu
  have HV := Lib.hid hv
  clear hu hv
  have HG := Lib.hid hG
  clear hG
  go_enter Tryd.func118, Tryd.ntmps118
  go_wp2_with fail
  refine (parse_ok o ho v HV.out _).mono ?_; rintro e w1 ⟨rfl, hb1⟩
  go_wp2_with fail
  refine (parse_err s hs HU.out _ (globE_below HG.out hb1)).mono ?_; rintro e w2 ⟨x2, n2, rfl, hb2⟩
  go_wp2
  all_goals go_ret
  all_goals exact ⟨by first | rfl | (rw [if_pos (by assumption)]) | (rw [if_neg (by assumption)]), hb1.trans (hb2.mono hb1.size)⟩
set_option maxRecDepth 100000 in
theorem part_texts (s o : ByteArray) (hs : s.size ≤ 281474976710656) (ho : o.size ≤ 281474976710656) (hne : (s.toList == o.toList) = false) (hs0 : s.toList.isEmpty = false) (ho0 : o.toList.isEmpty = false)
    (hu : ∀ u, Lib.parseUintB 64 s.data.toList ≠ .ok u) (hv : ∀ u, Lib.parseUintB 64 o.data.toList ≠ .ok u) (w : World) (hG : GlobE w) :
    Calls Tryd.prog 118 #[.string s, .string o] w fun e w' => e = .returned (.int .i64 (if Op.bytesLess s.toList o.toList then -1 else 1)) ∧ Below w.heap.size w w' := by
  have HU := Lib.hid hu
  have HV := Lib.hid hv
  clear hu hv
  have HG := Lib.hid hG
  clear hG
  go_enter Tryd.func118, Tryd.ntmps118
  go_wp2_with fail
  refine (parse_err o ho HV.out _ HG.out).mono ?_; rintro e w1 ⟨x1, n1, rfl, hb1⟩
  go_wp2_with fail
  refine (parse_err s hs HU.out _ (globE_below HG.out hb1)).mono ?_; rintro e w2 ⟨x2, n2, rfl, hb2⟩
  by_cases hl : Op.bytesLess s.toList o.toList = true
  · have h1 : (!Op.bytesLess s.toList o.toList) = false := by rw [hl]; rfl
    go_wp2
    go_ret
    exact ⟨by first | rfl | rw [if_pos hl], hb1.trans (hb2.mono hb1.size)⟩
  · have h1 : (!Op.bytesLess s.toList o.toList) = true := by simpa using hl
    go_wp2
    go_ret
    exact ⟨by first | rfl | rw [if_neg hl], hb1.trans (hb2.mono hb1.size)⟩

set_option maxRecDepth 100000 in
theorem part_same (s o : ByteArray) (he : (s.toList == o.toList) = true) (w : World) :
    Calls Tryd.prog 118 #[.string s, .string o] w fun e w' => e = .returned (.int .i64 0) ∧ w = w' := by
  go_enter Tryd.func118, Tryd.ntmps118
  go_wp2
  go_ret
  exact ⟨rfl, rfl⟩
set_option maxRecDepth 100000 in
theorem part_s0 (s o : ByteArray) (hs0 : s.toList = []) (ho0 : o.toList.isEmpty = false) (w : World) :
    Calls Tryd.prog 118 #[.string s, .string o] w fun e w' => e = .returned (.int .i64 (-1)) ∧ w = w' := by
  go_enter Tryd.func118, Tryd.ntmps118
  go_wp2
  go_ret
  exact ⟨rfl, rfl⟩
set_option maxRecDepth 100000 in
theorem part_o0 (s o : ByteArray) (hs0 : s.toList.isEmpty = false) (ho0 : o.toList = []) (w : World) :
    Calls Tryd.prog 118 #[.string s, .string o] w fun e w' => e = .returned (.int .i64 1) ∧ w = w' := by
  go_enter Tryd.func118, Tryd.ntmps118
  go_wp2
  go_ret
  exact ⟨rfl, rfl⟩

/-- what comparePrePart returns, over the two texts' bytes -/
def partF (s o : List UInt8) : Int :=
  if s = o then 0 else if s = [] then -1 else if o = [] then 1 else
  match Lib.parseUintB 64 o, Lib.parseUintB 64 s with
  | .ok v, .ok u => if v < u then 1 else -1
  | .ok _, _ => 1
  | _, .ok _ => -1
  | _, _ => if Op.bytesLess s o then -1 else 1

def semver_comparePrePart.f (a0 a1 : ByteArray) : Option Int :=
  if a0.size ≤ 281474976710656 ∧ a1.size ≤ 281474976710656 then some (partF a0.toList a1.toList) else none

theorem semver_comparePrePart.calls (a0 a1 : ByteArray) (r : Int) (w : World) (hGE : GlobE w) (h : semver_comparePrePart.f a0 a1 = some r) :
    Calls Tryd.prog 118 #[.string a0, .string a1] w fun e w' => e = .returned (.int .i64 r) ∧ Below w.heap.size w w' := by
  unfold semver_comparePrePart.f at h
  by_cases hz : a0.size ≤ 281474976710656 ∧ a1.size ≤ 281474976710656
  · rw [if_pos hz] at h
    obtain ⟨h0, h1⟩ := hz
    obtain rfl := Option.some.inj h
    unfold partF
    have t0 := ByteArray.toList_eq a0
    have t1 := ByteArray.toList_eq a1
    by_cases he : a0.toList = a1.toList
    · rw [if_pos he]
      exact (part_same a0 a1 (by rw [he]; exact beq_self_eq_true _) w).mono fun e w' ⟨h1, h2⟩ => ⟨h1, h2 ▸ Below.refl _ _⟩
    · rw [if_neg he]
      have hne : (a0.toList == a1.toList) = false := by simpa using he
      by_cases hs : a0.toList = []
      · rw [if_pos hs]
        have ho : a1.toList.isEmpty = false := by
          cases h : a1.toList with
          | nil => exact absurd (hs.trans h.symm) he
          | cons a l => rfl
        exact (part_s0 a0 a1 hs ho w).mono fun e w' ⟨h1, h2⟩ => ⟨h1, h2 ▸ Below.refl _ _⟩
      · rw [if_neg hs]
        have hs0 : a0.toList.isEmpty = false := by simpa using hs
        by_cases ho : a1.toList = []
        · rw [if_pos ho]
          exact (part_o0 a0 a1 hs0 ho w).mono fun e w' ⟨h1, h2⟩ => ⟨h1, h2 ▸ Below.refl _ _⟩
        · rw [if_neg ho]
          have ho0 : a1.toList.isEmpty = false := by simpa using ho
          rcases pv : Lib.parseUintB 64 a1.toList with v | _ | _
          ·
            rcases pu : Lib.parseUintB 64 a0.toList with u | _ | _
            · exact part_numbers a0 a1 h0 h1 hne hs0 ho0 u (by rw [← t0]; exact pu) v (by rw [← t1]; exact pv) w hGE
            · exact part_serr a0 a1 h0 h1 hne hs0 ho0 (by rw [← t0, pu]; intro u hu; cases hu) v (by rw [← t1]; exact pv) w hGE
            · exact part_serr a0 a1 h0 h1 hne hs0 ho0 (by rw [← t0, pu]; intro u hu; cases hu) v (by rw [← t1]; exact pv) w hGE
          ·
            have e1 : ∀ u, Lib.parseUintB 64 a1.data.toList ≠ .ok u := by rw [← t1, pv]; intro u hu; cases hu
            rcases pu : Lib.parseUintB 64 a0.toList with u | _ | _
            · exact part_oerr a0 a1 h0 h1 hne hs0 ho0 u (by rw [← t0]; exact pu) e1 w hGE
            · exact part_texts a0 a1 h0 h1 hne hs0 ho0 (by rw [← t0, pu]; intro u hu; cases hu) e1 w hGE
            · exact part_texts a0 a1 h0 h1 hne hs0 ho0 (by rw [← t0, pu]; intro u hu; cases hu) e1 w hGE
          ·
            have e1 : ∀ u, Lib.parseUintB 64 a1.data.toList ≠ .ok u := by rw [← t1, pv]; intro u hu; cases hu
            rcases pu : Lib.parseUintB 64 a0.toList with u | _ | _
            · exact part_oerr a0 a1 h0 h1 hne hs0 ho0 u (by rw [← t0]; exact pu) e1 w hGE
            · exact part_texts a0 a1 h0 h1 hne hs0 ho0 (by rw [← t0, pu]; intro u hu; cases hu) e1 w hGE
            · exact part_texts a0 a1 h0 h1 hne hs0 ho0 (by rw [← t0, pu]; intro u hu; cases hu) e1 w hGE
  · rw [if_neg hz] at h; cases h
end Go.Proofs.YtlooelfkkbgmhaaDoor
