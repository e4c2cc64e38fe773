/-
  The specification's StrictVersion walked; contracts for the law.
-/
import Derived.Test.YtdomidlpkffigaaDoorSix
import Derived.Test.YtdomidlpkffigaaDoorRows
import Derived.Stop.LaidErr
import Derived.LaidLaws
import Derived.Lib.LaidTab
import Derived.MakeChecks
set_option linter.unusedVariables false
set_option linter.unusedSimpArgs false
namespace Go.Proofs.YtdomidlpkffigaaDoor
open Go Go.RowKit Go.Proofs.YtdomidlpkffigaaDoorW.PrintWords Go.Proofs.YtdomidlpkffigaaDoorW.PrintLast Go.Proofs.YtdomidlpkffigaaDoor.Gram

set_option maxHeartbeats 8000000 in
set_option maxRecDepth 100000 in
theorem spec6_far (s : ByteArray) (h : 256 < s.size) (w : World) :
    Calls Tryd.prog 6 #[.string s] w fun e w' => e = .returned (.tuple #[.agg #[.int .u64 0, .int .u64 0, .int .u64 0, .string ⟨#[]⟩, .string ⟨#[]⟩], .bool false]) ∧ Below w.heap.size w w' := by
  have HF := Aside0.mk (fz_start w)
  obtain ⟨z0, z1, z2, z3, z4, f0, f1, f2, f3, f4⟩ := fz_facts HF.out
  have c1 : decide (256 < (s.size : Int)) = true := decide_eq_true (by omega)
  clear h
  go_enter Tryd.func6, Tryd.ntmps6
  go_wp2
  refine bodyPost_ret (v := .tuple #[.agg #[.int .u64 0, .int .u64 0, .int .u64 0, .string ⟨#[]⟩, .string ⟨#[]⟩], .bool false]) (by simp [results, Tryd.results6, go_sem, z0, z1, z2, z3, z4, f0, f1, f2, f3, f4]) rfl ⟨rfl, ?_⟩
  first | exact fz_set HF.out _ _ _ _ _ | exact HF.out.2.2
set_option maxHeartbeats 8000000 in
set_option maxRecDepth 100000 in
theorem spec6_near (s : ByteArray) (h : ¬ 256 < s.size) (n0 n1 n2 : Int) (pre mt : ByteArray) (ok : Bool) (hc : ∀ w, Calls Tryd.prog 10 #[.string s] w fun e w' => e = .returned (.tuple #[.agg #[.int .u64 n0, .int .u64 n1, .int .u64 n2, .string pre, .string mt], .bool ok]) ∧ Below w.heap.size w w') (w : World) :
    Calls Tryd.prog 6 #[.string s] w fun e w' => e = .returned (.tuple #[.agg #[.int .u64 n0, .int .u64 n1, .int .u64 n2, .string pre, .string mt], .bool ok]) ∧ Below w.heap.size w w' := by
  have HF := Aside0.mk (fz_start w)
  have HC := Aside0.mk hc
  have c1 : decide (256 < (s.size : Int)) = false := decide_eq_false (by omega)
  clear h hc
  go_enter Tryd.func6, Tryd.ntmps6
  go_wp2_with (go_at_call 10; (with_reducible refine (HC.out _).mono ?_); rintro e w2 ⟨rfl, hb⟩; have HF2 := Aside0.mk (fz_on HF.out hb); obtain ⟨z0, z1, z2, z3, z4, f0, f1, f2, f3, f4⟩ := fz_facts HF2.out; clear hb)
  refine bodyPost_ret (v := .tuple #[.agg #[.int .u64 n0, .int .u64 n1, .int .u64 n2, .string pre, .string mt], .bool ok]) (by simp [results, Tryd.results6, go_sem, z0, z1, z2, z3, z4, f0, f1, f2, f3, f4]) rfl ⟨rfl, fz_set HF2.out _ _ _ _ _⟩
/-- what both read -/
def verR (s : ByteArray) : Int × Int × Int × ByteArray × ByteArray × Bool :=
  match strictL (L s) with | some (u0, u1, u2, pre, mt) => ((u0 : Int), (u1 : Int), (u2 : Int), mkB pre, mkB mt, true) | none => (0, 0, 0, ⟨#[]⟩, ⟨#[]⟩, false)
def retV (v : Int × Int × Int × ByteArray × ByteArray × Bool) : Ending := .returned (.tuple #[.agg #[.int .u64 v.1, .int .u64 v.2.1, .int .u64 v.2.2.1, .string v.2.2.2.1, .string v.2.2.2.2.1], .bool v.2.2.2.2.2])
theorem post5_ret {s : ByteArray} {e : Ending} (h : Post5 s e) : e = retV (verR s) := by
  unfold Post5 at h
  unfold verR
  cases hs : strictL (L s) with
  | none => rw [hs] at h; exact h
  | some q =>
    obtain ⟨u0, u1, u2, pre, mt⟩ := q
    rw [hs] at h
    exact h
theorem spec6 (s : ByteArray) (w : World) : Calls Tryd.prog 6 #[.string s] w fun e w' => e = retV (verR s) ∧ Below w.heap.size w w' := by
  by_cases h : 256 < s.size
  · refine (spec6_far s h w).mono fun e w' he => ⟨?_, he.2⟩
    unfold verR strictL
    rw [if_pos (Or.inr (by rw [L_len]; exact h))]
    exact he.1
  · exact spec6_near s h _ _ _ _ _ _ (fun w => (gram10 s h w).mono fun e w' he => ⟨post5_ret he.1, he.2⟩) w
/-- all that is asked of the package-level variables -/
def GlobT (w : World) : Prop := GlobS w ∧ GlobE w ∧ GlobP w
theorem globT_below {w w' : World} (h : GlobT w) (hb : Below w.heap.size w w') : GlobT w' := ⟨globS_below h.1 hb, globE_below h.2.1 hb, globP_below h.2.2 hb⟩
end Go.Proofs.YtdomidlpkffigaaDoor
namespace Go.Proofs.YtdomidlpkffigaaDoor.QW
open Go Go.RowKit Go.Proofs.YtdomidlpkffigaaDoor Go.Proofs.YtdomidlpkffigaaDoorW.PrintWords Go.Proofs.YtdomidlpkffigaaDoorW.PrintLast Go.Proofs.YtdomidlpkffigaaDoor.Gram
def impl_StrictVersion.f (s : ByteArray) : Option (Int × Int × Int × ByteArray × ByteArray × Bool) := some (verR s)
theorem impl_StrictVersion.calls (a0 : ByteArray) (r1 r2 r3 : Int) (r4 r5 : ByteArray) (r6 : Bool) (w : World) (hg : GlobT w) (h : impl_StrictVersion.f a0 = some (r1, r2, r3, r4, r5, r6)) :
    Calls Tryd.prog 5 #[.string a0] w fun e w' => e = .returned (.tuple #[.agg #[.int .u64 r1, .int .u64 r2, .int .u64 r3, .string r4, .string r5], .bool r6]) ∧ Below w.heap.size w w' := by
  have h1 : verR a0 = (r1, r2, r3, r4, r5, r6) := Option.some.inj h
  exact (strict5 a0 w hg.1 hg.2.1).mono fun e w' he => ⟨by have := post5_ret he.1; rw [h1] at this; exact this, he.2⟩
def spec_StrictVersion.f (s : ByteArray) : Option (Int × Int × Int × ByteArray × ByteArray × Bool) := some (verR s)
theorem spec_StrictVersion.calls (a0 : ByteArray) (r1 r2 r3 : Int) (r4 r5 : ByteArray) (r6 : Bool) (w : World) (h : spec_StrictVersion.f a0 = some (r1, r2, r3, r4, r5, r6)) :
    Calls Tryd.prog 6 #[.string a0] w fun e w' => e = .returned (.tuple #[.agg #[.int .u64 r1, .int .u64 r2, .int .u64 r3, .string r4, .string r5], .bool r6]) ∧ Below w.heap.size w w' := by
  have h1 : verR a0 = (r1, r2, r3, r4, r5, r6) := Option.some.inj h
  exact (spec6 a0 w).mono fun e w' he => ⟨by have := he.1; rw [h1] at this; exact this, he.2⟩
def impl_VersionText.f (n0 n1 n2 : Int) (pre mt : ByteArray) : Option ByteArray :=
  if 0 ≤ n0 ∧ n0 < 18446744073709551616 ∧ 0 ≤ n1 ∧ n1 < 18446744073709551616 ∧ 0 ≤ n2 ∧ n2 < 18446744073709551616 ∧ pre.size + mt.size ≤ 100000 then some (textV n0.toNat n1.toNat n2.toNat pre mt) else none
theorem impl_VersionText.calls (n0 n1 n2 : Int) (pre mt : ByteArray) (r : ByteArray) (w : World) (hg : GlobT w) (h : impl_VersionText.f n0 n1 n2 pre mt = some r) :
    Calls Tryd.prog 7 #[.agg #[.int .u64 n0, .int .u64 n1, .int .u64 n2, .string pre, .string mt]] w fun e w' => e = .returned (.string r) ∧ Below w.heap.size w w' := by
  unfold impl_VersionText.f at h
  by_cases hc : 0 ≤ n0 ∧ n0 < 18446744073709551616 ∧ 0 ≤ n1 ∧ n1 < 18446744073709551616 ∧ 0 ≤ n2 ∧ n2 < 18446744073709551616 ∧ pre.size + mt.size ≤ 100000
  · rw [if_pos hc] at h
    obtain rfl := Option.some.inj h
    obtain ⟨u0, rfl⟩ := Int.eq_ofNat_of_zero_le hc.1
    obtain ⟨u1, rfl⟩ := Int.eq_ofNat_of_zero_le hc.2.2.1
    obtain ⟨u2, rfl⟩ := Int.eq_ofNat_of_zero_le hc.2.2.2.2.1
    exact text7 u0 u1 u2 pre mt (by omega) (by omega) (by omega) hc.2.2.2.2.2.2 w hg.2.2
  · rw [if_neg hc] at h; cases h
end Go.Proofs.YtdomidlpkffigaaDoor.QW
